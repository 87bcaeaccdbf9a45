import JvmDerived
import JvmDerived.Pilot.@@N@@Statement
import JvmDerived.Pilot.@@N@@Code
set_option linter.unusedVariables false
set_option linter.unusedSimpArgs false
@@BLOCK:NumsL.lean.txt@@
@@BLOCK:Masks.lean.txt@@
namespace Jvm.RoadKit
open Sem ClassFile Op Lib Jvm.Stand Jvm.Free Jvm.LawKit
section New
variable {p : Program} {l : Launch} {e : Env} {R : Room} {s : State} {m : MethodId} {args : Array Value} {below : List Frame} {meth : Method} {c : Code} {T : State} {locs : List Loc} {cells slots : Nat}
theorem retI (X : Stand p l e R s m args below meth c T locs cells slots) (hx : p.tables.exec = Jvm.exec) {pc : Nat} {Ls : Array Slot} {z : Int32} {rest : List Value} (hret : meth.sig.returnType = some .int) (hd : decode c.code pc = .ok (.ireturn, 1)) {fs : List Frame}
    (hl : ∀ (f : JFrame) (acts : List Action), f.method = m → f.locked = none → f.entered = [] → (doReturn e (T.setTop f) acts (some (.int z))).1 = T.setFrames fs) : Steps p.tables e below (T.setTop (mkF m pc Ls (.int z :: rest))) (T.setFrames fs) := by
  have hm' : T.vm.method? m = some meth := X.method'
  have hn : narrow .int (.int z) = .int z := rfl
  show Steps p.tables e below (T.setTop { method := m, pc := pc, locals := Ls, stack := _ :: rest, locked := none }) _
  jvm_step X.here [X.here.top, hx, hd, hm', hret, hn]
  first | (intro acts; rw [hl _ acts rfl rfl rfl]) | rw [hl _ _ rfl rfl rfl]
  exact Steps.refl _
end New
end Jvm.RoadKit
namespace Jvm.Pilot.@@N@@
open Jvm Jvm.ClassFile Sem Op Lib Jvm.Free Jvm.Stand Jvm.LawKit Jvm.RoadKit Bundle Jvm.Pilot.@@N@@.Jvm.D
section Own
variable {p : Program} {l : Launch} {e : Env} {R : Room} {s : State} {m : MethodId} {args : Array Value} {below : List Frame} {meth : Method} {c : Code} {T : State} {locs : List Loc} {cells slots : Nat}
/-- from U the run comes to an end that Q allows -/
def own_Go (p : Program) (e : Env) (below : List Frame) (s : State) (kc ks : Nat) (Q : Option Value → Heap → List Loc → Prop) (U : State) : Prop :=
  ∃ s₂ o, Steps p.tables e below U s₂ ∧ s₂.status = .running ∧ Ended s₂ below o ∧ ∃ v L, o = .returned v ∧ Q v s₂.heap L ∧ FrameEnd s o s₂ L kc ks
theorem own_step {kc ks : Nat} {Q : Option Value → Heap → List Loc → Prop} {U U' : State} (k : ∀ t, Steps p.tables e below U' t → Steps p.tables e below U t) (g : own_Go p e below s kc ks Q U') : own_Go p e below s kc ks Q U := by
  obtain ⟨s₂, o, h, r⟩ := g
  exact ⟨s₂, o, k _ h, r⟩
theorem own_ret {kc ks : Nat} {Q : Option Value → Heap → List Loc → Prop} {U : State} (X : Stand p l e R s m args below meth c T locs cells slots) {v : Option Value} (hv : meth.sig.returnType = none → v = none) (hlocks : meth.locks = false) (hk : cells ≤ kc) (hs : slots ≤ ks) (hq : Q v T.heap locs)
    (k : ∀ fs, (∀ (f : JFrame) (acts : List Action), f.method = m → f.locked = none → f.entered = [] → (doReturn e (T.setTop f) acts v).1 = T.setFrames fs) → Steps p.tables e below U (T.setFrames fs)) : own_Go p e below s kc ks Q U := by
  obtain ⟨fs, hr, hrun, hended, hW, hsame⟩ := X.leave (v := v) hv hlocks
  exact ⟨_, _, k fs hr, hrun, hended, v, locs, rfl, hq, ⟨_, rfl⟩, hW, hsame.mono hk hs⟩
def own_GoW (p : Program) (e : Env) (below : List Frame) (s : State) (kc ks : Nat) (Q : Option Value → Heap → List Loc → Prop) (U : State) : Prop :=
  ∃ s₂ o, Steps p.tables e below U s₂ ∧ s₂.status = .running ∧ Ended s₂ below o ∧ ∃ v L, o = .returned v ∧ Q v s₂.heap L ∧ ReturnedEndW s o s₂ L kc ks
theorem own_stepW {kc ks : Nat} {Q : Option Value → Heap → List Loc → Prop} {U U' : State} (k : ∀ t, Steps p.tables e below U' t → Steps p.tables e below U t) (g : own_GoW p e below s kc ks Q U') : own_GoW p e below s kc ks Q U := by
  obtain ⟨s₂, o, h, r⟩ := g
  exact ⟨s₂, o, k _ h, r⟩
theorem own_retW {kc ks : Nat} {Q : Option Value → Heap → List Loc → Prop} {U : State} {vm₁ : Vm} {n : Nat} (X : Stand p l e R (s.setVm vm₁) m args below meth c T locs cells slots) (hS : s.Since vm₁ n) (hn : n ≤ T.heap.size) {v : Option Value} (hv : meth.sig.returnType = none → v = none) (hlocks : meth.locks = false) (hk : cells ≤ kc) (hs : slots ≤ ks) (hq : Q v T.heap locs)
    (k : ∀ fs, (∀ (f : JFrame) (acts : List Action), f.method = m → f.locked = none → f.entered = [] → (doReturn e (T.setTop f) acts v).1 = T.setFrames fs) → Steps p.tables e below U (T.setFrames fs)) : own_GoW p e below s kc ks Q U := by
  obtain ⟨fs, hr, hrun, hended, h1, h2, h3, h4⟩ := X.leaveW hS hn (v := v) hv hlocks
  exact ⟨_, _, k fs hr, hrun, hended, v, locs, rfl, hq, h1, h2, h3, h4.mono hk hs⟩
theorem own_narR {t : FieldType} {v : Value} (h : v.isRef = true) : narrow t v = v := by cases v <;> first | (cases h; done) | (cases t <;> rfl)
theorem own_fitR {t : String} {v : Value} (h : v.isRef = true) : fits (.object t) v = true := by cases v <;> first | (cases h; done) | rfl
theorem own_at {h : Heap} {a : Addr} {k : Cell} (e : T.heap = h) (q : h[a]? = some k) : T.heap[a]? = some k := e ▸ q
theorem own_pl0 {h : Heap} : ∀ a ∈ ([] : List Addr), ∀ c : Cell, h[a]? = some c → c.vm.isStatics = false := fun _ q => nomatch q
theorem own_plE {Z : State} {h : Heap} {a : Addr} {C : String} {ws : List Addr} (E : Exa Z h a C) (r : ∀ x ∈ ws, ∀ c : Cell, h[x]? = some c → c.vm.isStatics = false) : ∀ x ∈ a :: ws, ∀ c : Cell, h[x]? = some c → c.vm.isStatics = false := fun x hx c hc => by
  rcases List.mem_cons.mp hx with rfl | q
  · obtain ⟨cell, k, h1, -, -, h4, -⟩ := E
    cases h1.symm.trans hc; exact h4
  · exact r x q c hc
theorem own_plF {Z : State} {h : Heap} {a : Addr} {C n d : String} {v : Value} {ws : List Addr} (E : Fld Z h a C n d v) (r : ∀ x ∈ ws, ∀ c : Cell, h[x]? = some c → c.vm.isStatics = false) : ∀ x ∈ a :: ws, ∀ c : Cell, h[x]? = some c → c.vm.isStatics = false := fun x hx c hc => by
  rcases List.mem_cons.mp hx with rfl | q
  · exact old_plain E c hc
  · exact r x q c hc
theorem own_plV {Z : State} {h : Heap} {a : Addr} {k : ClassId} {ty : FieldType} {z : Int32} {vs : List Value} {d : Value} {ws : List Addr} (E : Arv Z h a k ty z vs d) (r : ∀ x ∈ ws, ∀ c : Cell, h[x]? = some c → c.vm.isStatics = false) : ∀ x ∈ a :: ws, ∀ c : Cell, h[x]? = some c → c.vm.isStatics = false := fun x hx c hc => by
  rcases List.mem_cons.mp hx with rfl | q
  · obtain ⟨cl, A, -⟩ := E
    cases A.1.symm.trans hc; exact A.plain
  · exact r x q c hc
theorem own_sta_keep {Z : State} {h h' : Heap} {C n d : String} {w : Value} {ws : List Addr} (F : Sta Z h C n d w) (K : Keep h h' ws) (r : ∀ x ∈ ws, ∀ c : Cell, h[x]? = some c → c.vm.isStatics = false) : Sta Z h' C n d w := by
  obtain ⟨cf, i, k, f, st, cell, h1, h2, h3, h4, h5, h6, h7⟩ := F
  exact ⟨cf, i, k, f, st, cell, h1, h2, h3, h4, K.2.1 st cell h5 (fun q => by rw [r st q cell h5] at h6; cases h6), h6, h7⟩
end Own
theorem own_off_skip {a o d : Int} {r : List (Int × Int)} {x k : Int32} (ha : k.toInt = a) (h : ¬ x = k) : lookupswitch.offset ((a, o) :: r) d x.toInt = lookupswitch.offset r d x.toInt := by
  rw [lookupswitch.offset_cons]
  exact if_neg fun q => h (Int32.toInt_inj.mp (q.symm.trans ha.symm))
theorem own_lsw {tb : Tables} [Ours tb] {e : Env} {below : List Frame} {T target : State} {m : MethodId} {c : Code} {g : JFrame} (h : At T m c below) (hx : tb.exec = Jvm.exec) (hg : g.method = m) {dflt : Int} {prs : Array (Int × Int)} {len : Nat} {o : Int} {pc0 pc' : Nat} (hpc : g.pc = pc0) (hd : decode c.code g.pc = .ok (.lookupswitch dflt prs, len)) {i : Int32} {rest : List Value} (hs : g.stack = .int i :: rest)
    (hsort : (prs.toList.zip (prs.toList.drop 1)).all (fun (a, next) => a.1 < next.1) = true) (hoff : lookupswitch.offset prs.toList dflt i.toInt = o) (ho : 0 ≤ (pc0 : Int) + o) (hp : ((pc0 : Int) + o).toNat = pc')
    (hr : Steps tb e below (T.setTop { g with pc := pc', stack := rest }) target) : Steps tb e below (T.setTop g) target := by
  subst hg hpc hp hoff
  jvm_step h [h.top, hx, hd, hs, ho, lookupswitch.wp_chain]
  refine ⟨?_, hr⟩
  simpa using hsort
def own_pool : List Int32 := [1, 12, -1, -15, -9, -16, -2, -3, -4, 0, 2, 3, 4, -5, -6, -7, -8, 5, 6, 7, 8, 91, 2005, 2011, 11, 13, -10, -11, -14, -17, -2147483648, 2147483647]
def own_pk (j : Int32) : Int32 := own_pool.getD j.toNatClampNeg 0
theorem own_getmap (l : List Int32) (i : Nat) : (l.map Value.int).getD i (.int 0) = .int (l.getD i 0) := by
  simp only [List.getD_eq_getElem?_getD, List.getElem?_map]
  cases l[i]? <;> rfl
theorem own_pk_at (j : Int32) : ([(.int (1 : Int32)), (.int (12 : Int32)), (.int (-1 : Int32)), (.int (-15 : Int32)), (.int (-9 : Int32)), (.int (-16 : Int32)), (.int (-2 : Int32)), (.int (-3 : Int32)), (.int (-4 : Int32)), (.int (0 : Int32)), (.int (2 : Int32)), (.int (3 : Int32)), (.int (4 : Int32)), (.int (-5 : Int32)), (.int (-6 : Int32)), (.int (-7 : Int32)), (.int (-8 : Int32)), (.int (5 : Int32)), (.int (6 : Int32)), (.int (7 : Int32)), (.int (8 : Int32)), (.int (91 : Int32)), (.int (2005 : Int32)), (.int (2011 : Int32)), (.int (11 : Int32)), (.int (13 : Int32)), (.int (-10 : Int32)), (.int (-11 : Int32)), (.int (-14 : Int32)), (.int (-17 : Int32)), (.int (-2147483648 : Int32)), (.int (2147483647 : Int32))] : List Value).getD j.toNatClampNeg (.int (0 : Int32)) = .int (own_pk j) := own_getmap own_pool _
theorem own_ix (x : Int32) : ¬ (XT.ushr x 1 % (32 : Int32)) < 0 ∧ (XT.ushr x 1 % (32 : Int32)) < 32 := by
  have h0 : 0 ≤ (XT.ushr x 1).toInt := by
    have := Jvm.Kit.i32_iushr_nonneg x (n := ((1 : Int32) &&& 31).toUInt32) (k := 1) (by decide) (by decide) (by decide)
    rw [Int32.le_iff_toInt_le] at this
    exact this
  have e : (XT.ushr x 1 % (32 : Int32)).toInt = (XT.ushr x 1).toInt % 32 := by
    rw [Jvm.Kit.i32_rem_nonneg h0]; rfl
  have e0 : (0 : Int32).toInt = 0 := rfl
  have e1 : (32 : Int32).toInt = 32 := rfl
  rw [Int32.lt_iff_toInt_lt, Int32.lt_iff_toInt_lt]
  omega
def own_ic (t : Int32) : Int32 := if t = -16 then 1 else if t = -15 then 1 else if t = -9 then 1 else if t = -1 then 1 else if t = 1 then 1 else if t = 12 then 1 else 0
def own_ce (c : Int32) : Int32 := if 255 < c then 0 else 1
theorem own_le255 (x : Int32) : ¬ 255 < (x &&& 255).toUInt32.toUInt16.toUInt32.toInt32 := by
  rw [i2c_mask, Int32.lt_iff_toInt_lt]
  have := Jvm.Kit.i32_mask x 255 (k := 8) (by decide) (by decide)
  have e : (255 : Int32).toInt = 255 := rfl
  omega
theorem own_pn0 : plainName "java/lang/StringLatin1" = true := by first | (simp [plainName, overriddenIn]; done) | decide +kernel
theorem own_d2_0 : decode jdk_43_method_3_code 0 = .ok (.iload_n 0, 1) := by decide +kernel
theorem own_d2_1 : decode jdk_43_method_3_code 1 = .ok (.sipush 255, 3) := by decide +kernel
theorem own_d2_4 : decode jdk_43_method_3_code 4 = .ok (.if_icmp .gt 7, 3) := by decide +kernel
theorem own_d2_7 : decode jdk_43_method_3_code 7 = .ok (.iconst 1, 1) := by decide +kernel
theorem own_d2_8 : decode jdk_43_method_3_code 8 = .ok (.goto 4, 3) := by decide +kernel
theorem own_d2_11 : decode jdk_43_method_3_code 11 = .ok (.iconst 0, 1) := by decide +kernel
theorem own_d2_12 : decode jdk_43_method_3_code 12 = .ok (.ireturn, 1) := by decide +kernel
def own_Q_ce (Z : State) (p1 : Int32) (h0 : Heap) (n0 : Nat) (v : Option Value) (h : Heap) (L : List Loc) : Prop := v = some (.int (own_ce p1)) ∧ Fr n0 L ∧ h = h0
set_option maxRecDepth 65536 in
set_option maxHeartbeats 40000000 in
theorem own_m_ce (l : Launch) (Z : State) (a0 : Array Value) (hw : ∀ d ∈ tables_1, d.before a0 Z = true) (ws : List Jvm.Cond) (p1 : Int32) (h0 : Heap) (n0 : Nat) (Z0 : n0 ≤ h0.size)  :
    MetFree l (⟨"java/lang/StringLatin1", "canEncode", "(C)Z"⟩ : MethodName) (head1 (Jvm.Cond.code (⟨"java/lang/StringLatin1", "canEncode", "(C)Z"⟩ : MethodName) jdk_43_method_3_code 1 (some .boolean) :: ws) ({ frames := 0, cells := 0, slots := 0, locals := 0 } : Room)) (fun a U => a = #[(.int p1)] ∧ Z.Warmed39 U.vm ∧ U.heap = h0) (fun _ _ _ _ _ => True) (fun _ U o U' => ∃ v L, o = .returned v ∧ own_Q_ce Z p1 h0 n0 v U'.heap L ∧ FrameEnd U o U' L ({ frames := 0, cells := 0, slots := 0, locals := 0 } : Room).cells ({ frames := 0, cells := 0, slots := 0, locals := 0 } : Room).slots) := by
  refine MetFree.of_bodySF (plainFor_of_name own_pn0) hisR ?_
  intro p e s m args below meth c s₁ Bd hml0 hP hK
  obtain ⟨rfl, hZ, hh⟩ := hP
  have hx := Bd.exec
  have hby := Bd.bytes
  have hml : c.maxLocals = 1 := hml0
  have hown : s.vm.findClass "java/lang/StringLatin1" = some m.cls := findClass_of_methodNamed Bd.named
  have hnm := (name_of_methodNamed Bd.named Bd.method).1
  have X0 : Stand p l e ({ frames := 0, cells := 0, slots := 0, locals := 0 } : Room) s m #[(.int p1)] below meth c s₁ [] 0 0 := Stand.of_body Bd
  have e0 : s₁.heap = h0 := by rw [← hh, Bd.state]; rfl
  have N0 := Fr.nil n0
  have K0 : Keep h0 h0 [] := Keep.refl _ _
  show own_Go p e below s ({ frames := 0, cells := 0, slots := 0, locals := 0 } : Room).cells ({ frames := 0, cells := 0, slots := 0, locals := 0 } : Room).slots (own_Q_ce Z p1 h0 n0) (s₁.setTop (entryFrame m #[(.int p1)] 1))
  have ef : entryFrame m #[(.int p1)] 1 = (mkF m 0 #[.val (.int p1)] []) := by first | rfl | (simp [entryFrame, mkF, argsToLocals, Value.category, maxLocals]; done)
  rw [ef]
  show own_Go p e below s _ _ _ (s₁.setTop (mkF m 0 #[.val (.int p1)] []))
  refine own_step (U' := (s₁.setTop (mkF m 1 #[.val (.int p1)] [(.int p1)]))) (fun t ht => XS.iloadN X0.here hx rfl (hb hby own_d2_0) rfl ht) ?_
  refine own_step (U' := (s₁.setTop (mkF m 4 #[.val (.int p1)] [(.int (255 : Int32)), (.int p1)]))) (fun t ht => XS.sipush X0.here hx rfl (hb hby own_d2_1) ht) ?_
  by_cases hc4_1 : (255 : Int32) < p1
  ·
    refine own_step (U' := (s₁.setTop (mkF m 11 #[.val (.int p1)] []))) (fun t ht => XS.icmpYes X0.here hx rfl (pc0 := 4) (pc' := 11) rfl (hb hby own_d2_4) rfl (XT.ii_gt_t hc4_1) (by decide) (by decide) ht) ?_
    refine own_step (U' := (s₁.setTop (mkF m 12 #[.val (.int p1)] [(.int (0 : Int32))]))) (fun t ht => XS.iconst X0.here hx rfl (hb hby own_d2_11) ht) ?_
    refine own_ret X0 (v := (some (.int (nar .boolean (0 : Int32))))) (fun h => by rw [Bd.returns] at h; cases h) Bd.notSynchronized (by decide) (by decide) ?_ (fun fs hr => retN X0 hx (t := .boolean) Bd.returns (by simp) (hb hby own_d2_12) hr)
    show own_Q_ce Z p1 h0 n0 _ s₁.heap _
    rw [e0]
    refine ⟨?_, N0, rfl⟩
    simp [own_ce, nar, hc4_1]
  ·
    refine own_step (U' := (s₁.setTop (mkF m 7 #[.val (.int p1)] []))) (fun t ht => XS.icmpNo X0.here hx rfl (hb hby own_d2_4) rfl (XT.ii_gt_f hc4_1) ht) ?_
    refine own_step (U' := (s₁.setTop (mkF m 8 #[.val (.int p1)] [(.int (1 : Int32))]))) (fun t ht => XS.iconst X0.here hx rfl (hb hby own_d2_7) ht) ?_
    refine own_step (U' := (s₁.setTop (mkF m 12 #[.val (.int p1)] [(.int (1 : Int32))]))) (fun t ht => XS.goto X0.here hx rfl (pc0 := 8) (pc' := 12) rfl (hb hby own_d2_8) (by decide) (by decide) ht) ?_
    refine own_ret X0 (v := (some (.int (nar .boolean (1 : Int32))))) (fun h => by rw [Bd.returns] at h; cases h) Bd.notSynchronized (by decide) (by decide) ?_ (fun fs hr => retN X0 hx (t := .boolean) Bd.returns (by simp) (hb hby own_d2_12) hr)
    show own_Q_ce Z p1 h0 n0 _ s₁.heap _
    rw [e0]
    refine ⟨?_, N0, rfl⟩
    simp [own_ce, nar, hc4_1]
theorem own_d3_0 : decode jdk_43_method_46_code 0 = .ok (.iconst 1, 1) := by decide +kernel
theorem own_d3_1 : decode jdk_43_method_46_code 1 = .ok (.newarray .byte, 2) := by decide +kernel
theorem own_d3_3 : decode jdk_43_method_46_code 3 = .ok (.dup, 1) := by decide +kernel
theorem own_d3_4 : decode jdk_43_method_46_code 4 = .ok (.iconst 0, 1) := by decide +kernel
theorem own_d3_5 : decode jdk_43_method_46_code 5 = .ok (.iload_n 0, 1) := by decide +kernel
theorem own_d3_6 : decode jdk_43_method_46_code 6 = .ok (.i2b, 1) := by decide +kernel
theorem own_d3_7 : decode jdk_43_method_46_code 7 = .ok (.bastore, 1) := by decide +kernel
theorem own_d3_8 : decode jdk_43_method_46_code 8 = .ok (.areturn, 1) := by decide +kernel
def own_Q_tob (Z : State) (p1 : Int32) (h0 : Heap) (n0 : Nat) (v : Option Value) (h : Heap) (L : List Loc) : Prop := ∃ (r : Addr), v = some (.ref r) ∧ Fr n0 L ∧ Keep h0 h [] ∧ h0.size ≤ r
set_option maxRecDepth 65536 in
set_option maxHeartbeats 40000000 in
theorem own_m_tob (l : Launch) (Z : State) (a0 : Array Value) (hw : ∀ d ∈ tables_1, d.before a0 Z = true) (ws : List Jvm.Cond) (p1 : Int32) (h0 : Heap) (n0 : Nat) (Z0 : n0 ≤ h0.size)  :
    MetFree l (⟨"java/lang/StringLatin1", "toBytes", "(C)[B"⟩ : MethodName) (head1 (Jvm.Cond.code (⟨"java/lang/StringLatin1", "toBytes", "(C)[B"⟩ : MethodName) jdk_43_method_46_code 1 (some (.array .byte)) :: ws) ({ frames := 0, cells := 1, slots := 1, locals := 0 } : Room)) (fun a U => a = #[(.int p1)] ∧ Z.Warmed39 U.vm ∧ U.heap = h0) (fun _ _ _ _ _ => True) (fun _ U o U' => ∃ v L, o = .returned v ∧ own_Q_tob Z p1 h0 n0 v U'.heap L ∧ FrameEnd U o U' L ({ frames := 0, cells := 1, slots := 1, locals := 0 } : Room).cells ({ frames := 0, cells := 1, slots := 1, locals := 0 } : Room).slots) := by
  refine MetFree.of_bodySF (plainFor_of_name own_pn0) hisR ?_
  intro p e s m args below meth c s₁ Bd hml0 hP hK
  obtain ⟨rfl, hZ, hh⟩ := hP
  have hx := Bd.exec
  have hby := Bd.bytes
  have hml : c.maxLocals = 1 := hml0
  have hown : s.vm.findClass "java/lang/StringLatin1" = some m.cls := findClass_of_methodNamed Bd.named
  have hnm := (name_of_methodNamed Bd.named Bd.method).1
  have X0 : Stand p l e ({ frames := 0, cells := 1, slots := 1, locals := 0 } : Room) s m #[(.int p1)] below meth c s₁ [] 0 0 := Stand.of_body Bd
  have e0 : s₁.heap = h0 := by rw [← hh, Bd.state]; rfl
  have N0 := Fr.nil n0
  have K0 : Keep h0 h0 [] := Keep.refl _ _
  show own_Go p e below s ({ frames := 0, cells := 1, slots := 1, locals := 0 } : Room).cells ({ frames := 0, cells := 1, slots := 1, locals := 0 } : Room).slots (own_Q_tob Z p1 h0 n0) (s₁.setTop (entryFrame m #[(.int p1)] 1))
  have ef : entryFrame m #[(.int p1)] 1 = (mkF m 0 #[.val (.int p1)] []) := by first | rfl | (simp [entryFrame, mkF, argsToLocals, Value.category, maxLocals]; done)
  rw [ef]
  show own_Go p e below s _ _ _ (s₁.setTop (mkF m 0 #[.val (.int p1)] []))
  refine own_step (U' := (s₁.setTop (mkF m 1 #[.val (.int p1)] [(.int (1 : Int32))]))) (fun t ht => XS.iconst X0.here hx rfl (hb hby own_d3_0) ht) ?_
  obtain ⟨T2, h2, k2, X2, e2, E2, A2, st2⟩ := newP X0 hx hZ (hw _ (List.mem_of_getElem? (i := 20) rfl)) e0 (g := (mkF m 1 #[.val (.int p1)] [(.int (1 : Int32))])) rfl (hb hby own_d3_1) rfl (by decide) (cap := 1) (by decide) (by decide) (by decide) (by decide)
  obtain ⟨b2, g2⟩ : ∃ z, z = (h0).size := ⟨_, rfl⟩
  rw [← g2] at A2 st2
  have g_b2 : n0 ≤ b2 := Nat.le_trans (Nat.le_trans Z0 K0.1) (Nat.le_of_eq g2.symm)
  have sz_b2 : h0.size ≤ b2 := Nat.le_trans K0.1 (Nat.le_of_eq g2.symm)
  have K2 : Keep h0 h2 [] := K0.ext E2
  have V2 : Arv Z h2 b2 k2 .byte (1 : Int32) [(.int (0 : Int32))] (.int (0 : Int32)) := (Arv.new A2 (by decide)).pad (pad_rep [] (.int (0 : Int32)) 1)
  refine own_step (U' := (T2.setTop (mkF m 3 #[.val (.int p1)] [(.ref b2)]))) (fun t ht => st2 _ ht) ?_
  refine own_step (U' := (T2.setTop (mkF m 4 #[.val (.int p1)] [(.ref b2), (.ref b2)]))) (fun t ht => XS.dup X2.here hx rfl (hb hby own_d3_3) rfl rfl ht) ?_
  refine own_step (U' := (T2.setTop (mkF m 5 #[.val (.int p1)] [(.int (0 : Int32)), (.ref b2), (.ref b2)]))) (fun t ht => XS.iconst X2.here hx rfl (hb hby own_d3_4) ht) ?_
  refine own_step (U' := (T2.setTop (mkF m 6 #[.val (.int p1)] [(.int p1), (.int (0 : Int32)), (.ref b2), (.ref b2)]))) (fun t ht => XS.iloadN X2.here hx rfl (hb hby own_d3_5) rfl ht) ?_
  refine own_step (U' := (T2.setTop (mkF m 7 #[.val (.int p1)] [(.int (p1.toInt8.toInt32)), (.int (0 : Int32)), (.ref b2), (.ref b2)]))) (fun t ht => XT.i2b X2.here hx rfl (hb hby own_d3_6) rfl ht) ?_
  obtain ⟨cl3, Ar3, q3, S3, N3_, H3, G3⟩ := (id V2)
  have hin3 : ¬ ((0 : Int32) < 0 ∨ cl3.slots.size ≤ ((0 : Int32)).toNatClampNeg) := inb_of S3 ⟨by decide, by decide⟩
  obtain ⟨T3, h3, X3, e3, W3, st3⟩ := stB X2 hx hZ e2 Ar3 (j := (0 : Int32)) hin3 (g := (mkF m 7 #[.val (.int p1)] [(.int (p1.toInt8.toInt32)), (.int (0 : Int32)), (.ref b2), (.ref b2)])) rfl rfl (hb hby own_d3_7)
  have V3 : Arv Z h3 b2 k2 .byte (1 : Int32) [(.int ((p1.toInt8.toInt32).toInt8.toInt32))] (.int (0 : Int32)) := Arv.set Ar3 q3 S3 N3_ H3 G3 (fits_nar_byte _) W3 0 rfl (Nat.le_of_ble_eq_true rfl)
  have N3 := Fr.snoc X3 N0 g_b2
  have K3 : Keep h0 h3 [] := K2.wr W3 (Or.inr sz_b2)
  refine own_step (U' := (T3.setTop (mkF m 8 #[.val (.int p1)] [(.ref b2)]))) (fun t ht => st3 _ ht) ?_
  refine own_ret X3 (v := (some (.ref b2))) (fun h => by rw [Bd.returns] at h; cases h) Bd.notSynchronized (by decide) (by decide) ?_ (fun fs hr => retOut X3 hx Bd.returns (own_narR rfl) (Or.inr (Or.inr (Or.inr (Or.inr ⟨rfl, rfl, rfl⟩)))) (hb hby own_d3_8) hr)
  show own_Q_tob Z p1 h0 n0 _ T3.heap _
  rw [e3]
  exact ⟨b2, rfl, N3, K3, sz_b2⟩
theorem own_pn1 : plainName "java/lang/String" = true := by first | (simp [plainName, overriddenIn]; done) | decide +kernel
theorem own_d4_0 : decode jdk_42_method_151_code 0 = .ok (.aload_n 0, 1) := by decide +kernel
theorem own_d4_1 : decode jdk_42_method_151_code 1 = .ok (.invokespecial 1, 3) := by decide +kernel
theorem own_d4_4 : decode jdk_42_method_151_code 4 = .ok (.aload_n 0, 1) := by decide +kernel
theorem own_d4_5 : decode jdk_42_method_151_code 5 = .ok (.aload_n 1, 1) := by decide +kernel
theorem own_d4_6 : decode jdk_42_method_151_code 6 = .ok (.putfield 9, 3) := by decide +kernel
theorem own_d4_9 : decode jdk_42_method_151_code 9 = .ok (.aload_n 0, 1) := by decide +kernel
theorem own_d4_10 : decode jdk_42_method_151_code 10 = .ok (.iload_n 2, 1) := by decide +kernel
theorem own_d4_11 : decode jdk_42_method_151_code 11 = .ok (.putfield 15, 3) := by decide +kernel
theorem own_d4_14 : decode jdk_42_method_151_code 14 = .ok (.return_, 1) := by decide +kernel
def own_Q_sin (Z : State) (a1 : Addr) (b1 : Addr) (p2 : Int32) (u1 : Value) (u2 : Value) (h0 : Heap) (n0 : Nat) (v : Option Value) (h : Heap) (L : List Loc) : Prop := v = none ∧ Fr n0 L ∧ Keep h0 h [a1] ∧ (Fld Z h a1 "java/lang/String" "value" "[B" (.ref b1)) ∧ (Exa Z h a1 "java/lang/String")
set_option maxRecDepth 65536 in
set_option maxHeartbeats 40000000 in
theorem own_m_sin (l : Launch) (Z : State) (a0 : Array Value) (hw : ∀ d ∈ tables_1, d.before a0 Z = true) (ws : List Jvm.Cond) (a1 : Addr) (b1 : Addr) (p2 : Int32) (u1 : Value) (u2 : Value) (h0 : Heap) (n0 : Nat) (Z0 : n0 ≤ h0.size) (g_a1 : n0 ≤ a1) (F1 : Fld Z h0 a1 "java/lang/String" "value" "[B" u1) (F2 : Fld Z h0 a1 "java/lang/String" "coder" "B" u2) (E1 : Exa Z h0 a1 "java/lang/String") :
    MetFree l (⟨"java/lang/String", "<init>", "([BB)V"⟩ : MethodName) (head1 (Jvm.Cond.code (⟨"java/lang/String", "<init>", "([BB)V"⟩ : MethodName) jdk_42_method_151_code 3 none :: ws) ({ frames := 1, cells := 0, slots := 0, locals := 12 } : Room)) (fun a U => a = #[(.ref a1), (.ref b1), (.int p2)] ∧ Z.Warmed39 U.vm ∧ U.heap = h0) (fun _ _ _ _ _ => True) (fun _ U o U' => ∃ v L, o = .returned v ∧ own_Q_sin Z a1 b1 p2 u1 u2 h0 n0 v U'.heap L ∧ FrameEnd U o U' L ({ frames := 1, cells := 0, slots := 0, locals := 12 } : Room).cells ({ frames := 1, cells := 0, slots := 0, locals := 12 } : Room).slots) := by
  refine MetFree.of_bodySF (plainFor_of_name own_pn1) hisR ?_
  intro p e s m args below meth c s₁ Bd hml0 hP hK
  obtain ⟨rfl, hZ, hh⟩ := hP
  have hx := Bd.exec
  have hby := Bd.bytes
  have hml : c.maxLocals = 3 := hml0
  have hown : s.vm.findClass "java/lang/String" = some m.cls := findClass_of_methodNamed Bd.named
  have hnm := (name_of_methodNamed Bd.named Bd.method).1
  have X0 : Stand p l e ({ frames := 1, cells := 0, slots := 0, locals := 12 } : Room) s m #[(.ref a1), (.ref b1), (.int p2)] below meth c s₁ [] 0 0 := Stand.of_body Bd
  have e0 : s₁.heap = h0 := by rw [← hh, Bd.state]; rfl
  have N0 := Fr.nil n0
  have K0 : Keep h0 h0 [a1] := Keep.refl _ _
  show own_Go p e below s ({ frames := 1, cells := 0, slots := 0, locals := 12 } : Room).cells ({ frames := 1, cells := 0, slots := 0, locals := 12 } : Room).slots (own_Q_sin Z a1 b1 p2 u1 u2 h0 n0) (s₁.setTop (entryFrame m #[(.ref a1), (.ref b1), (.int p2)] 3))
  have ef : entryFrame m #[(.ref a1), (.ref b1), (.int p2)] 3 = (mkF m 0 #[.val (.ref a1), .val (.ref b1), .val (.int p2)] []) := by first | rfl | (simp [entryFrame, mkF, argsToLocals, Value.category, maxLocals]; done)
  rw [ef]
  show own_Go p e below s _ _ _ (s₁.setTop (mkF m 0 #[.val (.ref a1), .val (.ref b1), .val (.int p2)] []))
  refine own_step (U' := (s₁.setTop (mkF m 1 #[.val (.ref a1), .val (.ref b1), .val (.int p2)] [(.ref a1)]))) (fun t ht => XS.aloadN X0.here hx rfl (hb hby own_d4_0) rfl rfl ht) ?_
  obtain ⟨T4, X4, e4, st4⟩ := initO X0 hx hZ hown (hw _ (List.mem_of_getElem? (i := 25) rfl)) (hw _ (List.mem_of_getElem? (i := 26) rfl)) (hw _ (List.mem_of_getElem? (i := 27) rfl)) e0 (g := (mkF m 1 #[.val (.ref a1), .val (.ref b1), .val (.int p2)] [(.ref a1)])) rfl (by rw [hml]; rfl) rfl (hb hby own_d4_1) (by decide) (W := 0) (by show 2 * 0 + _ ≤ _; exact Nat.le_of_eq rfl) (by decide)
  refine own_step (U' := (T4.setTop (mkF m 4 #[.val (.ref a1), .val (.ref b1), .val (.int p2)] []))) (fun t ht => st4 _ ht) ?_
  refine own_step (U' := (T4.setTop (mkF m 5 #[.val (.ref a1), .val (.ref b1), .val (.int p2)] [(.ref a1)]))) (fun t ht => XS.aloadN X4.here hx rfl (hb hby own_d4_4) rfl rfl ht) ?_
  refine own_step (U' := (T4.setTop (mkF m 6 #[.val (.ref a1), .val (.ref b1), .val (.int p2)] [(.ref b1), (.ref a1)]))) (fun t ht => XS.aloadN X4.here hx rfl (hb hby own_d4_5) rfl rfl ht) ?_
  obtain ⟨T5, h5, X5, e5, W5, st5⟩ := putF X4 hx hZ hown (host := "") (Or.inl (hw _ (List.mem_of_getElem? (i := 28) rfl))) Via.refl e4 F1 E1 (Or.inr ⟨(hw _ (List.mem_of_getElem? (i := 29) rfl)), rfl, hnm⟩) (hw _ (List.mem_of_getElem? (i := 16) rfl)) (ty := (.array .byte)) (by decide) rfl rfl (g := (mkF m 6 #[.val (.ref a1), .val (.ref b1), .val (.int p2)] [(.ref b1), (.ref a1)])) rfl rfl (hb hby own_d4_6)
  have f5_1 : Fld Z h5 a1 "java/lang/String" "coder" "B" u2 := F2.other W5 (Or.inr (slot_ne (Or.inr (hw _ (List.mem_of_getElem? (i := 31) rfl))) (Or.inr (hw _ (List.mem_of_getElem? (i := 29) rfl))) (by decide) (t := .byte) (t' := (.array .byte)) (by decide) (by decide)))
  have f5_2 : Exa Z h5 a1 "java/lang/String" := E1.wr W5
  have F5 := F1.same W5
  have N5 := Fr.snoc X5 N0 g_a1
  have K5 : Keep h0 h5 [a1] := K0.wr W5 (Or.inl (by simp))
  refine own_step (U' := (T5.setTop (mkF m 9 #[.val (.ref a1), .val (.ref b1), .val (.int p2)] []))) (fun t ht => st5 _ ht) ?_
  refine own_step (U' := (T5.setTop (mkF m 10 #[.val (.ref a1), .val (.ref b1), .val (.int p2)] [(.ref a1)]))) (fun t ht => XS.aloadN X5.here hx rfl (hb hby own_d4_9) rfl rfl ht) ?_
  refine own_step (U' := (T5.setTop (mkF m 11 #[.val (.ref a1), .val (.ref b1), .val (.int p2)] [(.int p2), (.ref a1)]))) (fun t ht => XS.iloadN X5.here hx rfl (hb hby own_d4_10) rfl ht) ?_
  obtain ⟨T6, h6, X6, e6, W6, st6⟩ := putFN X5 hx hZ hown (hw _ (List.mem_of_getElem? (i := 30) rfl)) Via.refl e5 f5_1 f5_2 (Or.inr ⟨(hw _ (List.mem_of_getElem? (i := 31) rfl)), rfl, hnm⟩) (hw _ (List.mem_of_getElem? (i := 16) rfl)) (ty := .byte) (v' := (.int (p2.toInt8.toInt32))) (by decide) rfl (fits_nar_byte _) (g := (mkF m 11 #[.val (.ref a1), .val (.ref b1), .val (.int p2)] [(.int p2), (.ref a1)])) rfl rfl (hb hby own_d4_11)
  have f6_1 : Exa Z h6 a1 "java/lang/String" := f5_2.wr W6
  have f6_2 : Fld Z h6 a1 "java/lang/String" "value" "[B" (.ref b1) := F5.other W6 (Or.inr (slot_ne (Or.inr (hw _ (List.mem_of_getElem? (i := 29) rfl))) (Or.inr (hw _ (List.mem_of_getElem? (i := 31) rfl))) (by decide) (t := (.array .byte)) (t' := .byte) (by decide) (by decide)))
  have F6 := f5_1.same W6
  have N6 := Fr.snoc X6 N5 g_a1
  have K6 : Keep h0 h6 [a1] := K5.wr W6 (Or.inl (by simp))
  refine own_step (U' := (T6.setTop (mkF m 14 #[.val (.ref a1), .val (.ref b1), .val (.int p2)] []))) (fun t ht => st6 _ ht) ?_
  refine own_ret X6 (v := none) (fun _ => rfl) Bd.notSynchronized (by decide) (by decide) ?_ (fun fs hr => X6.returnOut hx Bd.returns (hb hby own_d4_14) hr)
  show own_Q_sin Z a1 b1 p2 u1 u2 h0 n0 _ T6.heap _
  rw [e6]
  exact ⟨rfl, N6, K6, f6_2, f6_1⟩
theorem own_pd0 : parseMethodDescriptor "(C)Z" = some ⟨[.char], some .boolean⟩ := by decide +kernel
theorem own_pd1 : parseMethodDescriptor "(C)[B" = some ⟨[.char], some (.array .byte)⟩ := by decide +kernel
theorem own_pd2 : parseMethodDescriptor "([BB)V" = some ⟨[(.array .byte), .byte], none⟩ := by decide +kernel
theorem own_d1_0 : decode jdk_42_method_139_code 0 = .ok (.getstatic 38, 3) := by decide +kernel
theorem own_d1_3 : decode jdk_42_method_139_code 3 = .ok (.ifCond .eq 23, 3) := by decide +kernel
theorem own_d1_6 : decode jdk_42_method_139_code 6 = .ok (.iload_n 0, 1) := by decide +kernel
theorem own_d1_7 : decode jdk_42_method_139_code 7 = .ok (.invokestatic 1015, 3) := by decide +kernel
theorem own_d1_10 : decode jdk_42_method_139_code 10 = .ok (.ifCond .eq 16, 3) := by decide +kernel
theorem own_d1_13 : decode jdk_42_method_139_code 13 = .ok (.new 10, 3) := by decide +kernel
theorem own_d1_16 : decode jdk_42_method_139_code 16 = .ok (.dup, 1) := by decide +kernel
theorem own_d1_17 : decode jdk_42_method_139_code 17 = .ok (.iload_n 0, 1) := by decide +kernel
theorem own_d1_18 : decode jdk_42_method_139_code 18 = .ok (.invokestatic 1018, 3) := by decide +kernel
theorem own_d1_21 : decode jdk_42_method_139_code 21 = .ok (.iconst 0, 1) := by decide +kernel
theorem own_d1_22 : decode jdk_42_method_139_code 22 = .ok (.invokespecial 209, 3) := by decide +kernel
theorem own_d1_25 : decode jdk_42_method_139_code 25 = .ok (.areturn, 1) := by decide +kernel
def own_Q_vof (Z : State) (p1 : Int32) (cz : Int32) (h0 : Heap) (n0 : Nat) (v : Option Value) (h : Heap) (L : List Loc) : Prop := ∃ (r : Addr), v = some (.ref r) ∧ Fr n0 L ∧ Keep h0 h [] ∧ h0.size ≤ r ∧ (Exa Z h r "java/lang/String")
set_option maxRecDepth 65536 in
set_option maxHeartbeats 40000000 in
theorem own_m_vof (l : Launch) (Z : State) (a0 : Array Value) (hw : ∀ d ∈ tables_1, d.before a0 Z = true) (ws : List Jvm.Cond) (p1 : Int32) (cz : Int32) (h0 : Heap) (n0 : Nat) (Z0 : n0 ≤ h0.size) (S_cz : Sta Z h0 "java/lang/String" "COMPACT_STRINGS" "Z" (.int cz)) (hcz : ¬ cz = 0) (hp1 : ¬ 255 < p1) :
    MetFree l (⟨"java/lang/String", "valueOf", "(C)Ljava/lang/String;"⟩ : MethodName) (head1 (Jvm.Cond.code (⟨"java/lang/String", "valueOf", "(C)Ljava/lang/String;"⟩ : MethodName) jdk_42_method_139_code 1 (some (.object "java/lang/String")) :: ws) ({ frames := 2, cells := 2, slots := 5, locals := 27 } : Room)) (fun a U => a = #[(.int p1)] ∧ Z.Warmed39 U.vm ∧ U.heap = h0) (fun _ _ _ _ _ => True) (fun _ U o U' => ∃ v L, o = .returned v ∧ own_Q_vof Z p1 cz h0 n0 v U'.heap L ∧ FrameEnd U o U' L ({ frames := 2, cells := 2, slots := 5, locals := 27 } : Room).cells ({ frames := 2, cells := 2, slots := 5, locals := 27 } : Room).slots) := by
  refine MetFree.of_bodySF (plainFor_of_name own_pn1) hisR ?_
  intro p e s m args below meth c s₁ Bd hml0 hP hK
  obtain ⟨rfl, hZ, hh⟩ := hP
  have hx := Bd.exec
  have hby := Bd.bytes
  have hml : c.maxLocals = 1 := hml0
  have hown : s.vm.findClass "java/lang/String" = some m.cls := findClass_of_methodNamed Bd.named
  have hnm := (name_of_methodNamed Bd.named Bd.method).1
  have X0 : Stand p l e ({ frames := 2, cells := 2, slots := 5, locals := 27 } : Room) s m #[(.int p1)] below meth c s₁ [] 0 0 := Stand.of_body Bd
  have e0 : s₁.heap = h0 := by rw [← hh, Bd.state]; rfl
  have N0 := Fr.nil n0
  have K0 : Keep h0 h0 [] := Keep.refl _ _
  show own_Go p e below s ({ frames := 2, cells := 2, slots := 5, locals := 27 } : Room).cells ({ frames := 2, cells := 2, slots := 5, locals := 27 } : Room).slots (own_Q_vof Z p1 cz h0 n0) (s₁.setTop (entryFrame m #[(.int p1)] 1))
  have ef : entryFrame m #[(.int p1)] 1 = (mkF m 0 #[.val (.int p1)] []) := by first | rfl | (simp [entryFrame, mkF, argsToLocals, Value.category, maxLocals]; done)
  rw [ef]
  show own_Go p e below s _ _ _ (s₁.setTop (mkF m 0 #[.val (.int p1)] []))
  obtain ⟨T7, X7, e7, st7⟩ := getS2 X0 hx hZ hown (host := "") (Or.inl (hw _ (List.mem_of_getElem? (i := 10) rfl))) Via.refl e0 S_cz (g := (mkF m 0 #[.val (.int p1)] [])) rfl (hb hby own_d1_0)
  refine own_step (U' := (T7.setTop (mkF m 3 #[.val (.int p1)] [(.int cz)]))) (fun t ht => st7 _ ht) ?_
  refine own_step (U' := (T7.setTop (mkF m 6 #[.val (.int p1)] []))) (fun t ht => XS.ifNo X7.here hx rfl (hb hby own_d1_3) rfl (XT.i0_eq_f (hcz : ¬ (cz = 0))) ht) ?_
  refine own_step (U' := (T7.setTop (mkF m 7 #[.val (.int p1)] [(.int p1)]))) (fun t ht => XS.iloadN X7.here hx rfl (hb hby own_d1_6) rfl ht) ?_
  obtain ⟨_, _, ⟨T8, L8, k8, n8⟩, -, X8, ⟨Lc8, hQ8, l8, y8, z8⟩, st8⟩ := Jvm.LawKit.callS X7 hx (y := (⟨"java/lang/StringLatin1", "canEncode", "(C)Z"⟩ : MethodName)) hown (mvT hZ (hw _ (List.mem_of_getElem? (i := 11) rfl))) (mvT hZ (hw _ (List.mem_of_getElem? (i := 12) rfl))) (mvT hZ (hw _ (List.mem_of_getElem? (i := 13) rfl))) (mvT hZ (hw _ (List.mem_of_getElem? (i := 14) rfl))) (by decide) (backOf (W := 0) (own_m_ce l Z a0 hw [] (p1) h0 n0 Z0 ) hZ (hw _ (List.mem_of_getElem? (i := 14) rfl)) (hw _ (List.mem_of_getElem? (i := 13) rfl)) (by decide) (by decide)) (g := (mkF m 7 #[.val (.int p1)] [(.int p1)])) rfl (by rw [hml]; rfl) (argsL := [(.int p1)]) (rest := []) (lenOf own_pd0 rfl) rfl (by show 2 * 0 + _ ≤ _; exact Nat.le_of_eq rfl) (hb hby own_d1_7) (fun _ _ => ⟨rfl, e7, (by decide : 0 + 0 ≤ _), (by decide : 0 + 0 ≤ _)⟩)
  dsimp only [Pt.U, Pt.locs, Pt.cells, Pt.slots] at X8 l8 y8 z8 st8 hQ8
  subst l8 y8 z8
  obtain ⟨rfl, Nq8, Kq8⟩ := hQ8
  have N8 := Fr.app N0 Nq8
  have e8 : T8.heap = h0 := Kq8
  refine own_step (U' := (T8.setTop (mkF m 10 #[.val (.int p1)] [(.int (own_ce p1))]))) (fun t ht => st8 _ ht) ?_
  refine own_step (U' := (T8.setTop (mkF m 13 #[.val (.int p1)] []))) (fun t ht => XS.ifNo X8.here hx rfl (hb hby own_d1_10) rfl (XT.i0_eq_f ((by simp [own_ce, hp1]) : ¬ ((own_ce p1) = 0))) ht) ?_
  obtain ⟨T9, h9, X9, e9, E9, A9, D9, -, st9⟩ := newO X8 hx hZ hown (hw _ (List.mem_of_getElem? (i := 15) rfl)) (hw _ (List.mem_of_getElem? (i := 16) rfl)) (hw _ (List.mem_of_getElem? (i := 8) rfl)) e8 (g := (mkF m 13 #[.val (.int p1)] [])) rfl (hb hby own_d1_13) (by decide) (by decide)
  obtain ⟨b9, g9⟩ : ∃ z, z = (h0).size := ⟨_, rfl⟩
  rw [← g9] at A9 D9 st9
  have g_b9 : n0 ≤ b9 := Nat.le_trans (Nat.le_trans Z0 K0.1) (Nat.le_of_eq g9.symm)
  have sz_b9 : h0.size ≤ b9 := Nat.le_trans K0.1 (Nat.le_of_eq g9.symm)
  have f9_0 : Sta Z h9 "java/lang/String" "COMPACT_STRINGS" "Z" (.int cz) := S_cz.ext E9
  have K9 : Keep h0 h9 [] := K0.ext E9
  have F9_29 : Fld Z h9 b9 "java/lang/String" "value" "[B" .null := D9 (Or.inr (hw _ (List.mem_of_getElem? (i := 29) rfl))) (ty := (.array .byte)) (by decide)
  have F9_31 : Fld Z h9 b9 "java/lang/String" "coder" "B" (.int (0 : Int32)) := D9 (Or.inr (hw _ (List.mem_of_getElem? (i := 31) rfl))) (ty := .byte) (by decide)
  refine own_step (U' := (T9.setTop (mkF m 16 #[.val (.int p1)] [(.ref b9)]))) (fun t ht => st9 _ ht) ?_
  refine own_step (U' := (T9.setTop (mkF m 17 #[.val (.int p1)] [(.ref b9), (.ref b9)]))) (fun t ht => XS.dup X9.here hx rfl (hb hby own_d1_16) rfl rfl ht) ?_
  refine own_step (U' := (T9.setTop (mkF m 18 #[.val (.int p1)] [(.int p1), (.ref b9), (.ref b9)]))) (fun t ht => XS.iloadN X9.here hx rfl (hb hby own_d1_17) rfl ht) ?_
  obtain ⟨_, _, ⟨T10, L10, k10, n10⟩, -, X10, ⟨Lc10, hQ10, l10, y10, z10⟩, st10⟩ := Jvm.LawKit.callS X9 hx (y := (⟨"java/lang/StringLatin1", "toBytes", "(C)[B"⟩ : MethodName)) hown (mvT hZ (hw _ (List.mem_of_getElem? (i := 17) rfl))) (mvT hZ (hw _ (List.mem_of_getElem? (i := 18) rfl))) (mvT hZ (hw _ (List.mem_of_getElem? (i := 13) rfl))) (mvT hZ (hw _ (List.mem_of_getElem? (i := 19) rfl))) (by decide) (backOf (W := 2) (own_m_tob l Z a0 hw [] (p1) h9 n0 (Nat.le_trans Z0 K9.1) ) hZ (hw _ (List.mem_of_getElem? (i := 19) rfl)) (hw _ (List.mem_of_getElem? (i := 13) rfl)) (by decide) (by decide)) (g := (mkF m 18 #[.val (.int p1)] [(.int p1), (.ref b9), (.ref b9)])) rfl (by rw [hml]; rfl) (argsL := [(.int p1)]) (rest := [(.ref b9), (.ref b9)]) (lenOf own_pd1 rfl) rfl (by show 2 * 0 + _ ≤ _; exact Nat.le_of_eq rfl) (hb hby own_d1_18) (fun _ _ => ⟨rfl, e9, (by decide : 1 + 1 ≤ _), (by decide : 4 + 1 ≤ _)⟩)
  dsimp only [Pt.U, Pt.locs, Pt.cells, Pt.slots] at X10 l10 y10 z10 st10 hQ10
  subst l10 y10 z10
  obtain ⟨r_10, rfl, Nq10, Kq10, sq_r_10⟩ := hQ10
  have N10 := Fr.app N8 Nq10
  have ne_b9_r_10 : b9 ≠ r_10 := Nat.ne_of_lt (Nat.lt_of_lt_of_le A9.lt sq_r_10)
  have g_r_10 : n0 ≤ r_10 := Nat.le_trans (Nat.le_trans Z0 K9.1) sq_r_10
  have sz_r_10 : h0.size ≤ r_10 := Nat.le_trans K9.1 sq_r_10
  have f10_0 : Sta Z T10.heap "java/lang/String" "COMPACT_STRINGS" "Z" (.int cz) := own_sta_keep f9_0 Kq10 own_pl0
  have f10_1 : Exa Z T10.heap b9 "java/lang/String" := A9.keep Kq10
  have f10_2 : Fld Z T10.heap b9 "java/lang/String" "value" "[B" .null := F9_29.keep Kq10 nin0
  have f10_3 : Fld Z T10.heap b9 "java/lang/String" "coder" "B" (.int (0 : Int32)) := F9_31.keep Kq10 nin0
  have K10 : Keep h0 T10.heap [] := K9.trans Kq10 all0
  refine own_step (U' := (T10.setTop (mkF m 21 #[.val (.int p1)] [(.ref r_10), (.ref b9), (.ref b9)]))) (fun t ht => st10 _ ht) ?_
  refine own_step (U' := (T10.setTop (mkF m 22 #[.val (.int p1)] [(.int (0 : Int32)), (.ref r_10), (.ref b9), (.ref b9)]))) (fun t ht => XS.iconst X10.here hx rfl (hb hby own_d1_21) ht) ?_
  obtain ⟨_, _, ⟨T11, L11, k11, n11⟩, -, X11, ⟨Lc11, hQ11, l11, y11, z11⟩, st11⟩ := X10.specialBack hx (y := (⟨"java/lang/String", "<init>", "([BB)V"⟩ : MethodName)) rfl hown (mvT hZ (hw _ (List.mem_of_getElem? (i := 21) rfl))) (mvT hZ (hw _ (List.mem_of_getElem? (i := 22) rfl))) (mvT hZ (hw _ (List.mem_of_getElem? (i := 24) rfl))) (by decide) (backOf (W := 1) (own_m_sin l Z a0 hw [] (b9) (r_10) ((0 : Int32)) (.null) ((.int (0 : Int32))) T10.heap n0 (Nat.le_trans Z0 K10.1) g_b9 f10_2 f10_3 f10_1) hZ (hw _ (List.mem_of_getElem? (i := 24) rfl)) (hw _ (List.mem_of_getElem? (i := 8) rfl)) (by decide) (by decide)) (g := (mkF m 22 #[.val (.int p1)] [(.int (0 : Int32)), (.ref r_10), (.ref b9), (.ref b9)])) rfl (by rw [hml]; rfl) (Steps.refl _) (a := b9) (argsL := [(.ref r_10), (.int (0 : Int32))]) (rest := [(.ref b9)]) (lenOf own_pd2 rfl) rfl (by show 2 * 0 + _ ≤ _; exact Nat.le_of_eq rfl) (hb hby own_d1_22) (fun _ _ => ⟨rfl, rfl, (by decide : 2 + 0 ≤ _), (by decide : 5 + 0 ≤ _)⟩)
  dsimp only [Pt.U, Pt.locs, Pt.cells, Pt.slots] at X11 l11 y11 z11 st11 hQ11
  subst l11 y11 z11
  obtain ⟨rfl, Nq11, Kq11, Fq11_0, Fq11_1⟩ := hQ11
  have N11 := Fr.app N10 Nq11
  have f11_0 : Sta Z T11.heap "java/lang/String" "COMPACT_STRINGS" "Z" (.int cz) := own_sta_keep f10_0 Kq11 (own_plE f10_1 own_pl0)
  have f11_1 : Exa Z T11.heap b9 "java/lang/String" := f10_1.keep Kq11
  have K11 : Keep h0 T11.heap [] := K10.trans Kq11 (allS (Or.inr sz_b9) all0)
  refine own_step (U' := (T11.setTop (mkF m 25 #[.val (.int p1)] [(.ref b9)]))) (fun t ht => st11.trans ht) ?_
  refine own_ret X11 (v := (some (.ref b9))) (fun h => by rw [Bd.returns] at h; cases h) Bd.notSynchronized (by decide) (by decide) ?_ (fun fs hr => retOut X11 hx Bd.returns (own_narR rfl) (Or.inr (Or.inr (Or.inr (Or.inr ⟨rfl, rfl, rfl⟩)))) (hb hby own_d1_25) hr)
  show own_Q_vof Z p1 cz h0 n0 _ T11.heap _
  show own_Q_vof Z p1 cz h0 n0 _ T11.heap _
  exact ⟨b9, rfl, N11, K11, sz_b9, Fq11_1⟩
theorem own_pn2 : plainName "java/lang/Record" = true := by first | (simp [plainName, overriddenIn]; done) | decide +kernel
theorem own_d7_0 : decode jdk_30_method_1_code 0 = .ok (.aload_n 0, 1) := by decide +kernel
theorem own_d7_1 : decode jdk_30_method_1_code 1 = .ok (.invokespecial 1, 3) := by decide +kernel
theorem own_d7_4 : decode jdk_30_method_1_code 4 = .ok (.return_, 1) := by decide +kernel
def own_Q_rec (Z : State) (a1 : Addr) (h0 : Heap) (n0 : Nat) (v : Option Value) (h : Heap) (L : List Loc) : Prop := v = none ∧ Fr n0 L ∧ h = h0
set_option maxRecDepth 65536 in
set_option maxHeartbeats 40000000 in
theorem own_m_rec (l : Launch) (Z : State) (a0 : Array Value) (hw : ∀ d ∈ tables_1, d.before a0 Z = true) (ws : List Jvm.Cond) (a1 : Addr) (h0 : Heap) (n0 : Nat) (Z0 : n0 ≤ h0.size)  :
    MetFree l (⟨"java/lang/Record", "<init>", "()V"⟩ : MethodName) (head1 (Jvm.Cond.code (⟨"java/lang/Record", "<init>", "()V"⟩ : MethodName) jdk_30_method_1_code 1 none :: ws) ({ frames := 1, cells := 0, slots := 0, locals := 12 } : Room)) (fun a U => a = #[(.ref a1)] ∧ Z.Warmed39 U.vm ∧ U.heap = h0) (fun _ _ _ _ _ => True) (fun _ U o U' => ∃ v L, o = .returned v ∧ own_Q_rec Z a1 h0 n0 v U'.heap L ∧ FrameEnd U o U' L ({ frames := 1, cells := 0, slots := 0, locals := 12 } : Room).cells ({ frames := 1, cells := 0, slots := 0, locals := 12 } : Room).slots) := by
  refine MetFree.of_bodySF (plainFor_of_name own_pn2) hisR ?_
  intro p e s m args below meth c s₁ Bd hml0 hP hK
  obtain ⟨rfl, hZ, hh⟩ := hP
  have hx := Bd.exec
  have hby := Bd.bytes
  have hml : c.maxLocals = 1 := hml0
  have hown : s.vm.findClass "java/lang/Record" = some m.cls := findClass_of_methodNamed Bd.named
  have hnm := (name_of_methodNamed Bd.named Bd.method).1
  have X0 : Stand p l e ({ frames := 1, cells := 0, slots := 0, locals := 12 } : Room) s m #[(.ref a1)] below meth c s₁ [] 0 0 := Stand.of_body Bd
  have e0 : s₁.heap = h0 := by rw [← hh, Bd.state]; rfl
  have N0 := Fr.nil n0
  have K0 : Keep h0 h0 [] := Keep.refl _ _
  show own_Go p e below s ({ frames := 1, cells := 0, slots := 0, locals := 12 } : Room).cells ({ frames := 1, cells := 0, slots := 0, locals := 12 } : Room).slots (own_Q_rec Z a1 h0 n0) (s₁.setTop (entryFrame m #[(.ref a1)] 1))
  have ef : entryFrame m #[(.ref a1)] 1 = (mkF m 0 #[.val (.ref a1)] []) := by first | rfl | (simp [entryFrame, mkF, argsToLocals, Value.category, maxLocals]; done)
  rw [ef]
  show own_Go p e below s _ _ _ (s₁.setTop (mkF m 0 #[.val (.ref a1)] []))
  refine own_step (U' := (s₁.setTop (mkF m 1 #[.val (.ref a1)] [(.ref a1)]))) (fun t ht => XS.aloadN X0.here hx rfl (hb hby own_d7_0) rfl rfl ht) ?_
  obtain ⟨T12, X12, e12, st12⟩ := initO X0 hx hZ hown (hw _ (List.mem_of_getElem? (i := 40) rfl)) (hw _ (List.mem_of_getElem? (i := 26) rfl)) (hw _ (List.mem_of_getElem? (i := 27) rfl)) e0 (g := (mkF m 1 #[.val (.ref a1)] [(.ref a1)])) rfl (by rw [hml]; rfl) rfl (hb hby own_d7_1) (by decide) (W := 0) (by show 2 * 0 + _ ≤ _; exact Nat.le_of_eq rfl) (by decide)
  refine own_step (U' := (T12.setTop (mkF m 4 #[.val (.ref a1)] []))) (fun t ht => st12 _ ht) ?_
  refine own_ret X12 (v := none) (fun _ => rfl) Bd.notSynchronized (by decide) (by decide) ?_ (fun fs hr => X12.returnOut hx Bd.returns (hb hby own_d7_4) hr)
  show own_Q_rec Z a1 h0 n0 _ T12.heap _
  rw [e12]
  exact ⟨rfl, N0, rfl⟩
theorem own_pn3 : plainName "com/example/fuxi/fuxi/dialect/DatabaseColumn" = true := by first | (simp [plainName, overriddenIn]; done) | decide +kernel
theorem own_pd3 : parseMethodDescriptor "()V" = some ⟨[], none⟩ := by decide +kernel
theorem own_d6_0 : decode prog_3_method_1_code 0 = .ok (.aload_n 0, 1) := by decide +kernel
theorem own_d6_1 : decode prog_3_method_1_code 1 = .ok (.invokespecial 1, 3) := by decide +kernel
theorem own_d6_4 : decode prog_3_method_1_code 4 = .ok (.aload_n 0, 1) := by decide +kernel
theorem own_d6_5 : decode prog_3_method_1_code 5 = .ok (.iload_n 1, 1) := by decide +kernel
theorem own_d6_6 : decode prog_3_method_1_code 6 = .ok (.putfield 7, 3) := by decide +kernel
theorem own_d6_9 : decode prog_3_method_1_code 9 = .ok (.aload_n 0, 1) := by decide +kernel
theorem own_d6_10 : decode prog_3_method_1_code 10 = .ok (.aload_n 2, 1) := by decide +kernel
theorem own_d6_11 : decode prog_3_method_1_code 11 = .ok (.putfield 13, 3) := by decide +kernel
theorem own_d6_14 : decode prog_3_method_1_code 14 = .ok (.aload_n 0, 1) := by decide +kernel
theorem own_d6_15 : decode prog_3_method_1_code 15 = .ok (.iload_n 3, 1) := by decide +kernel
theorem own_d6_16 : decode prog_3_method_1_code 16 = .ok (.putfield 17, 3) := by decide +kernel
theorem own_d6_19 : decode prog_3_method_1_code 19 = .ok (.aload_n 0, 1) := by decide +kernel
theorem own_d6_20 : decode prog_3_method_1_code 20 = .ok (.iload 4, 2) := by decide +kernel
theorem own_d6_22 : decode prog_3_method_1_code 22 = .ok (.putfield 20, 3) := by decide +kernel
theorem own_d6_25 : decode prog_3_method_1_code 25 = .ok (.return_, 1) := by decide +kernel
def own_Q_dci (Z : State) (a1 : Addr) (p2 : Int32) (s1 : Addr) (p3 : Int32) (p4 : Int32) (u1 : Value) (u2 : Value) (u3 : Value) (u4 : Value) (h0 : Heap) (n0 : Nat) (v : Option Value) (h : Heap) (L : List Loc) : Prop := v = none ∧ Fr n0 L ∧ Keep h0 h [a1] ∧ (Fld Z h a1 "com/example/fuxi/fuxi/dialect/DatabaseColumn" "sqlType" "I" (.int p2)) ∧ (Exa Z h a1 "com/example/fuxi/fuxi/dialect/DatabaseColumn")
set_option maxRecDepth 65536 in
set_option maxHeartbeats 40000000 in
theorem own_m_dci (l : Launch) (Z : State) (a0 : Array Value) (hw : ∀ d ∈ tables_1, d.before a0 Z = true) (ws : List Jvm.Cond) (a1 : Addr) (p2 : Int32) (s1 : Addr) (p3 : Int32) (p4 : Int32) (u1 : Value) (u2 : Value) (u3 : Value) (u4 : Value) (h0 : Heap) (n0 : Nat) (Z0 : n0 ≤ h0.size) (g_a1 : n0 ≤ a1) (F1 : Fld Z h0 a1 "com/example/fuxi/fuxi/dialect/DatabaseColumn" "sqlType" "I" u1) (F2 : Fld Z h0 a1 "com/example/fuxi/fuxi/dialect/DatabaseColumn" "typeName" "Ljava/lang/String;" u2) (F3 : Fld Z h0 a1 "com/example/fuxi/fuxi/dialect/DatabaseColumn" "size" "I" u3) (F4 : Fld Z h0 a1 "com/example/fuxi/fuxi/dialect/DatabaseColumn" "scale" "I" u4) (E1 : Exa Z h0 a1 "com/example/fuxi/fuxi/dialect/DatabaseColumn") :
    MetFree l (⟨"com/example/fuxi/fuxi/dialect/DatabaseColumn", "<init>", "(ILjava/lang/String;II)V"⟩ : MethodName) (head1 (Jvm.Cond.code (⟨"com/example/fuxi/fuxi/dialect/DatabaseColumn", "<init>", "(ILjava/lang/String;II)V"⟩ : MethodName) prog_3_method_1_code 5 none :: ws) ({ frames := 2, cells := 0, slots := 0, locals := 24 } : Room)) (fun a U => a = #[(.ref a1), (.int p2), (.ref s1), (.int p3), (.int p4)] ∧ Z.Warmed39 U.vm ∧ U.heap = h0) (fun _ _ _ _ _ => True) (fun _ U o U' => ∃ v L, o = .returned v ∧ own_Q_dci Z a1 p2 s1 p3 p4 u1 u2 u3 u4 h0 n0 v U'.heap L ∧ FrameEnd U o U' L ({ frames := 2, cells := 0, slots := 0, locals := 24 } : Room).cells ({ frames := 2, cells := 0, slots := 0, locals := 24 } : Room).slots) := by
  refine MetFree.of_bodySF (plainFor_of_name own_pn3) hisR ?_
  intro p e s m args below meth c s₁ Bd hml0 hP hK
  obtain ⟨rfl, hZ, hh⟩ := hP
  have hx := Bd.exec
  have hby := Bd.bytes
  have hml : c.maxLocals = 5 := hml0
  have hown : s.vm.findClass "com/example/fuxi/fuxi/dialect/DatabaseColumn" = some m.cls := findClass_of_methodNamed Bd.named
  have hnm := (name_of_methodNamed Bd.named Bd.method).1
  have X0 : Stand p l e ({ frames := 2, cells := 0, slots := 0, locals := 24 } : Room) s m #[(.ref a1), (.int p2), (.ref s1), (.int p3), (.int p4)] below meth c s₁ [] 0 0 := Stand.of_body Bd
  have e0 : s₁.heap = h0 := by rw [← hh, Bd.state]; rfl
  have N0 := Fr.nil n0
  have K0 : Keep h0 h0 [a1] := Keep.refl _ _
  show own_Go p e below s ({ frames := 2, cells := 0, slots := 0, locals := 24 } : Room).cells ({ frames := 2, cells := 0, slots := 0, locals := 24 } : Room).slots (own_Q_dci Z a1 p2 s1 p3 p4 u1 u2 u3 u4 h0 n0) (s₁.setTop (entryFrame m #[(.ref a1), (.int p2), (.ref s1), (.int p3), (.int p4)] 5))
  have ef : entryFrame m #[(.ref a1), (.int p2), (.ref s1), (.int p3), (.int p4)] 5 = (mkF m 0 #[.val (.ref a1), .val (.int p2), .val (.ref s1), .val (.int p3), .val (.int p4)] []) := by first | rfl | (simp [entryFrame, mkF, argsToLocals, Value.category, maxLocals]; done)
  rw [ef]
  show own_Go p e below s _ _ _ (s₁.setTop (mkF m 0 #[.val (.ref a1), .val (.int p2), .val (.ref s1), .val (.int p3), .val (.int p4)] []))
  refine own_step (U' := (s₁.setTop (mkF m 1 #[.val (.ref a1), .val (.int p2), .val (.ref s1), .val (.int p3), .val (.int p4)] [(.ref a1)]))) (fun t ht => XS.aloadN X0.here hx rfl (hb hby own_d6_0) rfl rfl ht) ?_
  obtain ⟨_, _, ⟨T13, L13, k13, n13⟩, -, X13, ⟨Lc13, hQ13, l13, y13, z13⟩, st13⟩ := X0.specialBack hx (y := (⟨"java/lang/Record", "<init>", "()V"⟩ : MethodName)) rfl hown (mvT hZ (hw _ (List.mem_of_getElem? (i := 35) rfl))) (mvT hZ (hw _ (List.mem_of_getElem? (i := 36) rfl))) (mvT hZ (hw _ (List.mem_of_getElem? (i := 39) rfl))) (by decide) (backOf (W := 0) (own_m_rec l Z a0 hw [] (a1) h0 n0 Z0 ) hZ (hw _ (List.mem_of_getElem? (i := 39) rfl)) (hw _ (List.mem_of_getElem? (i := 38) rfl)) (by decide) (by decide)) (g := (mkF m 1 #[.val (.ref a1), .val (.int p2), .val (.ref s1), .val (.int p3), .val (.int p4)] [(.ref a1)])) rfl (by rw [hml]; rfl) (Steps.refl _) (a := a1) (argsL := []) (rest := []) (lenOf own_pd3 rfl) rfl (by show 2 * 0 + _ ≤ _; exact Nat.le_of_eq rfl) (hb hby own_d6_1) (fun _ _ => ⟨rfl, e0, (by decide : 0 + 0 ≤ _), (by decide : 0 + 0 ≤ _)⟩)
  dsimp only [Pt.U, Pt.locs, Pt.cells, Pt.slots] at X13 l13 y13 z13 st13 hQ13
  subst l13 y13 z13
  obtain ⟨rfl, Nq13, Kq13⟩ := hQ13
  have N13 := Fr.app N0 Nq13
  have e13 : T13.heap = h0 := Kq13
  refine own_step (U' := (T13.setTop (mkF m 4 #[.val (.ref a1), .val (.int p2), .val (.ref s1), .val (.int p3), .val (.int p4)] []))) (fun t ht => st13.trans ht) ?_
  refine own_step (U' := (T13.setTop (mkF m 5 #[.val (.ref a1), .val (.int p2), .val (.ref s1), .val (.int p3), .val (.int p4)] [(.ref a1)]))) (fun t ht => XS.aloadN X13.here hx rfl (hb hby own_d6_4) rfl rfl ht) ?_
  refine own_step (U' := (T13.setTop (mkF m 6 #[.val (.ref a1), .val (.int p2), .val (.ref s1), .val (.int p3), .val (.int p4)] [(.int p2), (.ref a1)]))) (fun t ht => XS.iloadN X13.here hx rfl (hb hby own_d6_5) rfl ht) ?_
  obtain ⟨T14, h14, X14, e14, W14, st14⟩ := putF X13 hx hZ hown (host := "") (Or.inl (hw _ (List.mem_of_getElem? (i := 41) rfl))) Via.refl e13 F1 E1 (Or.inr ⟨(hw _ (List.mem_of_getElem? (i := 42) rfl)), rfl, hnm⟩) (hw _ (List.mem_of_getElem? (i := 4) rfl)) (ty := .int) (by decide) rfl rfl (g := (mkF m 6 #[.val (.ref a1), .val (.int p2), .val (.ref s1), .val (.int p3), .val (.int p4)] [(.int p2), (.ref a1)])) rfl rfl (hb hby own_d6_6)
  have f14_1 : Fld Z h14 a1 "com/example/fuxi/fuxi/dialect/DatabaseColumn" "typeName" "Ljava/lang/String;" u2 := F2.other W14 (Or.inr (slot_ne (Or.inr (hw _ (List.mem_of_getElem? (i := 44) rfl))) (Or.inr (hw _ (List.mem_of_getElem? (i := 42) rfl))) (by decide) (t := (.object "java/lang/String")) (t' := .int) (by decide) (by decide)))
  have f14_2 : Fld Z h14 a1 "com/example/fuxi/fuxi/dialect/DatabaseColumn" "size" "I" u3 := F3.other W14 (Or.inr (slot_ne (Or.inr (hw _ (List.mem_of_getElem? (i := 46) rfl))) (Or.inr (hw _ (List.mem_of_getElem? (i := 42) rfl))) (by decide) (t := .int) (t' := .int) (by decide) (by decide)))
  have f14_3 : Fld Z h14 a1 "com/example/fuxi/fuxi/dialect/DatabaseColumn" "scale" "I" u4 := F4.other W14 (Or.inr (slot_ne (Or.inr (hw _ (List.mem_of_getElem? (i := 48) rfl))) (Or.inr (hw _ (List.mem_of_getElem? (i := 42) rfl))) (by decide) (t := .int) (t' := .int) (by decide) (by decide)))
  have f14_4 : Exa Z h14 a1 "com/example/fuxi/fuxi/dialect/DatabaseColumn" := E1.wr W14
  have F14 := F1.same W14
  have N14 := Fr.snoc X14 N13 g_a1
  have K14 : Keep h0 h14 [a1] := K0.wr W14 (Or.inl (by simp))
  refine own_step (U' := (T14.setTop (mkF m 9 #[.val (.ref a1), .val (.int p2), .val (.ref s1), .val (.int p3), .val (.int p4)] []))) (fun t ht => st14 _ ht) ?_
  refine own_step (U' := (T14.setTop (mkF m 10 #[.val (.ref a1), .val (.int p2), .val (.ref s1), .val (.int p3), .val (.int p4)] [(.ref a1)]))) (fun t ht => XS.aloadN X14.here hx rfl (hb hby own_d6_9) rfl rfl ht) ?_
  refine own_step (U' := (T14.setTop (mkF m 11 #[.val (.ref a1), .val (.int p2), .val (.ref s1), .val (.int p3), .val (.int p4)] [(.ref s1), (.ref a1)]))) (fun t ht => XS.aloadN X14.here hx rfl (hb hby own_d6_10) rfl rfl ht) ?_
  obtain ⟨T15, h15, X15, e15, W15, st15⟩ := putF X14 hx hZ hown (host := "") (Or.inl (hw _ (List.mem_of_getElem? (i := 43) rfl))) Via.refl e14 f14_1 f14_4 (Or.inr ⟨(hw _ (List.mem_of_getElem? (i := 44) rfl)), rfl, hnm⟩) (hw _ (List.mem_of_getElem? (i := 4) rfl)) (ty := (.object "java/lang/String")) (by decide) rfl rfl (g := (mkF m 11 #[.val (.ref a1), .val (.int p2), .val (.ref s1), .val (.int p3), .val (.int p4)] [(.ref s1), (.ref a1)])) rfl rfl (hb hby own_d6_11)
  have f15_1 : Fld Z h15 a1 "com/example/fuxi/fuxi/dialect/DatabaseColumn" "size" "I" u3 := f14_2.other W15 (Or.inr (slot_ne (Or.inr (hw _ (List.mem_of_getElem? (i := 46) rfl))) (Or.inr (hw _ (List.mem_of_getElem? (i := 44) rfl))) (by decide) (t := .int) (t' := (.object "java/lang/String")) (by decide) (by decide)))
  have f15_2 : Fld Z h15 a1 "com/example/fuxi/fuxi/dialect/DatabaseColumn" "scale" "I" u4 := f14_3.other W15 (Or.inr (slot_ne (Or.inr (hw _ (List.mem_of_getElem? (i := 48) rfl))) (Or.inr (hw _ (List.mem_of_getElem? (i := 44) rfl))) (by decide) (t := .int) (t' := (.object "java/lang/String")) (by decide) (by decide)))
  have f15_3 : Exa Z h15 a1 "com/example/fuxi/fuxi/dialect/DatabaseColumn" := f14_4.wr W15
  have f15_4 : Fld Z h15 a1 "com/example/fuxi/fuxi/dialect/DatabaseColumn" "sqlType" "I" (.int p2) := F14.other W15 (Or.inr (slot_ne (Or.inr (hw _ (List.mem_of_getElem? (i := 42) rfl))) (Or.inr (hw _ (List.mem_of_getElem? (i := 44) rfl))) (by decide) (t := .int) (t' := (.object "java/lang/String")) (by decide) (by decide)))
  have F15 := f14_1.same W15
  have N15 := Fr.snoc X15 N14 g_a1
  have K15 : Keep h0 h15 [a1] := K14.wr W15 (Or.inl (by simp))
  refine own_step (U' := (T15.setTop (mkF m 14 #[.val (.ref a1), .val (.int p2), .val (.ref s1), .val (.int p3), .val (.int p4)] []))) (fun t ht => st15 _ ht) ?_
  refine own_step (U' := (T15.setTop (mkF m 15 #[.val (.ref a1), .val (.int p2), .val (.ref s1), .val (.int p3), .val (.int p4)] [(.ref a1)]))) (fun t ht => XS.aloadN X15.here hx rfl (hb hby own_d6_14) rfl rfl ht) ?_
  refine own_step (U' := (T15.setTop (mkF m 16 #[.val (.ref a1), .val (.int p2), .val (.ref s1), .val (.int p3), .val (.int p4)] [(.int p3), (.ref a1)]))) (fun t ht => XS.iloadN X15.here hx rfl (hb hby own_d6_15) rfl ht) ?_
  obtain ⟨T16, h16, X16, e16, W16, st16⟩ := putF X15 hx hZ hown (host := "") (Or.inl (hw _ (List.mem_of_getElem? (i := 45) rfl))) Via.refl e15 f15_1 f15_3 (Or.inr ⟨(hw _ (List.mem_of_getElem? (i := 46) rfl)), rfl, hnm⟩) (hw _ (List.mem_of_getElem? (i := 4) rfl)) (ty := .int) (by decide) rfl rfl (g := (mkF m 16 #[.val (.ref a1), .val (.int p2), .val (.ref s1), .val (.int p3), .val (.int p4)] [(.int p3), (.ref a1)])) rfl rfl (hb hby own_d6_16)
  have f16_1 : Fld Z h16 a1 "com/example/fuxi/fuxi/dialect/DatabaseColumn" "scale" "I" u4 := f15_2.other W16 (Or.inr (slot_ne (Or.inr (hw _ (List.mem_of_getElem? (i := 48) rfl))) (Or.inr (hw _ (List.mem_of_getElem? (i := 46) rfl))) (by decide) (t := .int) (t' := .int) (by decide) (by decide)))
  have f16_2 : Exa Z h16 a1 "com/example/fuxi/fuxi/dialect/DatabaseColumn" := f15_3.wr W16
  have f16_3 : Fld Z h16 a1 "com/example/fuxi/fuxi/dialect/DatabaseColumn" "sqlType" "I" (.int p2) := f15_4.other W16 (Or.inr (slot_ne (Or.inr (hw _ (List.mem_of_getElem? (i := 42) rfl))) (Or.inr (hw _ (List.mem_of_getElem? (i := 46) rfl))) (by decide) (t := .int) (t' := .int) (by decide) (by decide)))
  have f16_4 : Fld Z h16 a1 "com/example/fuxi/fuxi/dialect/DatabaseColumn" "typeName" "Ljava/lang/String;" (.ref s1) := F15.other W16 (Or.inr (slot_ne (Or.inr (hw _ (List.mem_of_getElem? (i := 44) rfl))) (Or.inr (hw _ (List.mem_of_getElem? (i := 46) rfl))) (by decide) (t := (.object "java/lang/String")) (t' := .int) (by decide) (by decide)))
  have F16 := f15_1.same W16
  have N16 := Fr.snoc X16 N15 g_a1
  have K16 : Keep h0 h16 [a1] := K15.wr W16 (Or.inl (by simp))
  refine own_step (U' := (T16.setTop (mkF m 19 #[.val (.ref a1), .val (.int p2), .val (.ref s1), .val (.int p3), .val (.int p4)] []))) (fun t ht => st16 _ ht) ?_
  refine own_step (U' := (T16.setTop (mkF m 20 #[.val (.ref a1), .val (.int p2), .val (.ref s1), .val (.int p3), .val (.int p4)] [(.ref a1)]))) (fun t ht => XS.aloadN X16.here hx rfl (hb hby own_d6_19) rfl rfl ht) ?_
  refine own_step (U' := (T16.setTop (mkF m 22 #[.val (.ref a1), .val (.int p2), .val (.ref s1), .val (.int p3), .val (.int p4)] [(.int p4), (.ref a1)]))) (fun t ht => XS.iload X16.here hx rfl (hb hby own_d6_20) rfl ht) ?_
  obtain ⟨T17, h17, X17, e17, W17, st17⟩ := putF X16 hx hZ hown (host := "") (Or.inl (hw _ (List.mem_of_getElem? (i := 47) rfl))) Via.refl e16 f16_1 f16_2 (Or.inr ⟨(hw _ (List.mem_of_getElem? (i := 48) rfl)), rfl, hnm⟩) (hw _ (List.mem_of_getElem? (i := 4) rfl)) (ty := .int) (by decide) rfl rfl (g := (mkF m 22 #[.val (.ref a1), .val (.int p2), .val (.ref s1), .val (.int p3), .val (.int p4)] [(.int p4), (.ref a1)])) rfl rfl (hb hby own_d6_22)
  have f17_1 : Exa Z h17 a1 "com/example/fuxi/fuxi/dialect/DatabaseColumn" := f16_2.wr W17
  have f17_2 : Fld Z h17 a1 "com/example/fuxi/fuxi/dialect/DatabaseColumn" "sqlType" "I" (.int p2) := f16_3.other W17 (Or.inr (slot_ne (Or.inr (hw _ (List.mem_of_getElem? (i := 42) rfl))) (Or.inr (hw _ (List.mem_of_getElem? (i := 48) rfl))) (by decide) (t := .int) (t' := .int) (by decide) (by decide)))
  have f17_3 : Fld Z h17 a1 "com/example/fuxi/fuxi/dialect/DatabaseColumn" "typeName" "Ljava/lang/String;" (.ref s1) := f16_4.other W17 (Or.inr (slot_ne (Or.inr (hw _ (List.mem_of_getElem? (i := 44) rfl))) (Or.inr (hw _ (List.mem_of_getElem? (i := 48) rfl))) (by decide) (t := (.object "java/lang/String")) (t' := .int) (by decide) (by decide)))
  have f17_4 : Fld Z h17 a1 "com/example/fuxi/fuxi/dialect/DatabaseColumn" "size" "I" (.int p3) := F16.other W17 (Or.inr (slot_ne (Or.inr (hw _ (List.mem_of_getElem? (i := 46) rfl))) (Or.inr (hw _ (List.mem_of_getElem? (i := 48) rfl))) (by decide) (t := .int) (t' := .int) (by decide) (by decide)))
  have F17 := f16_1.same W17
  have N17 := Fr.snoc X17 N16 g_a1
  have K17 : Keep h0 h17 [a1] := K16.wr W17 (Or.inl (by simp))
  refine own_step (U' := (T17.setTop (mkF m 25 #[.val (.ref a1), .val (.int p2), .val (.ref s1), .val (.int p3), .val (.int p4)] []))) (fun t ht => st17 _ ht) ?_
  refine own_ret X17 (v := none) (fun _ => rfl) Bd.notSynchronized (by decide) (by decide) ?_ (fun fs hr => X17.returnOut hx Bd.returns (hb hby own_d6_25) hr)
  show own_Q_dci Z a1 p2 s1 p3 p4 u1 u2 u3 u4 h0 n0 _ T17.heap _
  rw [e17]
  exact ⟨rfl, N17, K17, f17_2, f17_1⟩
theorem own_d8_0 : decode prog_3_method_2_code 0 = .ok (.aload_n 0, 1) := by decide +kernel
theorem own_d8_1 : decode prog_3_method_2_code 1 = .ok (.getfield 7, 3) := by decide +kernel
theorem own_d8_4 : decode prog_3_method_2_code 4 = .ok (.lookupswitch 64 #[((-16), 60), ((-15), 60), ((-9), 60), ((-1), 60), (1, 60), (12, 60)], 60) := by decide +kernel
theorem own_d8_64 : decode prog_3_method_2_code 64 = .ok (.iconst 1, 1) := by decide +kernel
theorem own_d8_65 : decode prog_3_method_2_code 65 = .ok (.goto 4, 3) := by decide +kernel
theorem own_d8_68 : decode prog_3_method_2_code 68 = .ok (.iconst 0, 1) := by decide +kernel
theorem own_d8_69 : decode prog_3_method_2_code 69 = .ok (.ireturn, 1) := by decide +kernel
theorem own_off8_4 {x : Int32} (h0 : ¬ x = (-16 : Int32)) (h1 : ¬ x = (-15 : Int32)) (h2 : ¬ x = (-9 : Int32)) (h3 : ¬ x = (-1 : Int32)) (h4 : ¬ x = (1 : Int32)) (h5 : ¬ x = (12 : Int32)) : lookupswitch.offset (#[((-16), 60), ((-15), 60), ((-9), 60), ((-1), 60), (1, 60), (12, 60)] : Array (Int × Int)).toList 64 x.toInt = 64 := ((own_off_skip (k := (-16 : Int32)) rfl h0).trans ((own_off_skip (k := (-15 : Int32)) rfl h1).trans ((own_off_skip (k := (-9 : Int32)) rfl h2).trans ((own_off_skip (k := (-1 : Int32)) rfl h3).trans ((own_off_skip (k := (1 : Int32)) rfl h4).trans ((own_off_skip (k := (12 : Int32)) rfl h5).trans rfl))))))
def own_Q_ic (Z : State) (a1 : Addr) (c1 : Int32) (h0 : Heap) (n0 : Nat) (v : Option Value) (h : Heap) (L : List Loc) : Prop := v = some (.int (own_ic c1)) ∧ Fr n0 L ∧ h = h0
set_option maxRecDepth 65536 in
set_option maxHeartbeats 40000000 in
theorem own_m_ic (l : Launch) (Z : State) (a0 : Array Value) (hw : ∀ d ∈ tables_1, d.before a0 Z = true) (ws : List Jvm.Cond) (a1 : Addr) (c1 : Int32) (h0 : Heap) (n0 : Nat) (Z0 : n0 ≤ h0.size) (F1 : Fld Z h0 a1 "com/example/fuxi/fuxi/dialect/DatabaseColumn" "sqlType" "I" (.int c1)) :
    MetFree l (⟨"com/example/fuxi/fuxi/dialect/DatabaseColumn", "isCharacter", "()Z"⟩ : MethodName) (head1 (Jvm.Cond.code (⟨"com/example/fuxi/fuxi/dialect/DatabaseColumn", "isCharacter", "()Z"⟩ : MethodName) prog_3_method_2_code 1 (some .boolean) :: ws) ({ frames := 0, cells := 0, slots := 0, locals := 0 } : Room)) (fun a U => a = #[(.ref a1)] ∧ Z.Warmed39 U.vm ∧ U.heap = h0) (fun _ _ _ _ _ => True) (fun _ U o U' => ∃ v L, o = .returned v ∧ own_Q_ic Z a1 c1 h0 n0 v U'.heap L ∧ FrameEnd U o U' L ({ frames := 0, cells := 0, slots := 0, locals := 0 } : Room).cells ({ frames := 0, cells := 0, slots := 0, locals := 0 } : Room).slots) := by
  refine MetFree.of_bodySF (plainFor_of_name own_pn3) hisR ?_
  intro p e s m args below meth c s₁ Bd hml0 hP hK
  obtain ⟨rfl, hZ, hh⟩ := hP
  have hx := Bd.exec
  have hby := Bd.bytes
  have hml : c.maxLocals = 1 := hml0
  have hown : s.vm.findClass "com/example/fuxi/fuxi/dialect/DatabaseColumn" = some m.cls := findClass_of_methodNamed Bd.named
  have hnm := (name_of_methodNamed Bd.named Bd.method).1
  have X0 : Stand p l e ({ frames := 0, cells := 0, slots := 0, locals := 0 } : Room) s m #[(.ref a1)] below meth c s₁ [] 0 0 := Stand.of_body Bd
  have e0 : s₁.heap = h0 := by rw [← hh, Bd.state]; rfl
  have N0 := Fr.nil n0
  have K0 : Keep h0 h0 [] := Keep.refl _ _
  show own_Go p e below s ({ frames := 0, cells := 0, slots := 0, locals := 0 } : Room).cells ({ frames := 0, cells := 0, slots := 0, locals := 0 } : Room).slots (own_Q_ic Z a1 c1 h0 n0) (s₁.setTop (entryFrame m #[(.ref a1)] 1))
  have ef : entryFrame m #[(.ref a1)] 1 = (mkF m 0 #[.val (.ref a1)] []) := by first | rfl | (simp [entryFrame, mkF, argsToLocals, Value.category, maxLocals]; done)
  rw [ef]
  show own_Go p e below s _ _ _ (s₁.setTop (mkF m 0 #[.val (.ref a1)] []))
  refine own_step (U' := (s₁.setTop (mkF m 1 #[.val (.ref a1)] [(.ref a1)]))) (fun t ht => XS.aloadN X0.here hx rfl (hb hby own_d8_0) rfl rfl ht) ?_
  obtain ⟨T18, X18, e18, st18⟩ := getF X0 hx hZ hown (host := "") (Or.inl (hw _ (List.mem_of_getElem? (i := 41) rfl))) Via.refl e0 F1 (g := (mkF m 1 #[.val (.ref a1)] [(.ref a1)])) rfl rfl (hb hby own_d8_1)
  refine own_step (U' := (T18.setTop (mkF m 4 #[.val (.ref a1)] [(.int c1)]))) (fun t ht => st18 _ ht) ?_
  by_cases hs4_19 : c1 = (-16 : Int32)
  ·
    refine own_step (U' := (T18.setTop (mkF m 64 #[.val (.ref a1)] []))) (fun t ht => own_lsw X18.here hx rfl (pc0 := 4) (pc' := 64) rfl (hb hby own_d8_4) rfl (by decide) (o := 60) (by rw [hs4_19]; decide) (by decide) (by decide) ht) ?_
    refine own_step (U' := (T18.setTop (mkF m 65 #[.val (.ref a1)] [(.int (1 : Int32))]))) (fun t ht => XS.iconst X18.here hx rfl (hb hby own_d8_64) ht) ?_
    refine own_step (U' := (T18.setTop (mkF m 69 #[.val (.ref a1)] [(.int (1 : Int32))]))) (fun t ht => XS.goto X18.here hx rfl (pc0 := 65) (pc' := 69) rfl (hb hby own_d8_65) (by decide) (by decide) ht) ?_
    refine own_ret X18 (v := (some (.int (nar .boolean (1 : Int32))))) (fun h => by rw [Bd.returns] at h; cases h) Bd.notSynchronized (by decide) (by decide) ?_ (fun fs hr => retN X18 hx (t := .boolean) Bd.returns (by simp) (hb hby own_d8_69) hr)
    show own_Q_ic Z a1 c1 h0 n0 _ T18.heap _
    rw [e18]
    refine ⟨?_, N0, rfl⟩
    simp [own_ic, nar, hs4_19]
  ·
    by_cases hs4_20 : c1 = (-15 : Int32)
    ·
      refine own_step (U' := (T18.setTop (mkF m 64 #[.val (.ref a1)] []))) (fun t ht => own_lsw X18.here hx rfl (pc0 := 4) (pc' := 64) rfl (hb hby own_d8_4) rfl (by decide) (o := 60) (by rw [hs4_20]; decide) (by decide) (by decide) ht) ?_
      refine own_step (U' := (T18.setTop (mkF m 65 #[.val (.ref a1)] [(.int (1 : Int32))]))) (fun t ht => XS.iconst X18.here hx rfl (hb hby own_d8_64) ht) ?_
      refine own_step (U' := (T18.setTop (mkF m 69 #[.val (.ref a1)] [(.int (1 : Int32))]))) (fun t ht => XS.goto X18.here hx rfl (pc0 := 65) (pc' := 69) rfl (hb hby own_d8_65) (by decide) (by decide) ht) ?_
      refine own_ret X18 (v := (some (.int (nar .boolean (1 : Int32))))) (fun h => by rw [Bd.returns] at h; cases h) Bd.notSynchronized (by decide) (by decide) ?_ (fun fs hr => retN X18 hx (t := .boolean) Bd.returns (by simp) (hb hby own_d8_69) hr)
      show own_Q_ic Z a1 c1 h0 n0 _ T18.heap _
      rw [e18]
      refine ⟨?_, N0, rfl⟩
      simp [own_ic, nar, hs4_19, hs4_20]
    ·
      by_cases hs4_21 : c1 = (-9 : Int32)
      ·
        refine own_step (U' := (T18.setTop (mkF m 64 #[.val (.ref a1)] []))) (fun t ht => own_lsw X18.here hx rfl (pc0 := 4) (pc' := 64) rfl (hb hby own_d8_4) rfl (by decide) (o := 60) (by rw [hs4_21]; decide) (by decide) (by decide) ht) ?_
        refine own_step (U' := (T18.setTop (mkF m 65 #[.val (.ref a1)] [(.int (1 : Int32))]))) (fun t ht => XS.iconst X18.here hx rfl (hb hby own_d8_64) ht) ?_
        refine own_step (U' := (T18.setTop (mkF m 69 #[.val (.ref a1)] [(.int (1 : Int32))]))) (fun t ht => XS.goto X18.here hx rfl (pc0 := 65) (pc' := 69) rfl (hb hby own_d8_65) (by decide) (by decide) ht) ?_
        refine own_ret X18 (v := (some (.int (nar .boolean (1 : Int32))))) (fun h => by rw [Bd.returns] at h; cases h) Bd.notSynchronized (by decide) (by decide) ?_ (fun fs hr => retN X18 hx (t := .boolean) Bd.returns (by simp) (hb hby own_d8_69) hr)
        show own_Q_ic Z a1 c1 h0 n0 _ T18.heap _
        rw [e18]
        refine ⟨?_, N0, rfl⟩
        simp [own_ic, nar, hs4_19, hs4_20, hs4_21]
      ·
        by_cases hs4_22 : c1 = (-1 : Int32)
        ·
          refine own_step (U' := (T18.setTop (mkF m 64 #[.val (.ref a1)] []))) (fun t ht => own_lsw X18.here hx rfl (pc0 := 4) (pc' := 64) rfl (hb hby own_d8_4) rfl (by decide) (o := 60) (by rw [hs4_22]; decide) (by decide) (by decide) ht) ?_
          refine own_step (U' := (T18.setTop (mkF m 65 #[.val (.ref a1)] [(.int (1 : Int32))]))) (fun t ht => XS.iconst X18.here hx rfl (hb hby own_d8_64) ht) ?_
          refine own_step (U' := (T18.setTop (mkF m 69 #[.val (.ref a1)] [(.int (1 : Int32))]))) (fun t ht => XS.goto X18.here hx rfl (pc0 := 65) (pc' := 69) rfl (hb hby own_d8_65) (by decide) (by decide) ht) ?_
          refine own_ret X18 (v := (some (.int (nar .boolean (1 : Int32))))) (fun h => by rw [Bd.returns] at h; cases h) Bd.notSynchronized (by decide) (by decide) ?_ (fun fs hr => retN X18 hx (t := .boolean) Bd.returns (by simp) (hb hby own_d8_69) hr)
          show own_Q_ic Z a1 c1 h0 n0 _ T18.heap _
          rw [e18]
          refine ⟨?_, N0, rfl⟩
          simp [own_ic, nar, hs4_19, hs4_20, hs4_21, hs4_22]
        ·
          by_cases hs4_23 : c1 = (1 : Int32)
          ·
            refine own_step (U' := (T18.setTop (mkF m 64 #[.val (.ref a1)] []))) (fun t ht => own_lsw X18.here hx rfl (pc0 := 4) (pc' := 64) rfl (hb hby own_d8_4) rfl (by decide) (o := 60) (by rw [hs4_23]; decide) (by decide) (by decide) ht) ?_
            refine own_step (U' := (T18.setTop (mkF m 65 #[.val (.ref a1)] [(.int (1 : Int32))]))) (fun t ht => XS.iconst X18.here hx rfl (hb hby own_d8_64) ht) ?_
            refine own_step (U' := (T18.setTop (mkF m 69 #[.val (.ref a1)] [(.int (1 : Int32))]))) (fun t ht => XS.goto X18.here hx rfl (pc0 := 65) (pc' := 69) rfl (hb hby own_d8_65) (by decide) (by decide) ht) ?_
            refine own_ret X18 (v := (some (.int (nar .boolean (1 : Int32))))) (fun h => by rw [Bd.returns] at h; cases h) Bd.notSynchronized (by decide) (by decide) ?_ (fun fs hr => retN X18 hx (t := .boolean) Bd.returns (by simp) (hb hby own_d8_69) hr)
            show own_Q_ic Z a1 c1 h0 n0 _ T18.heap _
            rw [e18]
            refine ⟨?_, N0, rfl⟩
            simp [own_ic, nar, hs4_19, hs4_20, hs4_21, hs4_22, hs4_23]
          ·
            by_cases hs4_24 : c1 = (12 : Int32)
            ·
              refine own_step (U' := (T18.setTop (mkF m 64 #[.val (.ref a1)] []))) (fun t ht => own_lsw X18.here hx rfl (pc0 := 4) (pc' := 64) rfl (hb hby own_d8_4) rfl (by decide) (o := 60) (by rw [hs4_24]; decide) (by decide) (by decide) ht) ?_
              refine own_step (U' := (T18.setTop (mkF m 65 #[.val (.ref a1)] [(.int (1 : Int32))]))) (fun t ht => XS.iconst X18.here hx rfl (hb hby own_d8_64) ht) ?_
              refine own_step (U' := (T18.setTop (mkF m 69 #[.val (.ref a1)] [(.int (1 : Int32))]))) (fun t ht => XS.goto X18.here hx rfl (pc0 := 65) (pc' := 69) rfl (hb hby own_d8_65) (by decide) (by decide) ht) ?_
              refine own_ret X18 (v := (some (.int (nar .boolean (1 : Int32))))) (fun h => by rw [Bd.returns] at h; cases h) Bd.notSynchronized (by decide) (by decide) ?_ (fun fs hr => retN X18 hx (t := .boolean) Bd.returns (by simp) (hb hby own_d8_69) hr)
              show own_Q_ic Z a1 c1 h0 n0 _ T18.heap _
              rw [e18]
              refine ⟨?_, N0, rfl⟩
              simp [own_ic, nar, hs4_19, hs4_20, hs4_21, hs4_22, hs4_23, hs4_24]
            ·
              refine own_step (U' := (T18.setTop (mkF m 68 #[.val (.ref a1)] []))) (fun t ht => own_lsw X18.here hx rfl (pc0 := 4) (pc' := 68) rfl (hb hby own_d8_4) rfl (by decide) (o := 64) (own_off8_4 hs4_19 hs4_20 hs4_21 hs4_22 hs4_23 hs4_24) (by decide) (by decide) ht) ?_
              refine own_step (U' := (T18.setTop (mkF m 69 #[.val (.ref a1)] [(.int (0 : Int32))]))) (fun t ht => XS.iconst X18.here hx rfl (hb hby own_d8_68) ht) ?_
              refine own_ret X18 (v := (some (.int (nar .boolean (0 : Int32))))) (fun h => by rw [Bd.returns] at h; cases h) Bd.notSynchronized (by decide) (by decide) ?_ (fun fs hr => retN X18 hx (t := .boolean) Bd.returns (by simp) (hb hby own_d8_69) hr)
              show own_Q_ic Z a1 c1 h0 n0 _ T18.heap _
              rw [e18]
              refine ⟨?_, N0, rfl⟩
              simp [own_ic, nar, hs4_19, hs4_20, hs4_21, hs4_22, hs4_23, hs4_24]
theorem own_pn4 : plainName "com/example/fuxi/fuxi/dialect/DatabaseColumnIsCharacterPinLaw" = true := by first | (simp [plainName, overriddenIn]; done) | decide +kernel
theorem own_pd4 : parseMethodDescriptor "(C)Ljava/lang/String;" = some ⟨[.char], some (.object "java/lang/String")⟩ := by decide +kernel
theorem own_pd5 : parseMethodDescriptor "(ILjava/lang/String;II)V" = some ⟨[.int, (.object "java/lang/String"), .int, .int], none⟩ := by decide +kernel
theorem own_pd6 : parseMethodDescriptor "()Z" = some ⟨[], some .boolean⟩ := by decide +kernel
def own_Q_law (Z : State) (p1 : Int32) (p2 : Int32) (p3 : Int32) (p4 : Int32) (cz : Int32) (h0 : Heap) (n0 : Nat) (v : Option Value) (h : Heap) (L : List Loc) : Prop := v = some (.int 1) ∧ Fr n0 L
set_option maxRecDepth 65536 in
set_option maxHeartbeats 40000000 in
theorem own_m_law (l : Launch) (Z : State) (a0 : Array Value) (hw : ∀ d ∈ tables_1, d.before a0 Z = true) (ws : List Jvm.Cond) (p1 : Int32) (p2 : Int32) (p3 : Int32) (p4 : Int32) (cz : Int32) (h0 : Heap) (n0 : Nat) (Z0 : n0 ≤ h0.size) (S_cz : Sta Z h0 "java/lang/String" "COMPACT_STRINGS" "Z" (.int cz)) (hcz : ¬ cz = 0) :
    MetFree l x (head1 (Jvm.Cond.code x code maxLocals ret :: ws) room_1) (fun a U => a = #[(.int p1), (.int p2), (.int p3), (.int p4)] ∧ Z.Warmed39 U.vm ∧ U.heap = h0) (fun _ _ _ _ _ => True) (fun _ U o U' => ∃ v L, o = .returned v ∧ own_Q_law Z p1 p2 p3 p4 cz h0 n0 v U'.heap L ∧ FrameEnd U o U' L 4 41) := by
  refine MetFree.of_bodySF (plainFor_of_name own_pn4) hisR ?_
  intro p e s m args below meth c s₁ Bd hml0 hP hK
  obtain ⟨rfl, hZ, hh⟩ := hP
  have hx := Bd.exec
  have hby := Bd.bytes
  have hml : c.maxLocals = 8 := hml0
  have hown : s.vm.findClass "com/example/fuxi/fuxi/dialect/DatabaseColumnIsCharacterPinLaw" = some m.cls := findClass_of_methodNamed Bd.named
  have hnm := (name_of_methodNamed Bd.named Bd.method).1
  have X0 : Stand p l e room_1 s m #[(.int p1), (.int p2), (.int p3), (.int p4)] below meth c s₁ [] 0 0 := Stand.of_body Bd
  have e0 : s₁.heap = h0 := by rw [← hh, Bd.state]; rfl
  have N0 := Fr.nil n0
  have K0 : Keep h0 h0 [] := Keep.refl _ _
  show own_Go p e below s 4 41 (own_Q_law Z p1 p2 p3 p4 cz h0 n0) (s₁.setTop (entryFrame m #[(.int p1), (.int p2), (.int p3), (.int p4)] maxLocals))
  have ef : entryFrame m #[(.int p1), (.int p2), (.int p3), (.int p4)] maxLocals = (mkF m 0 #[.val (.int p1), .val (.int p2), .val (.int p3), .val (.int p4), .unset, .unset, .unset, .unset] []) := by first | rfl | (simp [entryFrame, mkF, argsToLocals, Value.category, maxLocals]; done)
  rw [ef]
  show own_Go p e below s _ _ _ (s₁.setTop (mkF m 0 #[.val (.int p1), .val (.int p2), .val (.int p3), .val (.int p4), .unset, .unset, .unset, .unset] []))
  refine own_step (U' := (s₁.setTop (mkF m 2 #[.val (.int p1), .val (.int p2), .val (.int p3), .val (.int p4), .unset, .unset, .unset, .unset] [(.int (32 : Int32))]))) (fun t ht => XS.bipush X0.here hx rfl (hb hby at_0) ht) ?_
  obtain ⟨T25, h25, k25, X25, e25, E25, A25, st25⟩ := newP X0 hx hZ (hw _ (List.mem_of_getElem? (i := 0) rfl)) e0 (g := (mkF m 2 #[.val (.int p1), .val (.int p2), .val (.int p3), .val (.int p4), .unset, .unset, .unset, .unset] [(.int (32 : Int32))])) rfl (hb hby at_2) rfl (by decide) (cap := 32) (by decide) (by decide) (by decide) (by decide)
  obtain ⟨b25, g25⟩ : ∃ z, z = (h0).size := ⟨_, rfl⟩
  rw [← g25] at A25 st25
  have g_b25 : n0 ≤ b25 := Nat.le_trans (Nat.le_trans Z0 K0.1) (Nat.le_of_eq g25.symm)
  have sz_b25 : h0.size ≤ b25 := Nat.le_trans K0.1 (Nat.le_of_eq g25.symm)
  have f25_0 : Sta Z h25 "java/lang/String" "COMPACT_STRINGS" "Z" (.int cz) := S_cz.ext E25
  have K25 : Keep h0 h25 [] := K0.ext E25
  have V25 : Arv Z h25 b25 k25 .int (32 : Int32) [(.int (0 : Int32)), (.int (0 : Int32)), (.int (0 : Int32)), (.int (0 : Int32)), (.int (0 : Int32)), (.int (0 : Int32)), (.int (0 : Int32)), (.int (0 : Int32)), (.int (0 : Int32)), (.int (0 : Int32)), (.int (0 : Int32)), (.int (0 : Int32)), (.int (0 : Int32)), (.int (0 : Int32)), (.int (0 : Int32)), (.int (0 : Int32)), (.int (0 : Int32)), (.int (0 : Int32)), (.int (0 : Int32)), (.int (0 : Int32)), (.int (0 : Int32)), (.int (0 : Int32)), (.int (0 : Int32)), (.int (0 : Int32)), (.int (0 : Int32)), (.int (0 : Int32)), (.int (0 : Int32)), (.int (0 : Int32)), (.int (0 : Int32)), (.int (0 : Int32)), (.int (0 : Int32)), (.int (0 : Int32))] (.int (0 : Int32)) := (Arv.new A25 (by decide)).pad (pad_rep [] (.int (0 : Int32)) 32)
  refine own_step (U' := (T25.setTop (mkF m 4 #[.val (.int p1), .val (.int p2), .val (.int p3), .val (.int p4), .unset, .unset, .unset, .unset] [(.ref b25)]))) (fun t ht => st25 _ ht) ?_
  refine own_step (U' := (T25.setTop (mkF m 5 #[.val (.int p1), .val (.int p2), .val (.int p3), .val (.int p4), .unset, .unset, .unset, .unset] [(.ref b25), (.ref b25)]))) (fun t ht => XS.dup X25.here hx rfl (hb hby at_4) rfl rfl ht) ?_
  refine own_step (U' := (T25.setTop (mkF m 6 #[.val (.int p1), .val (.int p2), .val (.int p3), .val (.int p4), .unset, .unset, .unset, .unset] [(.int (0 : Int32)), (.ref b25), (.ref b25)]))) (fun t ht => XS.iconst X25.here hx rfl (hb hby at_5) ht) ?_
  refine own_step (U' := (T25.setTop (mkF m 7 #[.val (.int p1), .val (.int p2), .val (.int p3), .val (.int p4), .unset, .unset, .unset, .unset] [(.int (1 : Int32)), (.int (0 : Int32)), (.ref b25), (.ref b25)]))) (fun t ht => XS.iconst X25.here hx rfl (hb hby at_6) ht) ?_
  obtain ⟨cl26, Ar26, q26, S26, N26_, H26, G26⟩ := (id V25)
  have hin26 : ¬ ((0 : Int32) < 0 ∨ cl26.slots.size ≤ ((0 : Int32)).toNatClampNeg) := inb_of S26 ⟨by decide, by decide⟩
  obtain ⟨T26, h26, X26, e26, W26, st26⟩ := stI X25 hx hZ e25 Ar26 (j := (0 : Int32)) hin26 (g := (mkF m 7 #[.val (.int p1), .val (.int p2), .val (.int p3), .val (.int p4), .unset, .unset, .unset, .unset] [(.int (1 : Int32)), (.int (0 : Int32)), (.ref b25), (.ref b25)])) rfl rfl (hb hby at_7)
  have f26_0 : Sta Z h26 "java/lang/String" "COMPACT_STRINGS" "Z" (.int cz) := f25_0.wr W26
  have V26 : Arv Z h26 b25 k25 .int (32 : Int32) [(.int (1 : Int32)), (.int (0 : Int32)), (.int (0 : Int32)), (.int (0 : Int32)), (.int (0 : Int32)), (.int (0 : Int32)), (.int (0 : Int32)), (.int (0 : Int32)), (.int (0 : Int32)), (.int (0 : Int32)), (.int (0 : Int32)), (.int (0 : Int32)), (.int (0 : Int32)), (.int (0 : Int32)), (.int (0 : Int32)), (.int (0 : Int32)), (.int (0 : Int32)), (.int (0 : Int32)), (.int (0 : Int32)), (.int (0 : Int32)), (.int (0 : Int32)), (.int (0 : Int32)), (.int (0 : Int32)), (.int (0 : Int32)), (.int (0 : Int32)), (.int (0 : Int32)), (.int (0 : Int32)), (.int (0 : Int32)), (.int (0 : Int32)), (.int (0 : Int32)), (.int (0 : Int32)), (.int (0 : Int32))] (.int (0 : Int32)) := Arv.set Ar26 q26 S26 N26_ H26 G26 rfl W26 0 rfl (Nat.le_of_ble_eq_true rfl)
  have N26 := Fr.snoc X26 N0 g_b25
  have K26 : Keep h0 h26 [] := K25.wr W26 (Or.inr sz_b25)
  refine own_step (U' := (T26.setTop (mkF m 8 #[.val (.int p1), .val (.int p2), .val (.int p3), .val (.int p4), .unset, .unset, .unset, .unset] [(.ref b25)]))) (fun t ht => st26 _ ht) ?_
  clear st25 E25 A25 st26 W26 hin26 G26 H26 N26_ S26 q26 Ar26 cl26 f25_0 V25 X25 e25 K25 T25 h25
  refine own_step (U' := (T26.setTop (mkF m 9 #[.val (.int p1), .val (.int p2), .val (.int p3), .val (.int p4), .unset, .unset, .unset, .unset] [(.ref b25), (.ref b25)]))) (fun t ht => XS.dup X26.here hx rfl (hb hby at_8) rfl rfl ht) ?_
  refine own_step (U' := (T26.setTop (mkF m 10 #[.val (.int p1), .val (.int p2), .val (.int p3), .val (.int p4), .unset, .unset, .unset, .unset] [(.int (1 : Int32)), (.ref b25), (.ref b25)]))) (fun t ht => XS.iconst X26.here hx rfl (hb hby at_9) ht) ?_
  refine own_step (U' := (T26.setTop (mkF m 12 #[.val (.int p1), .val (.int p2), .val (.int p3), .val (.int p4), .unset, .unset, .unset, .unset] [(.int (12 : Int32)), (.int (1 : Int32)), (.ref b25), (.ref b25)]))) (fun t ht => XS.bipush X26.here hx rfl (hb hby at_10) ht) ?_
  obtain ⟨cl27, Ar27, q27, S27, N27_, H27, G27⟩ := (id V26)
  have hin27 : ¬ ((1 : Int32) < 0 ∨ cl27.slots.size ≤ ((1 : Int32)).toNatClampNeg) := inb_of S27 ⟨by decide, by decide⟩
  obtain ⟨T27, h27, X27, e27, W27, st27⟩ := stI X26 hx hZ e26 Ar27 (j := (1 : Int32)) hin27 (g := (mkF m 12 #[.val (.int p1), .val (.int p2), .val (.int p3), .val (.int p4), .unset, .unset, .unset, .unset] [(.int (12 : Int32)), (.int (1 : Int32)), (.ref b25), (.ref b25)])) rfl rfl (hb hby at_12)
  have f27_0 : Sta Z h27 "java/lang/String" "COMPACT_STRINGS" "Z" (.int cz) := f26_0.wr W27
  have V27 : Arv Z h27 b25 k25 .int (32 : Int32) [(.int (1 : Int32)), (.int (12 : Int32)), (.int (0 : Int32)), (.int (0 : Int32)), (.int (0 : Int32)), (.int (0 : Int32)), (.int (0 : Int32)), (.int (0 : Int32)), (.int (0 : Int32)), (.int (0 : Int32)), (.int (0 : Int32)), (.int (0 : Int32)), (.int (0 : Int32)), (.int (0 : Int32)), (.int (0 : Int32)), (.int (0 : Int32)), (.int (0 : Int32)), (.int (0 : Int32)), (.int (0 : Int32)), (.int (0 : Int32)), (.int (0 : Int32)), (.int (0 : Int32)), (.int (0 : Int32)), (.int (0 : Int32)), (.int (0 : Int32)), (.int (0 : Int32)), (.int (0 : Int32)), (.int (0 : Int32)), (.int (0 : Int32)), (.int (0 : Int32)), (.int (0 : Int32)), (.int (0 : Int32))] (.int (0 : Int32)) := Arv.set Ar27 q27 S27 N27_ H27 G27 rfl W27 1 rfl (Nat.le_of_ble_eq_true rfl)
  have N27 := Fr.snoc X27 N26 g_b25
  have K27 : Keep h0 h27 [] := K26.wr W27 (Or.inr sz_b25)
  refine own_step (U' := (T27.setTop (mkF m 13 #[.val (.int p1), .val (.int p2), .val (.int p3), .val (.int p4), .unset, .unset, .unset, .unset] [(.ref b25)]))) (fun t ht => st27 _ ht) ?_
  clear st27 W27 hin27 G27 H27 N27_ S27 q27 Ar27 cl27 f26_0 V26 X26 e26 N26 K26 T26 h26
  refine own_step (U' := (T27.setTop (mkF m 14 #[.val (.int p1), .val (.int p2), .val (.int p3), .val (.int p4), .unset, .unset, .unset, .unset] [(.ref b25), (.ref b25)]))) (fun t ht => XS.dup X27.here hx rfl (hb hby at_13) rfl rfl ht) ?_
  refine own_step (U' := (T27.setTop (mkF m 15 #[.val (.int p1), .val (.int p2), .val (.int p3), .val (.int p4), .unset, .unset, .unset, .unset] [(.int (2 : Int32)), (.ref b25), (.ref b25)]))) (fun t ht => XS.iconst X27.here hx rfl (hb hby at_14) ht) ?_
  refine own_step (U' := (T27.setTop (mkF m 16 #[.val (.int p1), .val (.int p2), .val (.int p3), .val (.int p4), .unset, .unset, .unset, .unset] [(.int (-1 : Int32)), (.int (2 : Int32)), (.ref b25), (.ref b25)]))) (fun t ht => XS.iconst X27.here hx rfl (hb hby at_15) ht) ?_
  obtain ⟨cl28, Ar28, q28, S28, N28_, H28, G28⟩ := (id V27)
  have hin28 : ¬ ((2 : Int32) < 0 ∨ cl28.slots.size ≤ ((2 : Int32)).toNatClampNeg) := inb_of S28 ⟨by decide, by decide⟩
  obtain ⟨T28, h28, X28, e28, W28, st28⟩ := stI X27 hx hZ e27 Ar28 (j := (2 : Int32)) hin28 (g := (mkF m 16 #[.val (.int p1), .val (.int p2), .val (.int p3), .val (.int p4), .unset, .unset, .unset, .unset] [(.int (-1 : Int32)), (.int (2 : Int32)), (.ref b25), (.ref b25)])) rfl rfl (hb hby at_16)
  have f28_0 : Sta Z h28 "java/lang/String" "COMPACT_STRINGS" "Z" (.int cz) := f27_0.wr W28
  have V28 : Arv Z h28 b25 k25 .int (32 : Int32) [(.int (1 : Int32)), (.int (12 : Int32)), (.int (-1 : Int32)), (.int (0 : Int32)), (.int (0 : Int32)), (.int (0 : Int32)), (.int (0 : Int32)), (.int (0 : Int32)), (.int (0 : Int32)), (.int (0 : Int32)), (.int (0 : Int32)), (.int (0 : Int32)), (.int (0 : Int32)), (.int (0 : Int32)), (.int (0 : Int32)), (.int (0 : Int32)), (.int (0 : Int32)), (.int (0 : Int32)), (.int (0 : Int32)), (.int (0 : Int32)), (.int (0 : Int32)), (.int (0 : Int32)), (.int (0 : Int32)), (.int (0 : Int32)), (.int (0 : Int32)), (.int (0 : Int32)), (.int (0 : Int32)), (.int (0 : Int32)), (.int (0 : Int32)), (.int (0 : Int32)), (.int (0 : Int32)), (.int (0 : Int32))] (.int (0 : Int32)) := Arv.set Ar28 q28 S28 N28_ H28 G28 rfl W28 2 rfl (Nat.le_of_ble_eq_true rfl)
  have N28 := Fr.snoc X28 N27 g_b25
  have K28 : Keep h0 h28 [] := K27.wr W28 (Or.inr sz_b25)
  refine own_step (U' := (T28.setTop (mkF m 17 #[.val (.int p1), .val (.int p2), .val (.int p3), .val (.int p4), .unset, .unset, .unset, .unset] [(.ref b25)]))) (fun t ht => st28 _ ht) ?_
  clear st28 W28 hin28 G28 H28 N28_ S28 q28 Ar28 cl28 f27_0 V27 X27 e27 N27 K27 T27 h27
  refine own_step (U' := (T28.setTop (mkF m 18 #[.val (.int p1), .val (.int p2), .val (.int p3), .val (.int p4), .unset, .unset, .unset, .unset] [(.ref b25), (.ref b25)]))) (fun t ht => XS.dup X28.here hx rfl (hb hby at_17) rfl rfl ht) ?_
  refine own_step (U' := (T28.setTop (mkF m 19 #[.val (.int p1), .val (.int p2), .val (.int p3), .val (.int p4), .unset, .unset, .unset, .unset] [(.int (3 : Int32)), (.ref b25), (.ref b25)]))) (fun t ht => XS.iconst X28.here hx rfl (hb hby at_18) ht) ?_
  refine own_step (U' := (T28.setTop (mkF m 21 #[.val (.int p1), .val (.int p2), .val (.int p3), .val (.int p4), .unset, .unset, .unset, .unset] [(.int (-15 : Int32)), (.int (3 : Int32)), (.ref b25), (.ref b25)]))) (fun t ht => XS.bipush X28.here hx rfl (hb hby at_19) ht) ?_
  obtain ⟨cl29, Ar29, q29, S29, N29_, H29, G29⟩ := (id V28)
  have hin29 : ¬ ((3 : Int32) < 0 ∨ cl29.slots.size ≤ ((3 : Int32)).toNatClampNeg) := inb_of S29 ⟨by decide, by decide⟩
  obtain ⟨T29, h29, X29, e29, W29, st29⟩ := stI X28 hx hZ e28 Ar29 (j := (3 : Int32)) hin29 (g := (mkF m 21 #[.val (.int p1), .val (.int p2), .val (.int p3), .val (.int p4), .unset, .unset, .unset, .unset] [(.int (-15 : Int32)), (.int (3 : Int32)), (.ref b25), (.ref b25)])) rfl rfl (hb hby at_21)
  have f29_0 : Sta Z h29 "java/lang/String" "COMPACT_STRINGS" "Z" (.int cz) := f28_0.wr W29
  have V29 : Arv Z h29 b25 k25 .int (32 : Int32) [(.int (1 : Int32)), (.int (12 : Int32)), (.int (-1 : Int32)), (.int (-15 : Int32)), (.int (0 : Int32)), (.int (0 : Int32)), (.int (0 : Int32)), (.int (0 : Int32)), (.int (0 : Int32)), (.int (0 : Int32)), (.int (0 : Int32)), (.int (0 : Int32)), (.int (0 : Int32)), (.int (0 : Int32)), (.int (0 : Int32)), (.int (0 : Int32)), (.int (0 : Int32)), (.int (0 : Int32)), (.int (0 : Int32)), (.int (0 : Int32)), (.int (0 : Int32)), (.int (0 : Int32)), (.int (0 : Int32)), (.int (0 : Int32)), (.int (0 : Int32)), (.int (0 : Int32)), (.int (0 : Int32)), (.int (0 : Int32)), (.int (0 : Int32)), (.int (0 : Int32)), (.int (0 : Int32)), (.int (0 : Int32))] (.int (0 : Int32)) := Arv.set Ar29 q29 S29 N29_ H29 G29 rfl W29 3 rfl (Nat.le_of_ble_eq_true rfl)
  have N29 := Fr.snoc X29 N28 g_b25
  have K29 : Keep h0 h29 [] := K28.wr W29 (Or.inr sz_b25)
  refine own_step (U' := (T29.setTop (mkF m 22 #[.val (.int p1), .val (.int p2), .val (.int p3), .val (.int p4), .unset, .unset, .unset, .unset] [(.ref b25)]))) (fun t ht => st29 _ ht) ?_
  clear st29 W29 hin29 G29 H29 N29_ S29 q29 Ar29 cl29 f28_0 V28 X28 e28 N28 K28 T28 h28
  refine own_step (U' := (T29.setTop (mkF m 23 #[.val (.int p1), .val (.int p2), .val (.int p3), .val (.int p4), .unset, .unset, .unset, .unset] [(.ref b25), (.ref b25)]))) (fun t ht => XS.dup X29.here hx rfl (hb hby at_22) rfl rfl ht) ?_
  refine own_step (U' := (T29.setTop (mkF m 24 #[.val (.int p1), .val (.int p2), .val (.int p3), .val (.int p4), .unset, .unset, .unset, .unset] [(.int (4 : Int32)), (.ref b25), (.ref b25)]))) (fun t ht => XS.iconst X29.here hx rfl (hb hby at_23) ht) ?_
  refine own_step (U' := (T29.setTop (mkF m 26 #[.val (.int p1), .val (.int p2), .val (.int p3), .val (.int p4), .unset, .unset, .unset, .unset] [(.int (-9 : Int32)), (.int (4 : Int32)), (.ref b25), (.ref b25)]))) (fun t ht => XS.bipush X29.here hx rfl (hb hby at_24) ht) ?_
  obtain ⟨cl30, Ar30, q30, S30, N30_, H30, G30⟩ := (id V29)
  have hin30 : ¬ ((4 : Int32) < 0 ∨ cl30.slots.size ≤ ((4 : Int32)).toNatClampNeg) := inb_of S30 ⟨by decide, by decide⟩
  obtain ⟨T30, h30, X30, e30, W30, st30⟩ := stI X29 hx hZ e29 Ar30 (j := (4 : Int32)) hin30 (g := (mkF m 26 #[.val (.int p1), .val (.int p2), .val (.int p3), .val (.int p4), .unset, .unset, .unset, .unset] [(.int (-9 : Int32)), (.int (4 : Int32)), (.ref b25), (.ref b25)])) rfl rfl (hb hby at_26)
  have f30_0 : Sta Z h30 "java/lang/String" "COMPACT_STRINGS" "Z" (.int cz) := f29_0.wr W30
  have V30 : Arv Z h30 b25 k25 .int (32 : Int32) [(.int (1 : Int32)), (.int (12 : Int32)), (.int (-1 : Int32)), (.int (-15 : Int32)), (.int (-9 : Int32)), (.int (0 : Int32)), (.int (0 : Int32)), (.int (0 : Int32)), (.int (0 : Int32)), (.int (0 : Int32)), (.int (0 : Int32)), (.int (0 : Int32)), (.int (0 : Int32)), (.int (0 : Int32)), (.int (0 : Int32)), (.int (0 : Int32)), (.int (0 : Int32)), (.int (0 : Int32)), (.int (0 : Int32)), (.int (0 : Int32)), (.int (0 : Int32)), (.int (0 : Int32)), (.int (0 : Int32)), (.int (0 : Int32)), (.int (0 : Int32)), (.int (0 : Int32)), (.int (0 : Int32)), (.int (0 : Int32)), (.int (0 : Int32)), (.int (0 : Int32)), (.int (0 : Int32)), (.int (0 : Int32))] (.int (0 : Int32)) := Arv.set Ar30 q30 S30 N30_ H30 G30 rfl W30 4 rfl (Nat.le_of_ble_eq_true rfl)
  have N30 := Fr.snoc X30 N29 g_b25
  have K30 : Keep h0 h30 [] := K29.wr W30 (Or.inr sz_b25)
  refine own_step (U' := (T30.setTop (mkF m 27 #[.val (.int p1), .val (.int p2), .val (.int p3), .val (.int p4), .unset, .unset, .unset, .unset] [(.ref b25)]))) (fun t ht => st30 _ ht) ?_
  clear st30 W30 hin30 G30 H30 N30_ S30 q30 Ar30 cl30 f29_0 V29 X29 e29 N29 K29 T29 h29
  refine own_step (U' := (T30.setTop (mkF m 28 #[.val (.int p1), .val (.int p2), .val (.int p3), .val (.int p4), .unset, .unset, .unset, .unset] [(.ref b25), (.ref b25)]))) (fun t ht => XS.dup X30.here hx rfl (hb hby at_27) rfl rfl ht) ?_
  refine own_step (U' := (T30.setTop (mkF m 29 #[.val (.int p1), .val (.int p2), .val (.int p3), .val (.int p4), .unset, .unset, .unset, .unset] [(.int (5 : Int32)), (.ref b25), (.ref b25)]))) (fun t ht => XS.iconst X30.here hx rfl (hb hby at_28) ht) ?_
  refine own_step (U' := (T30.setTop (mkF m 31 #[.val (.int p1), .val (.int p2), .val (.int p3), .val (.int p4), .unset, .unset, .unset, .unset] [(.int (-16 : Int32)), (.int (5 : Int32)), (.ref b25), (.ref b25)]))) (fun t ht => XS.bipush X30.here hx rfl (hb hby at_29) ht) ?_
  obtain ⟨cl31, Ar31, q31, S31, N31_, H31, G31⟩ := (id V30)
  have hin31 : ¬ ((5 : Int32) < 0 ∨ cl31.slots.size ≤ ((5 : Int32)).toNatClampNeg) := inb_of S31 ⟨by decide, by decide⟩
  obtain ⟨T31, h31, X31, e31, W31, st31⟩ := stI X30 hx hZ e30 Ar31 (j := (5 : Int32)) hin31 (g := (mkF m 31 #[.val (.int p1), .val (.int p2), .val (.int p3), .val (.int p4), .unset, .unset, .unset, .unset] [(.int (-16 : Int32)), (.int (5 : Int32)), (.ref b25), (.ref b25)])) rfl rfl (hb hby at_31)
  have f31_0 : Sta Z h31 "java/lang/String" "COMPACT_STRINGS" "Z" (.int cz) := f30_0.wr W31
  have V31 : Arv Z h31 b25 k25 .int (32 : Int32) [(.int (1 : Int32)), (.int (12 : Int32)), (.int (-1 : Int32)), (.int (-15 : Int32)), (.int (-9 : Int32)), (.int (-16 : Int32)), (.int (0 : Int32)), (.int (0 : Int32)), (.int (0 : Int32)), (.int (0 : Int32)), (.int (0 : Int32)), (.int (0 : Int32)), (.int (0 : Int32)), (.int (0 : Int32)), (.int (0 : Int32)), (.int (0 : Int32)), (.int (0 : Int32)), (.int (0 : Int32)), (.int (0 : Int32)), (.int (0 : Int32)), (.int (0 : Int32)), (.int (0 : Int32)), (.int (0 : Int32)), (.int (0 : Int32)), (.int (0 : Int32)), (.int (0 : Int32)), (.int (0 : Int32)), (.int (0 : Int32)), (.int (0 : Int32)), (.int (0 : Int32)), (.int (0 : Int32)), (.int (0 : Int32))] (.int (0 : Int32)) := Arv.set Ar31 q31 S31 N31_ H31 G31 rfl W31 5 rfl (Nat.le_of_ble_eq_true rfl)
  have N31 := Fr.snoc X31 N30 g_b25
  have K31 : Keep h0 h31 [] := K30.wr W31 (Or.inr sz_b25)
  refine own_step (U' := (T31.setTop (mkF m 32 #[.val (.int p1), .val (.int p2), .val (.int p3), .val (.int p4), .unset, .unset, .unset, .unset] [(.ref b25)]))) (fun t ht => st31 _ ht) ?_
  clear st31 W31 hin31 G31 H31 N31_ S31 q31 Ar31 cl31 f30_0 V30 X30 e30 N30 K30 T30 h30
  refine own_step (U' := (T31.setTop (mkF m 33 #[.val (.int p1), .val (.int p2), .val (.int p3), .val (.int p4), .unset, .unset, .unset, .unset] [(.ref b25), (.ref b25)]))) (fun t ht => XS.dup X31.here hx rfl (hb hby at_32) rfl rfl ht) ?_
  refine own_step (U' := (T31.setTop (mkF m 35 #[.val (.int p1), .val (.int p2), .val (.int p3), .val (.int p4), .unset, .unset, .unset, .unset] [(.int (6 : Int32)), (.ref b25), (.ref b25)]))) (fun t ht => XS.bipush X31.here hx rfl (hb hby at_33) ht) ?_
  refine own_step (U' := (T31.setTop (mkF m 37 #[.val (.int p1), .val (.int p2), .val (.int p3), .val (.int p4), .unset, .unset, .unset, .unset] [(.int (-2 : Int32)), (.int (6 : Int32)), (.ref b25), (.ref b25)]))) (fun t ht => XS.bipush X31.here hx rfl (hb hby at_35) ht) ?_
  obtain ⟨cl32, Ar32, q32, S32, N32_, H32, G32⟩ := (id V31)
  have hin32 : ¬ ((6 : Int32) < 0 ∨ cl32.slots.size ≤ ((6 : Int32)).toNatClampNeg) := inb_of S32 ⟨by decide, by decide⟩
  obtain ⟨T32, h32, X32, e32, W32, st32⟩ := stI X31 hx hZ e31 Ar32 (j := (6 : Int32)) hin32 (g := (mkF m 37 #[.val (.int p1), .val (.int p2), .val (.int p3), .val (.int p4), .unset, .unset, .unset, .unset] [(.int (-2 : Int32)), (.int (6 : Int32)), (.ref b25), (.ref b25)])) rfl rfl (hb hby at_37)
  have f32_0 : Sta Z h32 "java/lang/String" "COMPACT_STRINGS" "Z" (.int cz) := f31_0.wr W32
  have V32 : Arv Z h32 b25 k25 .int (32 : Int32) [(.int (1 : Int32)), (.int (12 : Int32)), (.int (-1 : Int32)), (.int (-15 : Int32)), (.int (-9 : Int32)), (.int (-16 : Int32)), (.int (-2 : Int32)), (.int (0 : Int32)), (.int (0 : Int32)), (.int (0 : Int32)), (.int (0 : Int32)), (.int (0 : Int32)), (.int (0 : Int32)), (.int (0 : Int32)), (.int (0 : Int32)), (.int (0 : Int32)), (.int (0 : Int32)), (.int (0 : Int32)), (.int (0 : Int32)), (.int (0 : Int32)), (.int (0 : Int32)), (.int (0 : Int32)), (.int (0 : Int32)), (.int (0 : Int32)), (.int (0 : Int32)), (.int (0 : Int32)), (.int (0 : Int32)), (.int (0 : Int32)), (.int (0 : Int32)), (.int (0 : Int32)), (.int (0 : Int32)), (.int (0 : Int32))] (.int (0 : Int32)) := Arv.set Ar32 q32 S32 N32_ H32 G32 rfl W32 6 rfl (Nat.le_of_ble_eq_true rfl)
  have N32 := Fr.snoc X32 N31 g_b25
  have K32 : Keep h0 h32 [] := K31.wr W32 (Or.inr sz_b25)
  refine own_step (U' := (T32.setTop (mkF m 38 #[.val (.int p1), .val (.int p2), .val (.int p3), .val (.int p4), .unset, .unset, .unset, .unset] [(.ref b25)]))) (fun t ht => st32 _ ht) ?_
  clear st32 W32 hin32 G32 H32 N32_ S32 q32 Ar32 cl32 f31_0 V31 X31 e31 N31 K31 T31 h31
  refine own_step (U' := (T32.setTop (mkF m 39 #[.val (.int p1), .val (.int p2), .val (.int p3), .val (.int p4), .unset, .unset, .unset, .unset] [(.ref b25), (.ref b25)]))) (fun t ht => XS.dup X32.here hx rfl (hb hby at_38) rfl rfl ht) ?_
  refine own_step (U' := (T32.setTop (mkF m 41 #[.val (.int p1), .val (.int p2), .val (.int p3), .val (.int p4), .unset, .unset, .unset, .unset] [(.int (7 : Int32)), (.ref b25), (.ref b25)]))) (fun t ht => XS.bipush X32.here hx rfl (hb hby at_39) ht) ?_
  refine own_step (U' := (T32.setTop (mkF m 43 #[.val (.int p1), .val (.int p2), .val (.int p3), .val (.int p4), .unset, .unset, .unset, .unset] [(.int (-3 : Int32)), (.int (7 : Int32)), (.ref b25), (.ref b25)]))) (fun t ht => XS.bipush X32.here hx rfl (hb hby at_41) ht) ?_
  obtain ⟨cl33, Ar33, q33, S33, N33_, H33, G33⟩ := (id V32)
  have hin33 : ¬ ((7 : Int32) < 0 ∨ cl33.slots.size ≤ ((7 : Int32)).toNatClampNeg) := inb_of S33 ⟨by decide, by decide⟩
  obtain ⟨T33, h33, X33, e33, W33, st33⟩ := stI X32 hx hZ e32 Ar33 (j := (7 : Int32)) hin33 (g := (mkF m 43 #[.val (.int p1), .val (.int p2), .val (.int p3), .val (.int p4), .unset, .unset, .unset, .unset] [(.int (-3 : Int32)), (.int (7 : Int32)), (.ref b25), (.ref b25)])) rfl rfl (hb hby at_43)
  have f33_0 : Sta Z h33 "java/lang/String" "COMPACT_STRINGS" "Z" (.int cz) := f32_0.wr W33
  have V33 : Arv Z h33 b25 k25 .int (32 : Int32) [(.int (1 : Int32)), (.int (12 : Int32)), (.int (-1 : Int32)), (.int (-15 : Int32)), (.int (-9 : Int32)), (.int (-16 : Int32)), (.int (-2 : Int32)), (.int (-3 : Int32)), (.int (0 : Int32)), (.int (0 : Int32)), (.int (0 : Int32)), (.int (0 : Int32)), (.int (0 : Int32)), (.int (0 : Int32)), (.int (0 : Int32)), (.int (0 : Int32)), (.int (0 : Int32)), (.int (0 : Int32)), (.int (0 : Int32)), (.int (0 : Int32)), (.int (0 : Int32)), (.int (0 : Int32)), (.int (0 : Int32)), (.int (0 : Int32)), (.int (0 : Int32)), (.int (0 : Int32)), (.int (0 : Int32)), (.int (0 : Int32)), (.int (0 : Int32)), (.int (0 : Int32)), (.int (0 : Int32)), (.int (0 : Int32))] (.int (0 : Int32)) := Arv.set Ar33 q33 S33 N33_ H33 G33 rfl W33 7 rfl (Nat.le_of_ble_eq_true rfl)
  have N33 := Fr.snoc X33 N32 g_b25
  have K33 : Keep h0 h33 [] := K32.wr W33 (Or.inr sz_b25)
  refine own_step (U' := (T33.setTop (mkF m 44 #[.val (.int p1), .val (.int p2), .val (.int p3), .val (.int p4), .unset, .unset, .unset, .unset] [(.ref b25)]))) (fun t ht => st33 _ ht) ?_
  clear st33 W33 hin33 G33 H33 N33_ S33 q33 Ar33 cl33 f32_0 V32 X32 e32 N32 K32 T32 h32
  refine own_step (U' := (T33.setTop (mkF m 45 #[.val (.int p1), .val (.int p2), .val (.int p3), .val (.int p4), .unset, .unset, .unset, .unset] [(.ref b25), (.ref b25)]))) (fun t ht => XS.dup X33.here hx rfl (hb hby at_44) rfl rfl ht) ?_
  refine own_step (U' := (T33.setTop (mkF m 47 #[.val (.int p1), .val (.int p2), .val (.int p3), .val (.int p4), .unset, .unset, .unset, .unset] [(.int (8 : Int32)), (.ref b25), (.ref b25)]))) (fun t ht => XS.bipush X33.here hx rfl (hb hby at_45) ht) ?_
  refine own_step (U' := (T33.setTop (mkF m 49 #[.val (.int p1), .val (.int p2), .val (.int p3), .val (.int p4), .unset, .unset, .unset, .unset] [(.int (-4 : Int32)), (.int (8 : Int32)), (.ref b25), (.ref b25)]))) (fun t ht => XS.bipush X33.here hx rfl (hb hby at_47) ht) ?_
  obtain ⟨cl34, Ar34, q34, S34, N34_, H34, G34⟩ := (id V33)
  have hin34 : ¬ ((8 : Int32) < 0 ∨ cl34.slots.size ≤ ((8 : Int32)).toNatClampNeg) := inb_of S34 ⟨by decide, by decide⟩
  obtain ⟨T34, h34, X34, e34, W34, st34⟩ := stI X33 hx hZ e33 Ar34 (j := (8 : Int32)) hin34 (g := (mkF m 49 #[.val (.int p1), .val (.int p2), .val (.int p3), .val (.int p4), .unset, .unset, .unset, .unset] [(.int (-4 : Int32)), (.int (8 : Int32)), (.ref b25), (.ref b25)])) rfl rfl (hb hby at_49)
  have f34_0 : Sta Z h34 "java/lang/String" "COMPACT_STRINGS" "Z" (.int cz) := f33_0.wr W34
  have V34 : Arv Z h34 b25 k25 .int (32 : Int32) [(.int (1 : Int32)), (.int (12 : Int32)), (.int (-1 : Int32)), (.int (-15 : Int32)), (.int (-9 : Int32)), (.int (-16 : Int32)), (.int (-2 : Int32)), (.int (-3 : Int32)), (.int (-4 : Int32)), (.int (0 : Int32)), (.int (0 : Int32)), (.int (0 : Int32)), (.int (0 : Int32)), (.int (0 : Int32)), (.int (0 : Int32)), (.int (0 : Int32)), (.int (0 : Int32)), (.int (0 : Int32)), (.int (0 : Int32)), (.int (0 : Int32)), (.int (0 : Int32)), (.int (0 : Int32)), (.int (0 : Int32)), (.int (0 : Int32)), (.int (0 : Int32)), (.int (0 : Int32)), (.int (0 : Int32)), (.int (0 : Int32)), (.int (0 : Int32)), (.int (0 : Int32)), (.int (0 : Int32)), (.int (0 : Int32))] (.int (0 : Int32)) := Arv.set Ar34 q34 S34 N34_ H34 G34 rfl W34 8 rfl (Nat.le_of_ble_eq_true rfl)
  have N34 := Fr.snoc X34 N33 g_b25
  have K34 : Keep h0 h34 [] := K33.wr W34 (Or.inr sz_b25)
  refine own_step (U' := (T34.setTop (mkF m 50 #[.val (.int p1), .val (.int p2), .val (.int p3), .val (.int p4), .unset, .unset, .unset, .unset] [(.ref b25)]))) (fun t ht => st34 _ ht) ?_
  clear st34 W34 hin34 G34 H34 N34_ S34 q34 Ar34 cl34 f33_0 V33 X33 e33 N33 K33 T33 h33
  refine own_step (U' := (T34.setTop (mkF m 51 #[.val (.int p1), .val (.int p2), .val (.int p3), .val (.int p4), .unset, .unset, .unset, .unset] [(.ref b25), (.ref b25)]))) (fun t ht => XS.dup X34.here hx rfl (hb hby at_50) rfl rfl ht) ?_
  refine own_step (U' := (T34.setTop (mkF m 53 #[.val (.int p1), .val (.int p2), .val (.int p3), .val (.int p4), .unset, .unset, .unset, .unset] [(.int (9 : Int32)), (.ref b25), (.ref b25)]))) (fun t ht => XS.bipush X34.here hx rfl (hb hby at_51) ht) ?_
  refine own_step (U' := (T34.setTop (mkF m 54 #[.val (.int p1), .val (.int p2), .val (.int p3), .val (.int p4), .unset, .unset, .unset, .unset] [(.int (0 : Int32)), (.int (9 : Int32)), (.ref b25), (.ref b25)]))) (fun t ht => XS.iconst X34.here hx rfl (hb hby at_53) ht) ?_
  obtain ⟨cl35, Ar35, q35, S35, N35_, H35, G35⟩ := (id V34)
  have hin35 : ¬ ((9 : Int32) < 0 ∨ cl35.slots.size ≤ ((9 : Int32)).toNatClampNeg) := inb_of S35 ⟨by decide, by decide⟩
  obtain ⟨T35, h35, X35, e35, W35, st35⟩ := stI X34 hx hZ e34 Ar35 (j := (9 : Int32)) hin35 (g := (mkF m 54 #[.val (.int p1), .val (.int p2), .val (.int p3), .val (.int p4), .unset, .unset, .unset, .unset] [(.int (0 : Int32)), (.int (9 : Int32)), (.ref b25), (.ref b25)])) rfl rfl (hb hby at_54)
  have f35_0 : Sta Z h35 "java/lang/String" "COMPACT_STRINGS" "Z" (.int cz) := f34_0.wr W35
  have V35 : Arv Z h35 b25 k25 .int (32 : Int32) [(.int (1 : Int32)), (.int (12 : Int32)), (.int (-1 : Int32)), (.int (-15 : Int32)), (.int (-9 : Int32)), (.int (-16 : Int32)), (.int (-2 : Int32)), (.int (-3 : Int32)), (.int (-4 : Int32)), (.int (0 : Int32)), (.int (0 : Int32)), (.int (0 : Int32)), (.int (0 : Int32)), (.int (0 : Int32)), (.int (0 : Int32)), (.int (0 : Int32)), (.int (0 : Int32)), (.int (0 : Int32)), (.int (0 : Int32)), (.int (0 : Int32)), (.int (0 : Int32)), (.int (0 : Int32)), (.int (0 : Int32)), (.int (0 : Int32)), (.int (0 : Int32)), (.int (0 : Int32)), (.int (0 : Int32)), (.int (0 : Int32)), (.int (0 : Int32)), (.int (0 : Int32)), (.int (0 : Int32)), (.int (0 : Int32))] (.int (0 : Int32)) := Arv.set Ar35 q35 S35 N35_ H35 G35 rfl W35 9 rfl (Nat.le_of_ble_eq_true rfl)
  have N35 := Fr.snoc X35 N34 g_b25
  have K35 : Keep h0 h35 [] := K34.wr W35 (Or.inr sz_b25)
  refine own_step (U' := (T35.setTop (mkF m 55 #[.val (.int p1), .val (.int p2), .val (.int p3), .val (.int p4), .unset, .unset, .unset, .unset] [(.ref b25)]))) (fun t ht => st35 _ ht) ?_
  clear st35 W35 hin35 G35 H35 N35_ S35 q35 Ar35 cl35 f34_0 V34 X34 e34 N34 K34 T34 h34
  refine own_step (U' := (T35.setTop (mkF m 56 #[.val (.int p1), .val (.int p2), .val (.int p3), .val (.int p4), .unset, .unset, .unset, .unset] [(.ref b25), (.ref b25)]))) (fun t ht => XS.dup X35.here hx rfl (hb hby at_55) rfl rfl ht) ?_
  refine own_step (U' := (T35.setTop (mkF m 58 #[.val (.int p1), .val (.int p2), .val (.int p3), .val (.int p4), .unset, .unset, .unset, .unset] [(.int (10 : Int32)), (.ref b25), (.ref b25)]))) (fun t ht => XS.bipush X35.here hx rfl (hb hby at_56) ht) ?_
  refine own_step (U' := (T35.setTop (mkF m 59 #[.val (.int p1), .val (.int p2), .val (.int p3), .val (.int p4), .unset, .unset, .unset, .unset] [(.int (2 : Int32)), (.int (10 : Int32)), (.ref b25), (.ref b25)]))) (fun t ht => XS.iconst X35.here hx rfl (hb hby at_58) ht) ?_
  obtain ⟨cl36, Ar36, q36, S36, N36_, H36, G36⟩ := (id V35)
  have hin36 : ¬ ((10 : Int32) < 0 ∨ cl36.slots.size ≤ ((10 : Int32)).toNatClampNeg) := inb_of S36 ⟨by decide, by decide⟩
  obtain ⟨T36, h36, X36, e36, W36, st36⟩ := stI X35 hx hZ e35 Ar36 (j := (10 : Int32)) hin36 (g := (mkF m 59 #[.val (.int p1), .val (.int p2), .val (.int p3), .val (.int p4), .unset, .unset, .unset, .unset] [(.int (2 : Int32)), (.int (10 : Int32)), (.ref b25), (.ref b25)])) rfl rfl (hb hby at_59)
  have f36_0 : Sta Z h36 "java/lang/String" "COMPACT_STRINGS" "Z" (.int cz) := f35_0.wr W36
  have V36 : Arv Z h36 b25 k25 .int (32 : Int32) [(.int (1 : Int32)), (.int (12 : Int32)), (.int (-1 : Int32)), (.int (-15 : Int32)), (.int (-9 : Int32)), (.int (-16 : Int32)), (.int (-2 : Int32)), (.int (-3 : Int32)), (.int (-4 : Int32)), (.int (0 : Int32)), (.int (2 : Int32)), (.int (0 : Int32)), (.int (0 : Int32)), (.int (0 : Int32)), (.int (0 : Int32)), (.int (0 : Int32)), (.int (0 : Int32)), (.int (0 : Int32)), (.int (0 : Int32)), (.int (0 : Int32)), (.int (0 : Int32)), (.int (0 : Int32)), (.int (0 : Int32)), (.int (0 : Int32)), (.int (0 : Int32)), (.int (0 : Int32)), (.int (0 : Int32)), (.int (0 : Int32)), (.int (0 : Int32)), (.int (0 : Int32)), (.int (0 : Int32)), (.int (0 : Int32))] (.int (0 : Int32)) := Arv.set Ar36 q36 S36 N36_ H36 G36 rfl W36 10 rfl (Nat.le_of_ble_eq_true rfl)
  have N36 := Fr.snoc X36 N35 g_b25
  have K36 : Keep h0 h36 [] := K35.wr W36 (Or.inr sz_b25)
  refine own_step (U' := (T36.setTop (mkF m 60 #[.val (.int p1), .val (.int p2), .val (.int p3), .val (.int p4), .unset, .unset, .unset, .unset] [(.ref b25)]))) (fun t ht => st36 _ ht) ?_
  clear st36 W36 hin36 G36 H36 N36_ S36 q36 Ar36 cl36 f35_0 V35 X35 e35 N35 K35 T35 h35
  refine own_step (U' := (T36.setTop (mkF m 61 #[.val (.int p1), .val (.int p2), .val (.int p3), .val (.int p4), .unset, .unset, .unset, .unset] [(.ref b25), (.ref b25)]))) (fun t ht => XS.dup X36.here hx rfl (hb hby at_60) rfl rfl ht) ?_
  refine own_step (U' := (T36.setTop (mkF m 63 #[.val (.int p1), .val (.int p2), .val (.int p3), .val (.int p4), .unset, .unset, .unset, .unset] [(.int (11 : Int32)), (.ref b25), (.ref b25)]))) (fun t ht => XS.bipush X36.here hx rfl (hb hby at_61) ht) ?_
  refine own_step (U' := (T36.setTop (mkF m 64 #[.val (.int p1), .val (.int p2), .val (.int p3), .val (.int p4), .unset, .unset, .unset, .unset] [(.int (3 : Int32)), (.int (11 : Int32)), (.ref b25), (.ref b25)]))) (fun t ht => XS.iconst X36.here hx rfl (hb hby at_63) ht) ?_
  obtain ⟨cl37, Ar37, q37, S37, N37_, H37, G37⟩ := (id V36)
  have hin37 : ¬ ((11 : Int32) < 0 ∨ cl37.slots.size ≤ ((11 : Int32)).toNatClampNeg) := inb_of S37 ⟨by decide, by decide⟩
  obtain ⟨T37, h37, X37, e37, W37, st37⟩ := stI X36 hx hZ e36 Ar37 (j := (11 : Int32)) hin37 (g := (mkF m 64 #[.val (.int p1), .val (.int p2), .val (.int p3), .val (.int p4), .unset, .unset, .unset, .unset] [(.int (3 : Int32)), (.int (11 : Int32)), (.ref b25), (.ref b25)])) rfl rfl (hb hby at_64)
  have f37_0 : Sta Z h37 "java/lang/String" "COMPACT_STRINGS" "Z" (.int cz) := f36_0.wr W37
  have V37 : Arv Z h37 b25 k25 .int (32 : Int32) [(.int (1 : Int32)), (.int (12 : Int32)), (.int (-1 : Int32)), (.int (-15 : Int32)), (.int (-9 : Int32)), (.int (-16 : Int32)), (.int (-2 : Int32)), (.int (-3 : Int32)), (.int (-4 : Int32)), (.int (0 : Int32)), (.int (2 : Int32)), (.int (3 : Int32)), (.int (0 : Int32)), (.int (0 : Int32)), (.int (0 : Int32)), (.int (0 : Int32)), (.int (0 : Int32)), (.int (0 : Int32)), (.int (0 : Int32)), (.int (0 : Int32)), (.int (0 : Int32)), (.int (0 : Int32)), (.int (0 : Int32)), (.int (0 : Int32)), (.int (0 : Int32)), (.int (0 : Int32)), (.int (0 : Int32)), (.int (0 : Int32)), (.int (0 : Int32)), (.int (0 : Int32)), (.int (0 : Int32)), (.int (0 : Int32))] (.int (0 : Int32)) := Arv.set Ar37 q37 S37 N37_ H37 G37 rfl W37 11 rfl (Nat.le_of_ble_eq_true rfl)
  have N37 := Fr.snoc X37 N36 g_b25
  have K37 : Keep h0 h37 [] := K36.wr W37 (Or.inr sz_b25)
  refine own_step (U' := (T37.setTop (mkF m 65 #[.val (.int p1), .val (.int p2), .val (.int p3), .val (.int p4), .unset, .unset, .unset, .unset] [(.ref b25)]))) (fun t ht => st37 _ ht) ?_
  clear st37 W37 hin37 G37 H37 N37_ S37 q37 Ar37 cl37 f36_0 V36 X36 e36 N36 K36 T36 h36
  refine own_step (U' := (T37.setTop (mkF m 66 #[.val (.int p1), .val (.int p2), .val (.int p3), .val (.int p4), .unset, .unset, .unset, .unset] [(.ref b25), (.ref b25)]))) (fun t ht => XS.dup X37.here hx rfl (hb hby at_65) rfl rfl ht) ?_
  refine own_step (U' := (T37.setTop (mkF m 68 #[.val (.int p1), .val (.int p2), .val (.int p3), .val (.int p4), .unset, .unset, .unset, .unset] [(.int (12 : Int32)), (.ref b25), (.ref b25)]))) (fun t ht => XS.bipush X37.here hx rfl (hb hby at_66) ht) ?_
  refine own_step (U' := (T37.setTop (mkF m 69 #[.val (.int p1), .val (.int p2), .val (.int p3), .val (.int p4), .unset, .unset, .unset, .unset] [(.int (4 : Int32)), (.int (12 : Int32)), (.ref b25), (.ref b25)]))) (fun t ht => XS.iconst X37.here hx rfl (hb hby at_68) ht) ?_
  obtain ⟨cl38, Ar38, q38, S38, N38_, H38, G38⟩ := (id V37)
  have hin38 : ¬ ((12 : Int32) < 0 ∨ cl38.slots.size ≤ ((12 : Int32)).toNatClampNeg) := inb_of S38 ⟨by decide, by decide⟩
  obtain ⟨T38, h38, X38, e38, W38, st38⟩ := stI X37 hx hZ e37 Ar38 (j := (12 : Int32)) hin38 (g := (mkF m 69 #[.val (.int p1), .val (.int p2), .val (.int p3), .val (.int p4), .unset, .unset, .unset, .unset] [(.int (4 : Int32)), (.int (12 : Int32)), (.ref b25), (.ref b25)])) rfl rfl (hb hby at_69)
  have f38_0 : Sta Z h38 "java/lang/String" "COMPACT_STRINGS" "Z" (.int cz) := f37_0.wr W38
  have V38 : Arv Z h38 b25 k25 .int (32 : Int32) [(.int (1 : Int32)), (.int (12 : Int32)), (.int (-1 : Int32)), (.int (-15 : Int32)), (.int (-9 : Int32)), (.int (-16 : Int32)), (.int (-2 : Int32)), (.int (-3 : Int32)), (.int (-4 : Int32)), (.int (0 : Int32)), (.int (2 : Int32)), (.int (3 : Int32)), (.int (4 : Int32)), (.int (0 : Int32)), (.int (0 : Int32)), (.int (0 : Int32)), (.int (0 : Int32)), (.int (0 : Int32)), (.int (0 : Int32)), (.int (0 : Int32)), (.int (0 : Int32)), (.int (0 : Int32)), (.int (0 : Int32)), (.int (0 : Int32)), (.int (0 : Int32)), (.int (0 : Int32)), (.int (0 : Int32)), (.int (0 : Int32)), (.int (0 : Int32)), (.int (0 : Int32)), (.int (0 : Int32)), (.int (0 : Int32))] (.int (0 : Int32)) := Arv.set Ar38 q38 S38 N38_ H38 G38 rfl W38 12 rfl (Nat.le_of_ble_eq_true rfl)
  have N38 := Fr.snoc X38 N37 g_b25
  have K38 : Keep h0 h38 [] := K37.wr W38 (Or.inr sz_b25)
  refine own_step (U' := (T38.setTop (mkF m 70 #[.val (.int p1), .val (.int p2), .val (.int p3), .val (.int p4), .unset, .unset, .unset, .unset] [(.ref b25)]))) (fun t ht => st38 _ ht) ?_
  clear st38 W38 hin38 G38 H38 N38_ S38 q38 Ar38 cl38 f37_0 V37 X37 e37 N37 K37 T37 h37
  refine own_step (U' := (T38.setTop (mkF m 71 #[.val (.int p1), .val (.int p2), .val (.int p3), .val (.int p4), .unset, .unset, .unset, .unset] [(.ref b25), (.ref b25)]))) (fun t ht => XS.dup X38.here hx rfl (hb hby at_70) rfl rfl ht) ?_
  refine own_step (U' := (T38.setTop (mkF m 73 #[.val (.int p1), .val (.int p2), .val (.int p3), .val (.int p4), .unset, .unset, .unset, .unset] [(.int (13 : Int32)), (.ref b25), (.ref b25)]))) (fun t ht => XS.bipush X38.here hx rfl (hb hby at_71) ht) ?_
  refine own_step (U' := (T38.setTop (mkF m 75 #[.val (.int p1), .val (.int p2), .val (.int p3), .val (.int p4), .unset, .unset, .unset, .unset] [(.int (-5 : Int32)), (.int (13 : Int32)), (.ref b25), (.ref b25)]))) (fun t ht => XS.bipush X38.here hx rfl (hb hby at_73) ht) ?_
  obtain ⟨cl39, Ar39, q39, S39, N39_, H39, G39⟩ := (id V38)
  have hin39 : ¬ ((13 : Int32) < 0 ∨ cl39.slots.size ≤ ((13 : Int32)).toNatClampNeg) := inb_of S39 ⟨by decide, by decide⟩
  obtain ⟨T39, h39, X39, e39, W39, st39⟩ := stI X38 hx hZ e38 Ar39 (j := (13 : Int32)) hin39 (g := (mkF m 75 #[.val (.int p1), .val (.int p2), .val (.int p3), .val (.int p4), .unset, .unset, .unset, .unset] [(.int (-5 : Int32)), (.int (13 : Int32)), (.ref b25), (.ref b25)])) rfl rfl (hb hby at_75)
  have f39_0 : Sta Z h39 "java/lang/String" "COMPACT_STRINGS" "Z" (.int cz) := f38_0.wr W39
  have V39 : Arv Z h39 b25 k25 .int (32 : Int32) [(.int (1 : Int32)), (.int (12 : Int32)), (.int (-1 : Int32)), (.int (-15 : Int32)), (.int (-9 : Int32)), (.int (-16 : Int32)), (.int (-2 : Int32)), (.int (-3 : Int32)), (.int (-4 : Int32)), (.int (0 : Int32)), (.int (2 : Int32)), (.int (3 : Int32)), (.int (4 : Int32)), (.int (-5 : Int32)), (.int (0 : Int32)), (.int (0 : Int32)), (.int (0 : Int32)), (.int (0 : Int32)), (.int (0 : Int32)), (.int (0 : Int32)), (.int (0 : Int32)), (.int (0 : Int32)), (.int (0 : Int32)), (.int (0 : Int32)), (.int (0 : Int32)), (.int (0 : Int32)), (.int (0 : Int32)), (.int (0 : Int32)), (.int (0 : Int32)), (.int (0 : Int32)), (.int (0 : Int32)), (.int (0 : Int32))] (.int (0 : Int32)) := Arv.set Ar39 q39 S39 N39_ H39 G39 rfl W39 13 rfl (Nat.le_of_ble_eq_true rfl)
  have N39 := Fr.snoc X39 N38 g_b25
  have K39 : Keep h0 h39 [] := K38.wr W39 (Or.inr sz_b25)
  refine own_step (U' := (T39.setTop (mkF m 76 #[.val (.int p1), .val (.int p2), .val (.int p3), .val (.int p4), .unset, .unset, .unset, .unset] [(.ref b25)]))) (fun t ht => st39 _ ht) ?_
  clear st39 W39 hin39 G39 H39 N39_ S39 q39 Ar39 cl39 f38_0 V38 X38 e38 N38 K38 T38 h38
  refine own_step (U' := (T39.setTop (mkF m 77 #[.val (.int p1), .val (.int p2), .val (.int p3), .val (.int p4), .unset, .unset, .unset, .unset] [(.ref b25), (.ref b25)]))) (fun t ht => XS.dup X39.here hx rfl (hb hby at_76) rfl rfl ht) ?_
  refine own_step (U' := (T39.setTop (mkF m 79 #[.val (.int p1), .val (.int p2), .val (.int p3), .val (.int p4), .unset, .unset, .unset, .unset] [(.int (14 : Int32)), (.ref b25), (.ref b25)]))) (fun t ht => XS.bipush X39.here hx rfl (hb hby at_77) ht) ?_
  refine own_step (U' := (T39.setTop (mkF m 81 #[.val (.int p1), .val (.int p2), .val (.int p3), .val (.int p4), .unset, .unset, .unset, .unset] [(.int (-6 : Int32)), (.int (14 : Int32)), (.ref b25), (.ref b25)]))) (fun t ht => XS.bipush X39.here hx rfl (hb hby at_79) ht) ?_
  obtain ⟨cl40, Ar40, q40, S40, N40_, H40, G40⟩ := (id V39)
  have hin40 : ¬ ((14 : Int32) < 0 ∨ cl40.slots.size ≤ ((14 : Int32)).toNatClampNeg) := inb_of S40 ⟨by decide, by decide⟩
  obtain ⟨T40, h40, X40, e40, W40, st40⟩ := stI X39 hx hZ e39 Ar40 (j := (14 : Int32)) hin40 (g := (mkF m 81 #[.val (.int p1), .val (.int p2), .val (.int p3), .val (.int p4), .unset, .unset, .unset, .unset] [(.int (-6 : Int32)), (.int (14 : Int32)), (.ref b25), (.ref b25)])) rfl rfl (hb hby at_81)
  have f40_0 : Sta Z h40 "java/lang/String" "COMPACT_STRINGS" "Z" (.int cz) := f39_0.wr W40
  have V40 : Arv Z h40 b25 k25 .int (32 : Int32) [(.int (1 : Int32)), (.int (12 : Int32)), (.int (-1 : Int32)), (.int (-15 : Int32)), (.int (-9 : Int32)), (.int (-16 : Int32)), (.int (-2 : Int32)), (.int (-3 : Int32)), (.int (-4 : Int32)), (.int (0 : Int32)), (.int (2 : Int32)), (.int (3 : Int32)), (.int (4 : Int32)), (.int (-5 : Int32)), (.int (-6 : Int32)), (.int (0 : Int32)), (.int (0 : Int32)), (.int (0 : Int32)), (.int (0 : Int32)), (.int (0 : Int32)), (.int (0 : Int32)), (.int (0 : Int32)), (.int (0 : Int32)), (.int (0 : Int32)), (.int (0 : Int32)), (.int (0 : Int32)), (.int (0 : Int32)), (.int (0 : Int32)), (.int (0 : Int32)), (.int (0 : Int32)), (.int (0 : Int32)), (.int (0 : Int32))] (.int (0 : Int32)) := Arv.set Ar40 q40 S40 N40_ H40 G40 rfl W40 14 rfl (Nat.le_of_ble_eq_true rfl)
  have N40 := Fr.snoc X40 N39 g_b25
  have K40 : Keep h0 h40 [] := K39.wr W40 (Or.inr sz_b25)
  refine own_step (U' := (T40.setTop (mkF m 82 #[.val (.int p1), .val (.int p2), .val (.int p3), .val (.int p4), .unset, .unset, .unset, .unset] [(.ref b25)]))) (fun t ht => st40 _ ht) ?_
  clear st40 W40 hin40 G40 H40 N40_ S40 q40 Ar40 cl40 f39_0 V39 X39 e39 N39 K39 T39 h39
  refine own_step (U' := (T40.setTop (mkF m 83 #[.val (.int p1), .val (.int p2), .val (.int p3), .val (.int p4), .unset, .unset, .unset, .unset] [(.ref b25), (.ref b25)]))) (fun t ht => XS.dup X40.here hx rfl (hb hby at_82) rfl rfl ht) ?_
  refine own_step (U' := (T40.setTop (mkF m 85 #[.val (.int p1), .val (.int p2), .val (.int p3), .val (.int p4), .unset, .unset, .unset, .unset] [(.int (15 : Int32)), (.ref b25), (.ref b25)]))) (fun t ht => XS.bipush X40.here hx rfl (hb hby at_83) ht) ?_
  refine own_step (U' := (T40.setTop (mkF m 87 #[.val (.int p1), .val (.int p2), .val (.int p3), .val (.int p4), .unset, .unset, .unset, .unset] [(.int (-7 : Int32)), (.int (15 : Int32)), (.ref b25), (.ref b25)]))) (fun t ht => XS.bipush X40.here hx rfl (hb hby at_85) ht) ?_
  obtain ⟨cl41, Ar41, q41, S41, N41_, H41, G41⟩ := (id V40)
  have hin41 : ¬ ((15 : Int32) < 0 ∨ cl41.slots.size ≤ ((15 : Int32)).toNatClampNeg) := inb_of S41 ⟨by decide, by decide⟩
  obtain ⟨T41, h41, X41, e41, W41, st41⟩ := stI X40 hx hZ e40 Ar41 (j := (15 : Int32)) hin41 (g := (mkF m 87 #[.val (.int p1), .val (.int p2), .val (.int p3), .val (.int p4), .unset, .unset, .unset, .unset] [(.int (-7 : Int32)), (.int (15 : Int32)), (.ref b25), (.ref b25)])) rfl rfl (hb hby at_87)
  have f41_0 : Sta Z h41 "java/lang/String" "COMPACT_STRINGS" "Z" (.int cz) := f40_0.wr W41
  have V41 : Arv Z h41 b25 k25 .int (32 : Int32) [(.int (1 : Int32)), (.int (12 : Int32)), (.int (-1 : Int32)), (.int (-15 : Int32)), (.int (-9 : Int32)), (.int (-16 : Int32)), (.int (-2 : Int32)), (.int (-3 : Int32)), (.int (-4 : Int32)), (.int (0 : Int32)), (.int (2 : Int32)), (.int (3 : Int32)), (.int (4 : Int32)), (.int (-5 : Int32)), (.int (-6 : Int32)), (.int (-7 : Int32)), (.int (0 : Int32)), (.int (0 : Int32)), (.int (0 : Int32)), (.int (0 : Int32)), (.int (0 : Int32)), (.int (0 : Int32)), (.int (0 : Int32)), (.int (0 : Int32)), (.int (0 : Int32)), (.int (0 : Int32)), (.int (0 : Int32)), (.int (0 : Int32)), (.int (0 : Int32)), (.int (0 : Int32)), (.int (0 : Int32)), (.int (0 : Int32))] (.int (0 : Int32)) := Arv.set Ar41 q41 S41 N41_ H41 G41 rfl W41 15 rfl (Nat.le_of_ble_eq_true rfl)
  have N41 := Fr.snoc X41 N40 g_b25
  have K41 : Keep h0 h41 [] := K40.wr W41 (Or.inr sz_b25)
  refine own_step (U' := (T41.setTop (mkF m 88 #[.val (.int p1), .val (.int p2), .val (.int p3), .val (.int p4), .unset, .unset, .unset, .unset] [(.ref b25)]))) (fun t ht => st41 _ ht) ?_
  clear st41 W41 hin41 G41 H41 N41_ S41 q41 Ar41 cl41 f40_0 V40 X40 e40 N40 K40 T40 h40
  refine own_step (U' := (T41.setTop (mkF m 89 #[.val (.int p1), .val (.int p2), .val (.int p3), .val (.int p4), .unset, .unset, .unset, .unset] [(.ref b25), (.ref b25)]))) (fun t ht => XS.dup X41.here hx rfl (hb hby at_88) rfl rfl ht) ?_
  refine own_step (U' := (T41.setTop (mkF m 91 #[.val (.int p1), .val (.int p2), .val (.int p3), .val (.int p4), .unset, .unset, .unset, .unset] [(.int (16 : Int32)), (.ref b25), (.ref b25)]))) (fun t ht => XS.bipush X41.here hx rfl (hb hby at_89) ht) ?_
  refine own_step (U' := (T41.setTop (mkF m 93 #[.val (.int p1), .val (.int p2), .val (.int p3), .val (.int p4), .unset, .unset, .unset, .unset] [(.int (-8 : Int32)), (.int (16 : Int32)), (.ref b25), (.ref b25)]))) (fun t ht => XS.bipush X41.here hx rfl (hb hby at_91) ht) ?_
  obtain ⟨cl42, Ar42, q42, S42, N42_, H42, G42⟩ := (id V41)
  have hin42 : ¬ ((16 : Int32) < 0 ∨ cl42.slots.size ≤ ((16 : Int32)).toNatClampNeg) := inb_of S42 ⟨by decide, by decide⟩
  obtain ⟨T42, h42, X42, e42, W42, st42⟩ := stI X41 hx hZ e41 Ar42 (j := (16 : Int32)) hin42 (g := (mkF m 93 #[.val (.int p1), .val (.int p2), .val (.int p3), .val (.int p4), .unset, .unset, .unset, .unset] [(.int (-8 : Int32)), (.int (16 : Int32)), (.ref b25), (.ref b25)])) rfl rfl (hb hby at_93)
  have f42_0 : Sta Z h42 "java/lang/String" "COMPACT_STRINGS" "Z" (.int cz) := f41_0.wr W42
  have V42 : Arv Z h42 b25 k25 .int (32 : Int32) [(.int (1 : Int32)), (.int (12 : Int32)), (.int (-1 : Int32)), (.int (-15 : Int32)), (.int (-9 : Int32)), (.int (-16 : Int32)), (.int (-2 : Int32)), (.int (-3 : Int32)), (.int (-4 : Int32)), (.int (0 : Int32)), (.int (2 : Int32)), (.int (3 : Int32)), (.int (4 : Int32)), (.int (-5 : Int32)), (.int (-6 : Int32)), (.int (-7 : Int32)), (.int (-8 : Int32)), (.int (0 : Int32)), (.int (0 : Int32)), (.int (0 : Int32)), (.int (0 : Int32)), (.int (0 : Int32)), (.int (0 : Int32)), (.int (0 : Int32)), (.int (0 : Int32)), (.int (0 : Int32)), (.int (0 : Int32)), (.int (0 : Int32)), (.int (0 : Int32)), (.int (0 : Int32)), (.int (0 : Int32)), (.int (0 : Int32))] (.int (0 : Int32)) := Arv.set Ar42 q42 S42 N42_ H42 G42 rfl W42 16 rfl (Nat.le_of_ble_eq_true rfl)
  have N42 := Fr.snoc X42 N41 g_b25
  have K42 : Keep h0 h42 [] := K41.wr W42 (Or.inr sz_b25)
  refine own_step (U' := (T42.setTop (mkF m 94 #[.val (.int p1), .val (.int p2), .val (.int p3), .val (.int p4), .unset, .unset, .unset, .unset] [(.ref b25)]))) (fun t ht => st42 _ ht) ?_
  clear st42 W42 hin42 G42 H42 N42_ S42 q42 Ar42 cl42 f41_0 V41 X41 e41 N41 K41 T41 h41
  refine own_step (U' := (T42.setTop (mkF m 95 #[.val (.int p1), .val (.int p2), .val (.int p3), .val (.int p4), .unset, .unset, .unset, .unset] [(.ref b25), (.ref b25)]))) (fun t ht => XS.dup X42.here hx rfl (hb hby at_94) rfl rfl ht) ?_
  refine own_step (U' := (T42.setTop (mkF m 97 #[.val (.int p1), .val (.int p2), .val (.int p3), .val (.int p4), .unset, .unset, .unset, .unset] [(.int (17 : Int32)), (.ref b25), (.ref b25)]))) (fun t ht => XS.bipush X42.here hx rfl (hb hby at_95) ht) ?_
  refine own_step (U' := (T42.setTop (mkF m 98 #[.val (.int p1), .val (.int p2), .val (.int p3), .val (.int p4), .unset, .unset, .unset, .unset] [(.int (5 : Int32)), (.int (17 : Int32)), (.ref b25), (.ref b25)]))) (fun t ht => XS.iconst X42.here hx rfl (hb hby at_97) ht) ?_
  obtain ⟨cl43, Ar43, q43, S43, N43_, H43, G43⟩ := (id V42)
  have hin43 : ¬ ((17 : Int32) < 0 ∨ cl43.slots.size ≤ ((17 : Int32)).toNatClampNeg) := inb_of S43 ⟨by decide, by decide⟩
  obtain ⟨T43, h43, X43, e43, W43, st43⟩ := stI X42 hx hZ e42 Ar43 (j := (17 : Int32)) hin43 (g := (mkF m 98 #[.val (.int p1), .val (.int p2), .val (.int p3), .val (.int p4), .unset, .unset, .unset, .unset] [(.int (5 : Int32)), (.int (17 : Int32)), (.ref b25), (.ref b25)])) rfl rfl (hb hby at_98)
  have f43_0 : Sta Z h43 "java/lang/String" "COMPACT_STRINGS" "Z" (.int cz) := f42_0.wr W43
  have V43 : Arv Z h43 b25 k25 .int (32 : Int32) [(.int (1 : Int32)), (.int (12 : Int32)), (.int (-1 : Int32)), (.int (-15 : Int32)), (.int (-9 : Int32)), (.int (-16 : Int32)), (.int (-2 : Int32)), (.int (-3 : Int32)), (.int (-4 : Int32)), (.int (0 : Int32)), (.int (2 : Int32)), (.int (3 : Int32)), (.int (4 : Int32)), (.int (-5 : Int32)), (.int (-6 : Int32)), (.int (-7 : Int32)), (.int (-8 : Int32)), (.int (5 : Int32)), (.int (0 : Int32)), (.int (0 : Int32)), (.int (0 : Int32)), (.int (0 : Int32)), (.int (0 : Int32)), (.int (0 : Int32)), (.int (0 : Int32)), (.int (0 : Int32)), (.int (0 : Int32)), (.int (0 : Int32)), (.int (0 : Int32)), (.int (0 : Int32)), (.int (0 : Int32)), (.int (0 : Int32))] (.int (0 : Int32)) := Arv.set Ar43 q43 S43 N43_ H43 G43 rfl W43 17 rfl (Nat.le_of_ble_eq_true rfl)
  have N43 := Fr.snoc X43 N42 g_b25
  have K43 : Keep h0 h43 [] := K42.wr W43 (Or.inr sz_b25)
  refine own_step (U' := (T43.setTop (mkF m 99 #[.val (.int p1), .val (.int p2), .val (.int p3), .val (.int p4), .unset, .unset, .unset, .unset] [(.ref b25)]))) (fun t ht => st43 _ ht) ?_
  clear st43 W43 hin43 G43 H43 N43_ S43 q43 Ar43 cl43 f42_0 V42 X42 e42 N42 K42 T42 h42
  refine own_step (U' := (T43.setTop (mkF m 100 #[.val (.int p1), .val (.int p2), .val (.int p3), .val (.int p4), .unset, .unset, .unset, .unset] [(.ref b25), (.ref b25)]))) (fun t ht => XS.dup X43.here hx rfl (hb hby at_99) rfl rfl ht) ?_
  refine own_step (U' := (T43.setTop (mkF m 102 #[.val (.int p1), .val (.int p2), .val (.int p3), .val (.int p4), .unset, .unset, .unset, .unset] [(.int (18 : Int32)), (.ref b25), (.ref b25)]))) (fun t ht => XS.bipush X43.here hx rfl (hb hby at_100) ht) ?_
  refine own_step (U' := (T43.setTop (mkF m 104 #[.val (.int p1), .val (.int p2), .val (.int p3), .val (.int p4), .unset, .unset, .unset, .unset] [(.int (6 : Int32)), (.int (18 : Int32)), (.ref b25), (.ref b25)]))) (fun t ht => XS.bipush X43.here hx rfl (hb hby at_102) ht) ?_
  obtain ⟨cl44, Ar44, q44, S44, N44_, H44, G44⟩ := (id V43)
  have hin44 : ¬ ((18 : Int32) < 0 ∨ cl44.slots.size ≤ ((18 : Int32)).toNatClampNeg) := inb_of S44 ⟨by decide, by decide⟩
  obtain ⟨T44, h44, X44, e44, W44, st44⟩ := stI X43 hx hZ e43 Ar44 (j := (18 : Int32)) hin44 (g := (mkF m 104 #[.val (.int p1), .val (.int p2), .val (.int p3), .val (.int p4), .unset, .unset, .unset, .unset] [(.int (6 : Int32)), (.int (18 : Int32)), (.ref b25), (.ref b25)])) rfl rfl (hb hby at_104)
  have f44_0 : Sta Z h44 "java/lang/String" "COMPACT_STRINGS" "Z" (.int cz) := f43_0.wr W44
  have V44 : Arv Z h44 b25 k25 .int (32 : Int32) [(.int (1 : Int32)), (.int (12 : Int32)), (.int (-1 : Int32)), (.int (-15 : Int32)), (.int (-9 : Int32)), (.int (-16 : Int32)), (.int (-2 : Int32)), (.int (-3 : Int32)), (.int (-4 : Int32)), (.int (0 : Int32)), (.int (2 : Int32)), (.int (3 : Int32)), (.int (4 : Int32)), (.int (-5 : Int32)), (.int (-6 : Int32)), (.int (-7 : Int32)), (.int (-8 : Int32)), (.int (5 : Int32)), (.int (6 : Int32)), (.int (0 : Int32)), (.int (0 : Int32)), (.int (0 : Int32)), (.int (0 : Int32)), (.int (0 : Int32)), (.int (0 : Int32)), (.int (0 : Int32)), (.int (0 : Int32)), (.int (0 : Int32)), (.int (0 : Int32)), (.int (0 : Int32)), (.int (0 : Int32)), (.int (0 : Int32))] (.int (0 : Int32)) := Arv.set Ar44 q44 S44 N44_ H44 G44 rfl W44 18 rfl (Nat.le_of_ble_eq_true rfl)
  have N44 := Fr.snoc X44 N43 g_b25
  have K44 : Keep h0 h44 [] := K43.wr W44 (Or.inr sz_b25)
  refine own_step (U' := (T44.setTop (mkF m 105 #[.val (.int p1), .val (.int p2), .val (.int p3), .val (.int p4), .unset, .unset, .unset, .unset] [(.ref b25)]))) (fun t ht => st44 _ ht) ?_
  clear st44 W44 hin44 G44 H44 N44_ S44 q44 Ar44 cl44 f43_0 V43 X43 e43 N43 K43 T43 h43
  refine own_step (U' := (T44.setTop (mkF m 106 #[.val (.int p1), .val (.int p2), .val (.int p3), .val (.int p4), .unset, .unset, .unset, .unset] [(.ref b25), (.ref b25)]))) (fun t ht => XS.dup X44.here hx rfl (hb hby at_105) rfl rfl ht) ?_
  refine own_step (U' := (T44.setTop (mkF m 108 #[.val (.int p1), .val (.int p2), .val (.int p3), .val (.int p4), .unset, .unset, .unset, .unset] [(.int (19 : Int32)), (.ref b25), (.ref b25)]))) (fun t ht => XS.bipush X44.here hx rfl (hb hby at_106) ht) ?_
  refine own_step (U' := (T44.setTop (mkF m 110 #[.val (.int p1), .val (.int p2), .val (.int p3), .val (.int p4), .unset, .unset, .unset, .unset] [(.int (7 : Int32)), (.int (19 : Int32)), (.ref b25), (.ref b25)]))) (fun t ht => XS.bipush X44.here hx rfl (hb hby at_108) ht) ?_
  obtain ⟨cl45, Ar45, q45, S45, N45_, H45, G45⟩ := (id V44)
  have hin45 : ¬ ((19 : Int32) < 0 ∨ cl45.slots.size ≤ ((19 : Int32)).toNatClampNeg) := inb_of S45 ⟨by decide, by decide⟩
  obtain ⟨T45, h45, X45, e45, W45, st45⟩ := stI X44 hx hZ e44 Ar45 (j := (19 : Int32)) hin45 (g := (mkF m 110 #[.val (.int p1), .val (.int p2), .val (.int p3), .val (.int p4), .unset, .unset, .unset, .unset] [(.int (7 : Int32)), (.int (19 : Int32)), (.ref b25), (.ref b25)])) rfl rfl (hb hby at_110)
  have f45_0 : Sta Z h45 "java/lang/String" "COMPACT_STRINGS" "Z" (.int cz) := f44_0.wr W45
  have V45 : Arv Z h45 b25 k25 .int (32 : Int32) [(.int (1 : Int32)), (.int (12 : Int32)), (.int (-1 : Int32)), (.int (-15 : Int32)), (.int (-9 : Int32)), (.int (-16 : Int32)), (.int (-2 : Int32)), (.int (-3 : Int32)), (.int (-4 : Int32)), (.int (0 : Int32)), (.int (2 : Int32)), (.int (3 : Int32)), (.int (4 : Int32)), (.int (-5 : Int32)), (.int (-6 : Int32)), (.int (-7 : Int32)), (.int (-8 : Int32)), (.int (5 : Int32)), (.int (6 : Int32)), (.int (7 : Int32)), (.int (0 : Int32)), (.int (0 : Int32)), (.int (0 : Int32)), (.int (0 : Int32)), (.int (0 : Int32)), (.int (0 : Int32)), (.int (0 : Int32)), (.int (0 : Int32)), (.int (0 : Int32)), (.int (0 : Int32)), (.int (0 : Int32)), (.int (0 : Int32))] (.int (0 : Int32)) := Arv.set Ar45 q45 S45 N45_ H45 G45 rfl W45 19 rfl (Nat.le_of_ble_eq_true rfl)
  have N45 := Fr.snoc X45 N44 g_b25
  have K45 : Keep h0 h45 [] := K44.wr W45 (Or.inr sz_b25)
  refine own_step (U' := (T45.setTop (mkF m 111 #[.val (.int p1), .val (.int p2), .val (.int p3), .val (.int p4), .unset, .unset, .unset, .unset] [(.ref b25)]))) (fun t ht => st45 _ ht) ?_
  clear st45 W45 hin45 G45 H45 N45_ S45 q45 Ar45 cl45 f44_0 V44 X44 e44 N44 K44 T44 h44
  refine own_step (U' := (T45.setTop (mkF m 112 #[.val (.int p1), .val (.int p2), .val (.int p3), .val (.int p4), .unset, .unset, .unset, .unset] [(.ref b25), (.ref b25)]))) (fun t ht => XS.dup X45.here hx rfl (hb hby at_111) rfl rfl ht) ?_
  refine own_step (U' := (T45.setTop (mkF m 114 #[.val (.int p1), .val (.int p2), .val (.int p3), .val (.int p4), .unset, .unset, .unset, .unset] [(.int (20 : Int32)), (.ref b25), (.ref b25)]))) (fun t ht => XS.bipush X45.here hx rfl (hb hby at_112) ht) ?_
  refine own_step (U' := (T45.setTop (mkF m 116 #[.val (.int p1), .val (.int p2), .val (.int p3), .val (.int p4), .unset, .unset, .unset, .unset] [(.int (8 : Int32)), (.int (20 : Int32)), (.ref b25), (.ref b25)]))) (fun t ht => XS.bipush X45.here hx rfl (hb hby at_114) ht) ?_
  obtain ⟨cl46, Ar46, q46, S46, N46_, H46, G46⟩ := (id V45)
  have hin46 : ¬ ((20 : Int32) < 0 ∨ cl46.slots.size ≤ ((20 : Int32)).toNatClampNeg) := inb_of S46 ⟨by decide, by decide⟩
  obtain ⟨T46, h46, X46, e46, W46, st46⟩ := stI X45 hx hZ e45 Ar46 (j := (20 : Int32)) hin46 (g := (mkF m 116 #[.val (.int p1), .val (.int p2), .val (.int p3), .val (.int p4), .unset, .unset, .unset, .unset] [(.int (8 : Int32)), (.int (20 : Int32)), (.ref b25), (.ref b25)])) rfl rfl (hb hby at_116)
  have f46_0 : Sta Z h46 "java/lang/String" "COMPACT_STRINGS" "Z" (.int cz) := f45_0.wr W46
  have V46 : Arv Z h46 b25 k25 .int (32 : Int32) [(.int (1 : Int32)), (.int (12 : Int32)), (.int (-1 : Int32)), (.int (-15 : Int32)), (.int (-9 : Int32)), (.int (-16 : Int32)), (.int (-2 : Int32)), (.int (-3 : Int32)), (.int (-4 : Int32)), (.int (0 : Int32)), (.int (2 : Int32)), (.int (3 : Int32)), (.int (4 : Int32)), (.int (-5 : Int32)), (.int (-6 : Int32)), (.int (-7 : Int32)), (.int (-8 : Int32)), (.int (5 : Int32)), (.int (6 : Int32)), (.int (7 : Int32)), (.int (8 : Int32)), (.int (0 : Int32)), (.int (0 : Int32)), (.int (0 : Int32)), (.int (0 : Int32)), (.int (0 : Int32)), (.int (0 : Int32)), (.int (0 : Int32)), (.int (0 : Int32)), (.int (0 : Int32)), (.int (0 : Int32)), (.int (0 : Int32))] (.int (0 : Int32)) := Arv.set Ar46 q46 S46 N46_ H46 G46 rfl W46 20 rfl (Nat.le_of_ble_eq_true rfl)
  have N46 := Fr.snoc X46 N45 g_b25
  have K46 : Keep h0 h46 [] := K45.wr W46 (Or.inr sz_b25)
  refine own_step (U' := (T46.setTop (mkF m 117 #[.val (.int p1), .val (.int p2), .val (.int p3), .val (.int p4), .unset, .unset, .unset, .unset] [(.ref b25)]))) (fun t ht => st46 _ ht) ?_
  clear st46 W46 hin46 G46 H46 N46_ S46 q46 Ar46 cl46 f45_0 V45 X45 e45 N45 K45 T45 h45
  refine own_step (U' := (T46.setTop (mkF m 118 #[.val (.int p1), .val (.int p2), .val (.int p3), .val (.int p4), .unset, .unset, .unset, .unset] [(.ref b25), (.ref b25)]))) (fun t ht => XS.dup X46.here hx rfl (hb hby at_117) rfl rfl ht) ?_
  refine own_step (U' := (T46.setTop (mkF m 120 #[.val (.int p1), .val (.int p2), .val (.int p3), .val (.int p4), .unset, .unset, .unset, .unset] [(.int (21 : Int32)), (.ref b25), (.ref b25)]))) (fun t ht => XS.bipush X46.here hx rfl (hb hby at_118) ht) ?_
  refine own_step (U' := (T46.setTop (mkF m 122 #[.val (.int p1), .val (.int p2), .val (.int p3), .val (.int p4), .unset, .unset, .unset, .unset] [(.int (91 : Int32)), (.int (21 : Int32)), (.ref b25), (.ref b25)]))) (fun t ht => XS.bipush X46.here hx rfl (hb hby at_120) ht) ?_
  obtain ⟨cl47, Ar47, q47, S47, N47_, H47, G47⟩ := (id V46)
  have hin47 : ¬ ((21 : Int32) < 0 ∨ cl47.slots.size ≤ ((21 : Int32)).toNatClampNeg) := inb_of S47 ⟨by decide, by decide⟩
  obtain ⟨T47, h47, X47, e47, W47, st47⟩ := stI X46 hx hZ e46 Ar47 (j := (21 : Int32)) hin47 (g := (mkF m 122 #[.val (.int p1), .val (.int p2), .val (.int p3), .val (.int p4), .unset, .unset, .unset, .unset] [(.int (91 : Int32)), (.int (21 : Int32)), (.ref b25), (.ref b25)])) rfl rfl (hb hby at_122)
  have f47_0 : Sta Z h47 "java/lang/String" "COMPACT_STRINGS" "Z" (.int cz) := f46_0.wr W47
  have V47 : Arv Z h47 b25 k25 .int (32 : Int32) [(.int (1 : Int32)), (.int (12 : Int32)), (.int (-1 : Int32)), (.int (-15 : Int32)), (.int (-9 : Int32)), (.int (-16 : Int32)), (.int (-2 : Int32)), (.int (-3 : Int32)), (.int (-4 : Int32)), (.int (0 : Int32)), (.int (2 : Int32)), (.int (3 : Int32)), (.int (4 : Int32)), (.int (-5 : Int32)), (.int (-6 : Int32)), (.int (-7 : Int32)), (.int (-8 : Int32)), (.int (5 : Int32)), (.int (6 : Int32)), (.int (7 : Int32)), (.int (8 : Int32)), (.int (91 : Int32)), (.int (0 : Int32)), (.int (0 : Int32)), (.int (0 : Int32)), (.int (0 : Int32)), (.int (0 : Int32)), (.int (0 : Int32)), (.int (0 : Int32)), (.int (0 : Int32)), (.int (0 : Int32)), (.int (0 : Int32))] (.int (0 : Int32)) := Arv.set Ar47 q47 S47 N47_ H47 G47 rfl W47 21 rfl (Nat.le_of_ble_eq_true rfl)
  have N47 := Fr.snoc X47 N46 g_b25
  have K47 : Keep h0 h47 [] := K46.wr W47 (Or.inr sz_b25)
  refine own_step (U' := (T47.setTop (mkF m 123 #[.val (.int p1), .val (.int p2), .val (.int p3), .val (.int p4), .unset, .unset, .unset, .unset] [(.ref b25)]))) (fun t ht => st47 _ ht) ?_
  clear st47 W47 hin47 G47 H47 N47_ S47 q47 Ar47 cl47 f46_0 V46 X46 e46 N46 K46 T46 h46
  refine own_step (U' := (T47.setTop (mkF m 124 #[.val (.int p1), .val (.int p2), .val (.int p3), .val (.int p4), .unset, .unset, .unset, .unset] [(.ref b25), (.ref b25)]))) (fun t ht => XS.dup X47.here hx rfl (hb hby at_123) rfl rfl ht) ?_
  refine own_step (U' := (T47.setTop (mkF m 126 #[.val (.int p1), .val (.int p2), .val (.int p3), .val (.int p4), .unset, .unset, .unset, .unset] [(.int (22 : Int32)), (.ref b25), (.ref b25)]))) (fun t ht => XS.bipush X47.here hx rfl (hb hby at_124) ht) ?_
  refine own_step (U' := (T47.setTop (mkF m 129 #[.val (.int p1), .val (.int p2), .val (.int p3), .val (.int p4), .unset, .unset, .unset, .unset] [(.int (2005 : Int32)), (.int (22 : Int32)), (.ref b25), (.ref b25)]))) (fun t ht => XS.sipush X47.here hx rfl (hb hby at_126) ht) ?_
  obtain ⟨cl48, Ar48, q48, S48, N48_, H48, G48⟩ := (id V47)
  have hin48 : ¬ ((22 : Int32) < 0 ∨ cl48.slots.size ≤ ((22 : Int32)).toNatClampNeg) := inb_of S48 ⟨by decide, by decide⟩
  obtain ⟨T48, h48, X48, e48, W48, st48⟩ := stI X47 hx hZ e47 Ar48 (j := (22 : Int32)) hin48 (g := (mkF m 129 #[.val (.int p1), .val (.int p2), .val (.int p3), .val (.int p4), .unset, .unset, .unset, .unset] [(.int (2005 : Int32)), (.int (22 : Int32)), (.ref b25), (.ref b25)])) rfl rfl (hb hby at_129)
  have f48_0 : Sta Z h48 "java/lang/String" "COMPACT_STRINGS" "Z" (.int cz) := f47_0.wr W48
  have V48 : Arv Z h48 b25 k25 .int (32 : Int32) [(.int (1 : Int32)), (.int (12 : Int32)), (.int (-1 : Int32)), (.int (-15 : Int32)), (.int (-9 : Int32)), (.int (-16 : Int32)), (.int (-2 : Int32)), (.int (-3 : Int32)), (.int (-4 : Int32)), (.int (0 : Int32)), (.int (2 : Int32)), (.int (3 : Int32)), (.int (4 : Int32)), (.int (-5 : Int32)), (.int (-6 : Int32)), (.int (-7 : Int32)), (.int (-8 : Int32)), (.int (5 : Int32)), (.int (6 : Int32)), (.int (7 : Int32)), (.int (8 : Int32)), (.int (91 : Int32)), (.int (2005 : Int32)), (.int (0 : Int32)), (.int (0 : Int32)), (.int (0 : Int32)), (.int (0 : Int32)), (.int (0 : Int32)), (.int (0 : Int32)), (.int (0 : Int32)), (.int (0 : Int32)), (.int (0 : Int32))] (.int (0 : Int32)) := Arv.set Ar48 q48 S48 N48_ H48 G48 rfl W48 22 rfl (Nat.le_of_ble_eq_true rfl)
  have N48 := Fr.snoc X48 N47 g_b25
  have K48 : Keep h0 h48 [] := K47.wr W48 (Or.inr sz_b25)
  refine own_step (U' := (T48.setTop (mkF m 130 #[.val (.int p1), .val (.int p2), .val (.int p3), .val (.int p4), .unset, .unset, .unset, .unset] [(.ref b25)]))) (fun t ht => st48 _ ht) ?_
  clear st48 W48 hin48 G48 H48 N48_ S48 q48 Ar48 cl48 f47_0 V47 X47 e47 N47 K47 T47 h47
  refine own_step (U' := (T48.setTop (mkF m 131 #[.val (.int p1), .val (.int p2), .val (.int p3), .val (.int p4), .unset, .unset, .unset, .unset] [(.ref b25), (.ref b25)]))) (fun t ht => XS.dup X48.here hx rfl (hb hby at_130) rfl rfl ht) ?_
  refine own_step (U' := (T48.setTop (mkF m 133 #[.val (.int p1), .val (.int p2), .val (.int p3), .val (.int p4), .unset, .unset, .unset, .unset] [(.int (23 : Int32)), (.ref b25), (.ref b25)]))) (fun t ht => XS.bipush X48.here hx rfl (hb hby at_131) ht) ?_
  refine own_step (U' := (T48.setTop (mkF m 136 #[.val (.int p1), .val (.int p2), .val (.int p3), .val (.int p4), .unset, .unset, .unset, .unset] [(.int (2011 : Int32)), (.int (23 : Int32)), (.ref b25), (.ref b25)]))) (fun t ht => XS.sipush X48.here hx rfl (hb hby at_133) ht) ?_
  obtain ⟨cl49, Ar49, q49, S49, N49_, H49, G49⟩ := (id V48)
  have hin49 : ¬ ((23 : Int32) < 0 ∨ cl49.slots.size ≤ ((23 : Int32)).toNatClampNeg) := inb_of S49 ⟨by decide, by decide⟩
  obtain ⟨T49, h49, X49, e49, W49, st49⟩ := stI X48 hx hZ e48 Ar49 (j := (23 : Int32)) hin49 (g := (mkF m 136 #[.val (.int p1), .val (.int p2), .val (.int p3), .val (.int p4), .unset, .unset, .unset, .unset] [(.int (2011 : Int32)), (.int (23 : Int32)), (.ref b25), (.ref b25)])) rfl rfl (hb hby at_136)
  have f49_0 : Sta Z h49 "java/lang/String" "COMPACT_STRINGS" "Z" (.int cz) := f48_0.wr W49
  have V49 : Arv Z h49 b25 k25 .int (32 : Int32) [(.int (1 : Int32)), (.int (12 : Int32)), (.int (-1 : Int32)), (.int (-15 : Int32)), (.int (-9 : Int32)), (.int (-16 : Int32)), (.int (-2 : Int32)), (.int (-3 : Int32)), (.int (-4 : Int32)), (.int (0 : Int32)), (.int (2 : Int32)), (.int (3 : Int32)), (.int (4 : Int32)), (.int (-5 : Int32)), (.int (-6 : Int32)), (.int (-7 : Int32)), (.int (-8 : Int32)), (.int (5 : Int32)), (.int (6 : Int32)), (.int (7 : Int32)), (.int (8 : Int32)), (.int (91 : Int32)), (.int (2005 : Int32)), (.int (2011 : Int32)), (.int (0 : Int32)), (.int (0 : Int32)), (.int (0 : Int32)), (.int (0 : Int32)), (.int (0 : Int32)), (.int (0 : Int32)), (.int (0 : Int32)), (.int (0 : Int32))] (.int (0 : Int32)) := Arv.set Ar49 q49 S49 N49_ H49 G49 rfl W49 23 rfl (Nat.le_of_ble_eq_true rfl)
  have N49 := Fr.snoc X49 N48 g_b25
  have K49 : Keep h0 h49 [] := K48.wr W49 (Or.inr sz_b25)
  refine own_step (U' := (T49.setTop (mkF m 137 #[.val (.int p1), .val (.int p2), .val (.int p3), .val (.int p4), .unset, .unset, .unset, .unset] [(.ref b25)]))) (fun t ht => st49 _ ht) ?_
  clear st49 W49 hin49 G49 H49 N49_ S49 q49 Ar49 cl49 f48_0 V48 X48 e48 N48 K48 T48 h48
  refine own_step (U' := (T49.setTop (mkF m 138 #[.val (.int p1), .val (.int p2), .val (.int p3), .val (.int p4), .unset, .unset, .unset, .unset] [(.ref b25), (.ref b25)]))) (fun t ht => XS.dup X49.here hx rfl (hb hby at_137) rfl rfl ht) ?_
  refine own_step (U' := (T49.setTop (mkF m 140 #[.val (.int p1), .val (.int p2), .val (.int p3), .val (.int p4), .unset, .unset, .unset, .unset] [(.int (24 : Int32)), (.ref b25), (.ref b25)]))) (fun t ht => XS.bipush X49.here hx rfl (hb hby at_138) ht) ?_
  refine own_step (U' := (T49.setTop (mkF m 142 #[.val (.int p1), .val (.int p2), .val (.int p3), .val (.int p4), .unset, .unset, .unset, .unset] [(.int (11 : Int32)), (.int (24 : Int32)), (.ref b25), (.ref b25)]))) (fun t ht => XS.bipush X49.here hx rfl (hb hby at_140) ht) ?_
  obtain ⟨cl50, Ar50, q50, S50, N50_, H50, G50⟩ := (id V49)
  have hin50 : ¬ ((24 : Int32) < 0 ∨ cl50.slots.size ≤ ((24 : Int32)).toNatClampNeg) := inb_of S50 ⟨by decide, by decide⟩
  obtain ⟨T50, h50, X50, e50, W50, st50⟩ := stI X49 hx hZ e49 Ar50 (j := (24 : Int32)) hin50 (g := (mkF m 142 #[.val (.int p1), .val (.int p2), .val (.int p3), .val (.int p4), .unset, .unset, .unset, .unset] [(.int (11 : Int32)), (.int (24 : Int32)), (.ref b25), (.ref b25)])) rfl rfl (hb hby at_142)
  have f50_0 : Sta Z h50 "java/lang/String" "COMPACT_STRINGS" "Z" (.int cz) := f49_0.wr W50
  have V50 : Arv Z h50 b25 k25 .int (32 : Int32) [(.int (1 : Int32)), (.int (12 : Int32)), (.int (-1 : Int32)), (.int (-15 : Int32)), (.int (-9 : Int32)), (.int (-16 : Int32)), (.int (-2 : Int32)), (.int (-3 : Int32)), (.int (-4 : Int32)), (.int (0 : Int32)), (.int (2 : Int32)), (.int (3 : Int32)), (.int (4 : Int32)), (.int (-5 : Int32)), (.int (-6 : Int32)), (.int (-7 : Int32)), (.int (-8 : Int32)), (.int (5 : Int32)), (.int (6 : Int32)), (.int (7 : Int32)), (.int (8 : Int32)), (.int (91 : Int32)), (.int (2005 : Int32)), (.int (2011 : Int32)), (.int (11 : Int32)), (.int (0 : Int32)), (.int (0 : Int32)), (.int (0 : Int32)), (.int (0 : Int32)), (.int (0 : Int32)), (.int (0 : Int32)), (.int (0 : Int32))] (.int (0 : Int32)) := Arv.set Ar50 q50 S50 N50_ H50 G50 rfl W50 24 rfl (Nat.le_of_ble_eq_true rfl)
  have N50 := Fr.snoc X50 N49 g_b25
  have K50 : Keep h0 h50 [] := K49.wr W50 (Or.inr sz_b25)
  refine own_step (U' := (T50.setTop (mkF m 143 #[.val (.int p1), .val (.int p2), .val (.int p3), .val (.int p4), .unset, .unset, .unset, .unset] [(.ref b25)]))) (fun t ht => st50 _ ht) ?_
  clear st50 W50 hin50 G50 H50 N50_ S50 q50 Ar50 cl50 f49_0 V49 X49 e49 N49 K49 T49 h49
  refine own_step (U' := (T50.setTop (mkF m 144 #[.val (.int p1), .val (.int p2), .val (.int p3), .val (.int p4), .unset, .unset, .unset, .unset] [(.ref b25), (.ref b25)]))) (fun t ht => XS.dup X50.here hx rfl (hb hby at_143) rfl rfl ht) ?_
  refine own_step (U' := (T50.setTop (mkF m 146 #[.val (.int p1), .val (.int p2), .val (.int p3), .val (.int p4), .unset, .unset, .unset, .unset] [(.int (25 : Int32)), (.ref b25), (.ref b25)]))) (fun t ht => XS.bipush X50.here hx rfl (hb hby at_144) ht) ?_
  refine own_step (U' := (T50.setTop (mkF m 148 #[.val (.int p1), .val (.int p2), .val (.int p3), .val (.int p4), .unset, .unset, .unset, .unset] [(.int (13 : Int32)), (.int (25 : Int32)), (.ref b25), (.ref b25)]))) (fun t ht => XS.bipush X50.here hx rfl (hb hby at_146) ht) ?_
  obtain ⟨cl51, Ar51, q51, S51, N51_, H51, G51⟩ := (id V50)
  have hin51 : ¬ ((25 : Int32) < 0 ∨ cl51.slots.size ≤ ((25 : Int32)).toNatClampNeg) := inb_of S51 ⟨by decide, by decide⟩
  obtain ⟨T51, h51, X51, e51, W51, st51⟩ := stI X50 hx hZ e50 Ar51 (j := (25 : Int32)) hin51 (g := (mkF m 148 #[.val (.int p1), .val (.int p2), .val (.int p3), .val (.int p4), .unset, .unset, .unset, .unset] [(.int (13 : Int32)), (.int (25 : Int32)), (.ref b25), (.ref b25)])) rfl rfl (hb hby at_148)
  have f51_0 : Sta Z h51 "java/lang/String" "COMPACT_STRINGS" "Z" (.int cz) := f50_0.wr W51
  have V51 : Arv Z h51 b25 k25 .int (32 : Int32) [(.int (1 : Int32)), (.int (12 : Int32)), (.int (-1 : Int32)), (.int (-15 : Int32)), (.int (-9 : Int32)), (.int (-16 : Int32)), (.int (-2 : Int32)), (.int (-3 : Int32)), (.int (-4 : Int32)), (.int (0 : Int32)), (.int (2 : Int32)), (.int (3 : Int32)), (.int (4 : Int32)), (.int (-5 : Int32)), (.int (-6 : Int32)), (.int (-7 : Int32)), (.int (-8 : Int32)), (.int (5 : Int32)), (.int (6 : Int32)), (.int (7 : Int32)), (.int (8 : Int32)), (.int (91 : Int32)), (.int (2005 : Int32)), (.int (2011 : Int32)), (.int (11 : Int32)), (.int (13 : Int32)), (.int (0 : Int32)), (.int (0 : Int32)), (.int (0 : Int32)), (.int (0 : Int32)), (.int (0 : Int32)), (.int (0 : Int32))] (.int (0 : Int32)) := Arv.set Ar51 q51 S51 N51_ H51 G51 rfl W51 25 rfl (Nat.le_of_ble_eq_true rfl)
  have N51 := Fr.snoc X51 N50 g_b25
  have K51 : Keep h0 h51 [] := K50.wr W51 (Or.inr sz_b25)
  refine own_step (U' := (T51.setTop (mkF m 149 #[.val (.int p1), .val (.int p2), .val (.int p3), .val (.int p4), .unset, .unset, .unset, .unset] [(.ref b25)]))) (fun t ht => st51 _ ht) ?_
  clear st51 W51 hin51 G51 H51 N51_ S51 q51 Ar51 cl51 f50_0 V50 X50 e50 N50 K50 T50 h50
  refine own_step (U' := (T51.setTop (mkF m 150 #[.val (.int p1), .val (.int p2), .val (.int p3), .val (.int p4), .unset, .unset, .unset, .unset] [(.ref b25), (.ref b25)]))) (fun t ht => XS.dup X51.here hx rfl (hb hby at_149) rfl rfl ht) ?_
  refine own_step (U' := (T51.setTop (mkF m 152 #[.val (.int p1), .val (.int p2), .val (.int p3), .val (.int p4), .unset, .unset, .unset, .unset] [(.int (26 : Int32)), (.ref b25), (.ref b25)]))) (fun t ht => XS.bipush X51.here hx rfl (hb hby at_150) ht) ?_
  refine own_step (U' := (T51.setTop (mkF m 154 #[.val (.int p1), .val (.int p2), .val (.int p3), .val (.int p4), .unset, .unset, .unset, .unset] [(.int (-10 : Int32)), (.int (26 : Int32)), (.ref b25), (.ref b25)]))) (fun t ht => XS.bipush X51.here hx rfl (hb hby at_152) ht) ?_
  obtain ⟨cl52, Ar52, q52, S52, N52_, H52, G52⟩ := (id V51)
  have hin52 : ¬ ((26 : Int32) < 0 ∨ cl52.slots.size ≤ ((26 : Int32)).toNatClampNeg) := inb_of S52 ⟨by decide, by decide⟩
  obtain ⟨T52, h52, X52, e52, W52, st52⟩ := stI X51 hx hZ e51 Ar52 (j := (26 : Int32)) hin52 (g := (mkF m 154 #[.val (.int p1), .val (.int p2), .val (.int p3), .val (.int p4), .unset, .unset, .unset, .unset] [(.int (-10 : Int32)), (.int (26 : Int32)), (.ref b25), (.ref b25)])) rfl rfl (hb hby at_154)
  have f52_0 : Sta Z h52 "java/lang/String" "COMPACT_STRINGS" "Z" (.int cz) := f51_0.wr W52
  have V52 : Arv Z h52 b25 k25 .int (32 : Int32) [(.int (1 : Int32)), (.int (12 : Int32)), (.int (-1 : Int32)), (.int (-15 : Int32)), (.int (-9 : Int32)), (.int (-16 : Int32)), (.int (-2 : Int32)), (.int (-3 : Int32)), (.int (-4 : Int32)), (.int (0 : Int32)), (.int (2 : Int32)), (.int (3 : Int32)), (.int (4 : Int32)), (.int (-5 : Int32)), (.int (-6 : Int32)), (.int (-7 : Int32)), (.int (-8 : Int32)), (.int (5 : Int32)), (.int (6 : Int32)), (.int (7 : Int32)), (.int (8 : Int32)), (.int (91 : Int32)), (.int (2005 : Int32)), (.int (2011 : Int32)), (.int (11 : Int32)), (.int (13 : Int32)), (.int (-10 : Int32)), (.int (0 : Int32)), (.int (0 : Int32)), (.int (0 : Int32)), (.int (0 : Int32)), (.int (0 : Int32))] (.int (0 : Int32)) := Arv.set Ar52 q52 S52 N52_ H52 G52 rfl W52 26 rfl (Nat.le_of_ble_eq_true rfl)
  have N52 := Fr.snoc X52 N51 g_b25
  have K52 : Keep h0 h52 [] := K51.wr W52 (Or.inr sz_b25)
  refine own_step (U' := (T52.setTop (mkF m 155 #[.val (.int p1), .val (.int p2), .val (.int p3), .val (.int p4), .unset, .unset, .unset, .unset] [(.ref b25)]))) (fun t ht => st52 _ ht) ?_
  clear st52 W52 hin52 G52 H52 N52_ S52 q52 Ar52 cl52 f51_0 V51 X51 e51 N51 K51 T51 h51
  refine own_step (U' := (T52.setTop (mkF m 156 #[.val (.int p1), .val (.int p2), .val (.int p3), .val (.int p4), .unset, .unset, .unset, .unset] [(.ref b25), (.ref b25)]))) (fun t ht => XS.dup X52.here hx rfl (hb hby at_155) rfl rfl ht) ?_
  refine own_step (U' := (T52.setTop (mkF m 158 #[.val (.int p1), .val (.int p2), .val (.int p3), .val (.int p4), .unset, .unset, .unset, .unset] [(.int (27 : Int32)), (.ref b25), (.ref b25)]))) (fun t ht => XS.bipush X52.here hx rfl (hb hby at_156) ht) ?_
  refine own_step (U' := (T52.setTop (mkF m 160 #[.val (.int p1), .val (.int p2), .val (.int p3), .val (.int p4), .unset, .unset, .unset, .unset] [(.int (-11 : Int32)), (.int (27 : Int32)), (.ref b25), (.ref b25)]))) (fun t ht => XS.bipush X52.here hx rfl (hb hby at_158) ht) ?_
  obtain ⟨cl53, Ar53, q53, S53, N53_, H53, G53⟩ := (id V52)
  have hin53 : ¬ ((27 : Int32) < 0 ∨ cl53.slots.size ≤ ((27 : Int32)).toNatClampNeg) := inb_of S53 ⟨by decide, by decide⟩
  obtain ⟨T53, h53, X53, e53, W53, st53⟩ := stI X52 hx hZ e52 Ar53 (j := (27 : Int32)) hin53 (g := (mkF m 160 #[.val (.int p1), .val (.int p2), .val (.int p3), .val (.int p4), .unset, .unset, .unset, .unset] [(.int (-11 : Int32)), (.int (27 : Int32)), (.ref b25), (.ref b25)])) rfl rfl (hb hby at_160)
  have f53_0 : Sta Z h53 "java/lang/String" "COMPACT_STRINGS" "Z" (.int cz) := f52_0.wr W53
  have V53 : Arv Z h53 b25 k25 .int (32 : Int32) [(.int (1 : Int32)), (.int (12 : Int32)), (.int (-1 : Int32)), (.int (-15 : Int32)), (.int (-9 : Int32)), (.int (-16 : Int32)), (.int (-2 : Int32)), (.int (-3 : Int32)), (.int (-4 : Int32)), (.int (0 : Int32)), (.int (2 : Int32)), (.int (3 : Int32)), (.int (4 : Int32)), (.int (-5 : Int32)), (.int (-6 : Int32)), (.int (-7 : Int32)), (.int (-8 : Int32)), (.int (5 : Int32)), (.int (6 : Int32)), (.int (7 : Int32)), (.int (8 : Int32)), (.int (91 : Int32)), (.int (2005 : Int32)), (.int (2011 : Int32)), (.int (11 : Int32)), (.int (13 : Int32)), (.int (-10 : Int32)), (.int (-11 : Int32)), (.int (0 : Int32)), (.int (0 : Int32)), (.int (0 : Int32)), (.int (0 : Int32))] (.int (0 : Int32)) := Arv.set Ar53 q53 S53 N53_ H53 G53 rfl W53 27 rfl (Nat.le_of_ble_eq_true rfl)
  have N53 := Fr.snoc X53 N52 g_b25
  have K53 : Keep h0 h53 [] := K52.wr W53 (Or.inr sz_b25)
  refine own_step (U' := (T53.setTop (mkF m 161 #[.val (.int p1), .val (.int p2), .val (.int p3), .val (.int p4), .unset, .unset, .unset, .unset] [(.ref b25)]))) (fun t ht => st53 _ ht) ?_
  clear st53 W53 hin53 G53 H53 N53_ S53 q53 Ar53 cl53 f52_0 V52 X52 e52 N52 K52 T52 h52
  refine own_step (U' := (T53.setTop (mkF m 162 #[.val (.int p1), .val (.int p2), .val (.int p3), .val (.int p4), .unset, .unset, .unset, .unset] [(.ref b25), (.ref b25)]))) (fun t ht => XS.dup X53.here hx rfl (hb hby at_161) rfl rfl ht) ?_
  refine own_step (U' := (T53.setTop (mkF m 164 #[.val (.int p1), .val (.int p2), .val (.int p3), .val (.int p4), .unset, .unset, .unset, .unset] [(.int (28 : Int32)), (.ref b25), (.ref b25)]))) (fun t ht => XS.bipush X53.here hx rfl (hb hby at_162) ht) ?_
  refine own_step (U' := (T53.setTop (mkF m 166 #[.val (.int p1), .val (.int p2), .val (.int p3), .val (.int p4), .unset, .unset, .unset, .unset] [(.int (-14 : Int32)), (.int (28 : Int32)), (.ref b25), (.ref b25)]))) (fun t ht => XS.bipush X53.here hx rfl (hb hby at_164) ht) ?_
  obtain ⟨cl54, Ar54, q54, S54, N54_, H54, G54⟩ := (id V53)
  have hin54 : ¬ ((28 : Int32) < 0 ∨ cl54.slots.size ≤ ((28 : Int32)).toNatClampNeg) := inb_of S54 ⟨by decide, by decide⟩
  obtain ⟨T54, h54, X54, e54, W54, st54⟩ := stI X53 hx hZ e53 Ar54 (j := (28 : Int32)) hin54 (g := (mkF m 166 #[.val (.int p1), .val (.int p2), .val (.int p3), .val (.int p4), .unset, .unset, .unset, .unset] [(.int (-14 : Int32)), (.int (28 : Int32)), (.ref b25), (.ref b25)])) rfl rfl (hb hby at_166)
  have f54_0 : Sta Z h54 "java/lang/String" "COMPACT_STRINGS" "Z" (.int cz) := f53_0.wr W54
  have V54 : Arv Z h54 b25 k25 .int (32 : Int32) [(.int (1 : Int32)), (.int (12 : Int32)), (.int (-1 : Int32)), (.int (-15 : Int32)), (.int (-9 : Int32)), (.int (-16 : Int32)), (.int (-2 : Int32)), (.int (-3 : Int32)), (.int (-4 : Int32)), (.int (0 : Int32)), (.int (2 : Int32)), (.int (3 : Int32)), (.int (4 : Int32)), (.int (-5 : Int32)), (.int (-6 : Int32)), (.int (-7 : Int32)), (.int (-8 : Int32)), (.int (5 : Int32)), (.int (6 : Int32)), (.int (7 : Int32)), (.int (8 : Int32)), (.int (91 : Int32)), (.int (2005 : Int32)), (.int (2011 : Int32)), (.int (11 : Int32)), (.int (13 : Int32)), (.int (-10 : Int32)), (.int (-11 : Int32)), (.int (-14 : Int32)), (.int (0 : Int32)), (.int (0 : Int32)), (.int (0 : Int32))] (.int (0 : Int32)) := Arv.set Ar54 q54 S54 N54_ H54 G54 rfl W54 28 rfl (Nat.le_of_ble_eq_true rfl)
  have N54 := Fr.snoc X54 N53 g_b25
  have K54 : Keep h0 h54 [] := K53.wr W54 (Or.inr sz_b25)
  refine own_step (U' := (T54.setTop (mkF m 167 #[.val (.int p1), .val (.int p2), .val (.int p3), .val (.int p4), .unset, .unset, .unset, .unset] [(.ref b25)]))) (fun t ht => st54 _ ht) ?_
  clear st54 W54 hin54 G54 H54 N54_ S54 q54 Ar54 cl54 f53_0 V53 X53 e53 N53 K53 T53 h53
  refine own_step (U' := (T54.setTop (mkF m 168 #[.val (.int p1), .val (.int p2), .val (.int p3), .val (.int p4), .unset, .unset, .unset, .unset] [(.ref b25), (.ref b25)]))) (fun t ht => XS.dup X54.here hx rfl (hb hby at_167) rfl rfl ht) ?_
  refine own_step (U' := (T54.setTop (mkF m 170 #[.val (.int p1), .val (.int p2), .val (.int p3), .val (.int p4), .unset, .unset, .unset, .unset] [(.int (29 : Int32)), (.ref b25), (.ref b25)]))) (fun t ht => XS.bipush X54.here hx rfl (hb hby at_168) ht) ?_
  refine own_step (U' := (T54.setTop (mkF m 172 #[.val (.int p1), .val (.int p2), .val (.int p3), .val (.int p4), .unset, .unset, .unset, .unset] [(.int (-17 : Int32)), (.int (29 : Int32)), (.ref b25), (.ref b25)]))) (fun t ht => XS.bipush X54.here hx rfl (hb hby at_170) ht) ?_
  obtain ⟨cl55, Ar55, q55, S55, N55_, H55, G55⟩ := (id V54)
  have hin55 : ¬ ((29 : Int32) < 0 ∨ cl55.slots.size ≤ ((29 : Int32)).toNatClampNeg) := inb_of S55 ⟨by decide, by decide⟩
  obtain ⟨T55, h55, X55, e55, W55, st55⟩ := stI X54 hx hZ e54 Ar55 (j := (29 : Int32)) hin55 (g := (mkF m 172 #[.val (.int p1), .val (.int p2), .val (.int p3), .val (.int p4), .unset, .unset, .unset, .unset] [(.int (-17 : Int32)), (.int (29 : Int32)), (.ref b25), (.ref b25)])) rfl rfl (hb hby at_172)
  have f55_0 : Sta Z h55 "java/lang/String" "COMPACT_STRINGS" "Z" (.int cz) := f54_0.wr W55
  have V55 : Arv Z h55 b25 k25 .int (32 : Int32) [(.int (1 : Int32)), (.int (12 : Int32)), (.int (-1 : Int32)), (.int (-15 : Int32)), (.int (-9 : Int32)), (.int (-16 : Int32)), (.int (-2 : Int32)), (.int (-3 : Int32)), (.int (-4 : Int32)), (.int (0 : Int32)), (.int (2 : Int32)), (.int (3 : Int32)), (.int (4 : Int32)), (.int (-5 : Int32)), (.int (-6 : Int32)), (.int (-7 : Int32)), (.int (-8 : Int32)), (.int (5 : Int32)), (.int (6 : Int32)), (.int (7 : Int32)), (.int (8 : Int32)), (.int (91 : Int32)), (.int (2005 : Int32)), (.int (2011 : Int32)), (.int (11 : Int32)), (.int (13 : Int32)), (.int (-10 : Int32)), (.int (-11 : Int32)), (.int (-14 : Int32)), (.int (-17 : Int32)), (.int (0 : Int32)), (.int (0 : Int32))] (.int (0 : Int32)) := Arv.set Ar55 q55 S55 N55_ H55 G55 rfl W55 29 rfl (Nat.le_of_ble_eq_true rfl)
  have N55 := Fr.snoc X55 N54 g_b25
  have K55 : Keep h0 h55 [] := K54.wr W55 (Or.inr sz_b25)
  refine own_step (U' := (T55.setTop (mkF m 173 #[.val (.int p1), .val (.int p2), .val (.int p3), .val (.int p4), .unset, .unset, .unset, .unset] [(.ref b25)]))) (fun t ht => st55 _ ht) ?_
  clear st55 W55 hin55 G55 H55 N55_ S55 q55 Ar55 cl55 f54_0 V54 X54 e54 N54 K54 T54 h54
  refine own_step (U' := (T55.setTop (mkF m 174 #[.val (.int p1), .val (.int p2), .val (.int p3), .val (.int p4), .unset, .unset, .unset, .unset] [(.ref b25), (.ref b25)]))) (fun t ht => XS.dup X55.here hx rfl (hb hby at_173) rfl rfl ht) ?_
  refine own_step (U' := (T55.setTop (mkF m 176 #[.val (.int p1), .val (.int p2), .val (.int p3), .val (.int p4), .unset, .unset, .unset, .unset] [(.int (30 : Int32)), (.ref b25), (.ref b25)]))) (fun t ht => XS.bipush X55.here hx rfl (hb hby at_174) ht) ?_
  refine own_step (U' := (T55.setTop (mkF m 178 #[.val (.int p1), .val (.int p2), .val (.int p3), .val (.int p4), .unset, .unset, .unset, .unset] [(.int (-2147483648 : Int32)), (.int (30 : Int32)), (.ref b25), (.ref b25)]))) (fun t ht => X55.ldcInt hx hown (mvT hZ (hw _ (List.mem_of_getElem? (i := 1) rfl))) (g := (mkF m 176 #[.val (.int p1), .val (.int p2), .val (.int p3), .val (.int p4), .unset, .unset, .unset, .unset] [(.int (30 : Int32)), (.ref b25), (.ref b25)])) rfl (hb hby at_176) _ ht) ?_
  obtain ⟨cl56, Ar56, q56, S56, N56_, H56, G56⟩ := (id V55)
  have hin56 : ¬ ((30 : Int32) < 0 ∨ cl56.slots.size ≤ ((30 : Int32)).toNatClampNeg) := inb_of S56 ⟨by decide, by decide⟩
  obtain ⟨T56, h56, X56, e56, W56, st56⟩ := stI X55 hx hZ e55 Ar56 (j := (30 : Int32)) hin56 (g := (mkF m 178 #[.val (.int p1), .val (.int p2), .val (.int p3), .val (.int p4), .unset, .unset, .unset, .unset] [(.int (-2147483648 : Int32)), (.int (30 : Int32)), (.ref b25), (.ref b25)])) rfl rfl (hb hby at_178)
  have f56_0 : Sta Z h56 "java/lang/String" "COMPACT_STRINGS" "Z" (.int cz) := f55_0.wr W56
  have V56 : Arv Z h56 b25 k25 .int (32 : Int32) [(.int (1 : Int32)), (.int (12 : Int32)), (.int (-1 : Int32)), (.int (-15 : Int32)), (.int (-9 : Int32)), (.int (-16 : Int32)), (.int (-2 : Int32)), (.int (-3 : Int32)), (.int (-4 : Int32)), (.int (0 : Int32)), (.int (2 : Int32)), (.int (3 : Int32)), (.int (4 : Int32)), (.int (-5 : Int32)), (.int (-6 : Int32)), (.int (-7 : Int32)), (.int (-8 : Int32)), (.int (5 : Int32)), (.int (6 : Int32)), (.int (7 : Int32)), (.int (8 : Int32)), (.int (91 : Int32)), (.int (2005 : Int32)), (.int (2011 : Int32)), (.int (11 : Int32)), (.int (13 : Int32)), (.int (-10 : Int32)), (.int (-11 : Int32)), (.int (-14 : Int32)), (.int (-17 : Int32)), (.int (-2147483648 : Int32)), (.int (0 : Int32))] (.int (0 : Int32)) := Arv.set Ar56 q56 S56 N56_ H56 G56 rfl W56 30 rfl (Nat.le_of_ble_eq_true rfl)
  have N56 := Fr.snoc X56 N55 g_b25
  have K56 : Keep h0 h56 [] := K55.wr W56 (Or.inr sz_b25)
  refine own_step (U' := (T56.setTop (mkF m 179 #[.val (.int p1), .val (.int p2), .val (.int p3), .val (.int p4), .unset, .unset, .unset, .unset] [(.ref b25)]))) (fun t ht => st56 _ ht) ?_
  clear st56 W56 hin56 G56 H56 N56_ S56 q56 Ar56 cl56 f55_0 V55 X55 e55 N55 K55 T55 h55
  refine own_step (U' := (T56.setTop (mkF m 180 #[.val (.int p1), .val (.int p2), .val (.int p3), .val (.int p4), .unset, .unset, .unset, .unset] [(.ref b25), (.ref b25)]))) (fun t ht => XS.dup X56.here hx rfl (hb hby at_179) rfl rfl ht) ?_
  refine own_step (U' := (T56.setTop (mkF m 182 #[.val (.int p1), .val (.int p2), .val (.int p3), .val (.int p4), .unset, .unset, .unset, .unset] [(.int (31 : Int32)), (.ref b25), (.ref b25)]))) (fun t ht => XS.bipush X56.here hx rfl (hb hby at_180) ht) ?_
  refine own_step (U' := (T56.setTop (mkF m 184 #[.val (.int p1), .val (.int p2), .val (.int p3), .val (.int p4), .unset, .unset, .unset, .unset] [(.int (2147483647 : Int32)), (.int (31 : Int32)), (.ref b25), (.ref b25)]))) (fun t ht => X56.ldcInt hx hown (mvT hZ (hw _ (List.mem_of_getElem? (i := 2) rfl))) (g := (mkF m 182 #[.val (.int p1), .val (.int p2), .val (.int p3), .val (.int p4), .unset, .unset, .unset, .unset] [(.int (31 : Int32)), (.ref b25), (.ref b25)])) rfl (hb hby at_182) _ ht) ?_
  obtain ⟨cl57, Ar57, q57, S57, N57_, H57, G57⟩ := (id V56)
  have hin57 : ¬ ((31 : Int32) < 0 ∨ cl57.slots.size ≤ ((31 : Int32)).toNatClampNeg) := inb_of S57 ⟨by decide, by decide⟩
  obtain ⟨T57, h57, X57, e57, W57, st57⟩ := stI X56 hx hZ e56 Ar57 (j := (31 : Int32)) hin57 (g := (mkF m 184 #[.val (.int p1), .val (.int p2), .val (.int p3), .val (.int p4), .unset, .unset, .unset, .unset] [(.int (2147483647 : Int32)), (.int (31 : Int32)), (.ref b25), (.ref b25)])) rfl rfl (hb hby at_184)
  have f57_0 : Sta Z h57 "java/lang/String" "COMPACT_STRINGS" "Z" (.int cz) := f56_0.wr W57
  have V57 : Arv Z h57 b25 k25 .int (32 : Int32) [(.int (1 : Int32)), (.int (12 : Int32)), (.int (-1 : Int32)), (.int (-15 : Int32)), (.int (-9 : Int32)), (.int (-16 : Int32)), (.int (-2 : Int32)), (.int (-3 : Int32)), (.int (-4 : Int32)), (.int (0 : Int32)), (.int (2 : Int32)), (.int (3 : Int32)), (.int (4 : Int32)), (.int (-5 : Int32)), (.int (-6 : Int32)), (.int (-7 : Int32)), (.int (-8 : Int32)), (.int (5 : Int32)), (.int (6 : Int32)), (.int (7 : Int32)), (.int (8 : Int32)), (.int (91 : Int32)), (.int (2005 : Int32)), (.int (2011 : Int32)), (.int (11 : Int32)), (.int (13 : Int32)), (.int (-10 : Int32)), (.int (-11 : Int32)), (.int (-14 : Int32)), (.int (-17 : Int32)), (.int (-2147483648 : Int32)), (.int (2147483647 : Int32))] (.int (0 : Int32)) := Arv.set Ar57 q57 S57 N57_ H57 G57 rfl W57 31 rfl (Nat.le_of_ble_eq_true rfl)
  have N57 := Fr.snoc X57 N56 g_b25
  have K57 : Keep h0 h57 [] := K56.wr W57 (Or.inr sz_b25)
  refine own_step (U' := (T57.setTop (mkF m 185 #[.val (.int p1), .val (.int p2), .val (.int p3), .val (.int p4), .unset, .unset, .unset, .unset] [(.ref b25)]))) (fun t ht => st57 _ ht) ?_
  clear st57 W57 hin57 G57 H57 N57_ S57 q57 Ar57 cl57 f56_0 V56 X56 e56 N56 K56 T56 h56
  refine own_step (U' := (T57.setTop (mkF m 187 #[.val (.int p1), .val (.int p2), .val (.int p3), .val (.int p4), .val (.ref b25), .unset, .unset, .unset] []))) (fun t ht => XS.astore X57.here hx rfl (hb hby at_185) rfl rfl (l' := #[.val (.int p1), .val (.int p2), .val (.int p3), .val (.int p4), .val (.ref b25), .unset, .unset, .unset]) rfl ht) ?_
  obtain ⟨Lo58, Xo58, No58⟩ : ∃ Lx, Stand p l e room_1 s m #[(.int p1), (.int p2), (.int p3), (.int p4)] below meth c T57 Lx 1 32 ∧ Fr n0 Lx := ⟨_, X57, N57⟩
  have tail207 : ∀ (tt : Int32), own_Go p e below s 4 41 (own_Q_law Z p1 p2 p3 p4 cz h0 n0) (T57.setTop (mkF m 207 #[.val (.int p1), .val (.int p2), .val (.int p3), .val (.int p4), .val (.ref b25), .unset, .unset, .unset] [(.int tt)])) := by
    intro tt
    refine own_step (U' := (T57.setTop (mkF m 209 #[.val (.int p1), .val (.int p2), .val (.int p3), .val (.int p4), .val (.ref b25), .val (.int tt), .unset, .unset] []))) (fun t ht => XS.istore Xo58.here hx rfl (hb hby at_207) rfl (l' := #[.val (.int p1), .val (.int p2), .val (.int p3), .val (.int p4), .val (.ref b25), .val (.int tt), .unset, .unset]) rfl ht) ?_
    obtain ⟨T59, h59, X59, e59, E59, A59, D59, -, st59⟩ := newO Xo58 hx hZ hown (hw _ (List.mem_of_getElem? (i := 3) rfl)) (hw _ (List.mem_of_getElem? (i := 4) rfl)) (hw _ (List.mem_of_getElem? (i := 5) rfl)) e57 (g := (mkF m 209 #[.val (.int p1), .val (.int p2), .val (.int p3), .val (.int p4), .val (.ref b25), .val (.int tt), .unset, .unset] [])) rfl (hb hby at_209) (by decide) (by decide)
    obtain ⟨b59, g59⟩ : ∃ z, z = (h57).size := ⟨_, rfl⟩
    rw [← g59] at A59 D59 st59
    have g_b59 : n0 ≤ b59 := Nat.le_trans (Nat.le_trans Z0 K57.1) (Nat.le_of_eq g59.symm)
    have sz_b59 : h0.size ≤ b59 := Nat.le_trans K57.1 (Nat.le_of_eq g59.symm)
    have f59_0 : Sta Z h59 "java/lang/String" "COMPACT_STRINGS" "Z" (.int cz) := f57_0.ext E59
    have K59 : Keep h0 h59 [] := K57.ext E59
    have F59_42 : Fld Z h59 b59 "com/example/fuxi/fuxi/dialect/DatabaseColumn" "sqlType" "I" (.int (0 : Int32)) := D59 (Or.inr (hw _ (List.mem_of_getElem? (i := 42) rfl))) (ty := .int) (by decide)
    have F59_44 : Fld Z h59 b59 "com/example/fuxi/fuxi/dialect/DatabaseColumn" "typeName" "Ljava/lang/String;" .null := D59 (Or.inr (hw _ (List.mem_of_getElem? (i := 44) rfl))) (ty := (.object "java/lang/String")) (by decide)
    have F59_46 : Fld Z h59 b59 "com/example/fuxi/fuxi/dialect/DatabaseColumn" "size" "I" (.int (0 : Int32)) := D59 (Or.inr (hw _ (List.mem_of_getElem? (i := 46) rfl))) (ty := .int) (by decide)
    have F59_48 : Fld Z h59 b59 "com/example/fuxi/fuxi/dialect/DatabaseColumn" "scale" "I" (.int (0 : Int32)) := D59 (Or.inr (hw _ (List.mem_of_getElem? (i := 48) rfl))) (ty := .int) (by decide)
    refine own_step (U' := (T59.setTop (mkF m 212 #[.val (.int p1), .val (.int p2), .val (.int p3), .val (.int p4), .val (.ref b25), .val (.int tt), .unset, .unset] [(.ref b59)]))) (fun t ht => st59 _ ht) ?_
    refine own_step (U' := (T59.setTop (mkF m 213 #[.val (.int p1), .val (.int p2), .val (.int p3), .val (.int p4), .val (.ref b25), .val (.int tt), .unset, .unset] [(.ref b59), (.ref b59)]))) (fun t ht => XS.dup X59.here hx rfl (hb hby at_212) rfl rfl ht) ?_
    refine own_step (U' := (T59.setTop (mkF m 215 #[.val (.int p1), .val (.int p2), .val (.int p3), .val (.int p4), .val (.ref b25), .val (.int tt), .unset, .unset] [(.int tt), (.ref b59), (.ref b59)]))) (fun t ht => XS.iload X59.here hx rfl (hb hby at_213) rfl ht) ?_
    refine own_step (U' := (T59.setTop (mkF m 216 #[.val (.int p1), .val (.int p2), .val (.int p3), .val (.int p4), .val (.ref b25), .val (.int tt), .unset, .unset] [(.int p3), (.int tt), (.ref b59), (.ref b59)]))) (fun t ht => XS.iloadN X59.here hx rfl (hb hby at_215) rfl ht) ?_
    refine own_step (U' := (T59.setTop (mkF m 219 #[.val (.int p1), .val (.int p2), .val (.int p3), .val (.int p4), .val (.ref b25), .val (.int tt), .unset, .unset] [(.int (255 : Int32)), (.int p3), (.int tt), (.ref b59), (.ref b59)]))) (fun t ht => XS.sipush X59.here hx rfl (hb hby at_216) ht) ?_
    refine own_step (U' := (T59.setTop (mkF m 220 #[.val (.int p1), .val (.int p2), .val (.int p3), .val (.int p4), .val (.ref b25), .val (.int tt), .unset, .unset] [(.int (p3 &&& (255 : Int32))), (.int tt), (.ref b59), (.ref b59)]))) (fun t ht => XS.iand X59.here hx rfl (hb hby at_219) rfl ht) ?_
    refine own_step (U' := (T59.setTop (mkF m 221 #[.val (.int p1), .val (.int p2), .val (.int p3), .val (.int p4), .val (.ref b25), .val (.int tt), .unset, .unset] [(.int ((p3 &&& (255 : Int32)).toUInt32.toUInt16.toUInt32.toInt32)), (.int tt), (.ref b59), (.ref b59)]))) (fun t ht => XT.i2c X59.here hx rfl (hb hby at_220) rfl ht) ?_
    obtain ⟨_, _, ⟨T60, L60, k60, n60⟩, -, X60, ⟨Lc60, hQ60, l60, y60, z60⟩, st60⟩ := Jvm.LawKit.callS X59 hx (y := (⟨"java/lang/String", "valueOf", "(C)Ljava/lang/String;"⟩ : MethodName)) hown (mvT hZ (hw _ (List.mem_of_getElem? (i := 6) rfl))) (mvT hZ (hw _ (List.mem_of_getElem? (i := 7) rfl))) (mvT hZ (hw _ (List.mem_of_getElem? (i := 8) rfl))) (mvT hZ (hw _ (List.mem_of_getElem? (i := 9) rfl))) (by decide) (backOf (W := 3) (own_m_vof l Z a0 hw [] (((p3 &&& (255 : Int32)).toUInt32.toUInt16.toUInt32.toInt32)) (cz) h59 n0 (Nat.le_trans Z0 K59.1) f59_0 hcz (own_le255 _)) hZ (hw _ (List.mem_of_getElem? (i := 9) rfl)) (hw _ (List.mem_of_getElem? (i := 8) rfl)) (by decide) (by decide)) (g := (mkF m 221 #[.val (.int p1), .val (.int p2), .val (.int p3), .val (.int p4), .val (.ref b25), .val (.int tt), .unset, .unset] [(.int ((p3 &&& (255 : Int32)).toUInt32.toUInt16.toUInt32.toInt32)), (.int tt), (.ref b59), (.ref b59)])) rfl (by rw [hml]; rfl) (argsL := [(.int ((p3 &&& (255 : Int32)).toUInt32.toUInt16.toUInt32.toInt32))]) (rest := [(.int tt), (.ref b59), (.ref b59)]) (lenOf own_pd4 rfl) rfl (by show 2 * 0 + _ ≤ _; exact Nat.le_of_eq rfl) (hb hby at_221) (fun _ _ => ⟨rfl, e59, (by decide : 2 + 2 ≤ _), (by decide : 36 + 5 ≤ _)⟩)
    dsimp only [Pt.U, Pt.locs, Pt.cells, Pt.slots] at X60 l60 y60 z60 st60 hQ60
    subst l60 y60 z60
    obtain ⟨r_60, rfl, Nq60, Kq60, sq_r_60, Fq60_0⟩ := hQ60
    have N60 := Fr.app No58 Nq60
    have ne_b59_r_60 : b59 ≠ r_60 := Nat.ne_of_lt (Nat.lt_of_lt_of_le A59.lt sq_r_60)
    have g_r_60 : n0 ≤ r_60 := Nat.le_trans (Nat.le_trans Z0 K59.1) sq_r_60
    have sz_r_60 : h0.size ≤ r_60 := Nat.le_trans K59.1 sq_r_60
    have f60_0 : Sta Z T60.heap "java/lang/String" "COMPACT_STRINGS" "Z" (.int cz) := own_sta_keep f59_0 Kq60 own_pl0
    have f60_1 : Exa Z T60.heap b59 "com/example/fuxi/fuxi/dialect/DatabaseColumn" := A59.keep Kq60
    have f60_2 : Fld Z T60.heap b59 "com/example/fuxi/fuxi/dialect/DatabaseColumn" "sqlType" "I" (.int (0 : Int32)) := F59_42.keep Kq60 nin0
    have f60_3 : Fld Z T60.heap b59 "com/example/fuxi/fuxi/dialect/DatabaseColumn" "typeName" "Ljava/lang/String;" .null := F59_44.keep Kq60 nin0
    have f60_4 : Fld Z T60.heap b59 "com/example/fuxi/fuxi/dialect/DatabaseColumn" "size" "I" (.int (0 : Int32)) := F59_46.keep Kq60 nin0
    have f60_5 : Fld Z T60.heap b59 "com/example/fuxi/fuxi/dialect/DatabaseColumn" "scale" "I" (.int (0 : Int32)) := F59_48.keep Kq60 nin0
    have K60 : Keep h0 T60.heap [] := K59.trans Kq60 all0
    refine own_step (U' := (T60.setTop (mkF m 224 #[.val (.int p1), .val (.int p2), .val (.int p3), .val (.int p4), .val (.ref b25), .val (.int tt), .unset, .unset] [(.ref r_60), (.int tt), (.ref b59), (.ref b59)]))) (fun t ht => st60 _ ht) ?_
    refine own_step (U' := (T60.setTop (mkF m 225 #[.val (.int p1), .val (.int p2), .val (.int p3), .val (.int p4), .val (.ref b25), .val (.int tt), .unset, .unset] [(.int p3), (.ref r_60), (.int tt), (.ref b59), (.ref b59)]))) (fun t ht => XS.iloadN X60.here hx rfl (hb hby at_224) rfl ht) ?_
    refine own_step (U' := (T60.setTop (mkF m 226 #[.val (.int p1), .val (.int p2), .val (.int p3), .val (.int p4), .val (.ref b25), .val (.int tt), .unset, .unset] [(.int p4), (.int p3), (.ref r_60), (.int tt), (.ref b59), (.ref b59)]))) (fun t ht => XS.iloadN X60.here hx rfl (hb hby at_225) rfl ht) ?_
    obtain ⟨_, _, ⟨T61, L61, k61, n61⟩, -, X61, ⟨Lc61, hQ61, l61, y61, z61⟩, st61⟩ := X60.specialBack hx (y := (⟨"com/example/fuxi/fuxi/dialect/DatabaseColumn", "<init>", "(ILjava/lang/String;II)V"⟩ : MethodName)) rfl hown (mvT hZ (hw _ (List.mem_of_getElem? (i := 32) rfl))) (mvT hZ (hw _ (List.mem_of_getElem? (i := 33) rfl))) (mvT hZ (hw _ (List.mem_of_getElem? (i := 34) rfl))) (by decide) (backOf (W := 1) (own_m_dci l Z a0 hw [] (b59) (tt) (r_60) (p3) (p4) ((.int (0 : Int32))) (.null) ((.int (0 : Int32))) ((.int (0 : Int32))) T60.heap n0 (Nat.le_trans Z0 K60.1) g_b59 f60_2 f60_3 f60_4 f60_5 f60_1) hZ (hw _ (List.mem_of_getElem? (i := 34) rfl)) (hw _ (List.mem_of_getElem? (i := 5) rfl)) (by decide) (by decide)) (g := (mkF m 226 #[.val (.int p1), .val (.int p2), .val (.int p3), .val (.int p4), .val (.ref b25), .val (.int tt), .unset, .unset] [(.int p4), (.int p3), (.ref r_60), (.int tt), (.ref b59), (.ref b59)])) rfl (by rw [hml]; rfl) (Steps.refl _) (a := b59) (argsL := [(.int tt), (.ref r_60), (.int p3), (.int p4)]) (rest := [(.ref b59)]) (lenOf own_pd5 rfl) rfl (by show 2 * 0 + _ ≤ _; exact Nat.le_of_eq rfl) (hb hby at_226) (fun _ _ => ⟨rfl, rfl, (by decide : 4 + 0 ≤ _), (by decide : 41 + 0 ≤ _)⟩)
    dsimp only [Pt.U, Pt.locs, Pt.cells, Pt.slots] at X61 l61 y61 z61 st61 hQ61
    subst l61 y61 z61
    obtain ⟨rfl, Nq61, Kq61, Fq61_0, Fq61_1⟩ := hQ61
    have N61 := Fr.app N60 Nq61
    have f61_0 : Sta Z T61.heap "java/lang/String" "COMPACT_STRINGS" "Z" (.int cz) := own_sta_keep f60_0 Kq61 (own_plE f60_1 own_pl0)
    have f61_1 : Exa Z T61.heap b59 "com/example/fuxi/fuxi/dialect/DatabaseColumn" := f60_1.keep Kq61
    have f61_6 : Exa Z T61.heap r_60 "java/lang/String" := Fq60_0.keep Kq61
    have K61 : Keep h0 T61.heap [] := K60.trans Kq61 (allS (Or.inr sz_b59) all0)
    refine own_step (U' := (T61.setTop (mkF m 229 #[.val (.int p1), .val (.int p2), .val (.int p3), .val (.int p4), .val (.ref b25), .val (.int tt), .unset, .unset] [(.ref b59)]))) (fun t ht => st61.trans ht) ?_
    refine own_step (U' := (T61.setTop (mkF m 231 #[.val (.int p1), .val (.int p2), .val (.int p3), .val (.int p4), .val (.ref b25), .val (.int tt), .val (.ref b59), .unset] []))) (fun t ht => XS.astore X61.here hx rfl (hb hby at_229) rfl rfl (l' := #[.val (.int p1), .val (.int p2), .val (.int p3), .val (.int p4), .val (.ref b25), .val (.int tt), .val (.ref b59), .unset]) rfl ht) ?_
    refine own_step (U' := (T61.setTop (mkF m 233 #[.val (.int p1), .val (.int p2), .val (.int p3), .val (.int p4), .val (.ref b25), .val (.int tt), .val (.ref b59), .unset] [(.int tt)]))) (fun t ht => XS.iload X61.here hx rfl (hb hby at_231) rfl ht) ?_
    refine own_step (U' := (T61.setTop (mkF m 234 #[.val (.int p1), .val (.int p2), .val (.int p3), .val (.int p4), .val (.ref b25), .val (.int tt), .val (.ref b59), .unset] [(.int (1 : Int32)), (.int tt)]))) (fun t ht => XS.iconst X61.here hx rfl (hb hby at_233) ht) ?_
    by_cases hc234_62 : tt = (1 : Int32)
    ·
      refine own_step (U' := (T61.setTop (mkF m 271 #[.val (.int p1), .val (.int p2), .val (.int p3), .val (.int p4), .val (.ref b25), .val (.int tt), .val (.ref b59), .unset] []))) (fun t ht => XS.icmpYes X61.here hx rfl (pc0 := 234) (pc' := 271) rfl (hb hby at_234) rfl (XT.ii_eq_t hc234_62) (by decide) (by decide) ht) ?_
      refine own_step (U' := (T61.setTop (mkF m 272 #[.val (.int p1), .val (.int p2), .val (.int p3), .val (.int p4), .val (.ref b25), .val (.int tt), .val (.ref b59), .unset] [(.int (1 : Int32))]))) (fun t ht => XS.iconst X61.here hx rfl (hb hby at_271) ht) ?_
      refine own_step (U' := (T61.setTop (mkF m 276 #[.val (.int p1), .val (.int p2), .val (.int p3), .val (.int p4), .val (.ref b25), .val (.int tt), .val (.ref b59), .unset] [(.int (1 : Int32))]))) (fun t ht => XS.goto X61.here hx rfl (pc0 := 272) (pc' := 276) rfl (hb hby at_272) (by decide) (by decide) ht) ?_
      refine own_step (U' := (T61.setTop (mkF m 278 #[.val (.int p1), .val (.int p2), .val (.int p3), .val (.int p4), .val (.ref b25), .val (.int tt), .val (.ref b59), .val (.int (1 : Int32))] []))) (fun t ht => XS.istore X61.here hx rfl (hb hby at_276) rfl (l' := #[.val (.int p1), .val (.int p2), .val (.int p3), .val (.int p4), .val (.ref b25), .val (.int tt), .val (.ref b59), .val (.int (1 : Int32))]) rfl ht) ?_
      refine own_step (U' := (T61.setTop (mkF m 280 #[.val (.int p1), .val (.int p2), .val (.int p3), .val (.int p4), .val (.ref b25), .val (.int tt), .val (.ref b59), .val (.int (1 : Int32))] [(.ref b59)]))) (fun t ht => XS.aload X61.here hx rfl (hb hby at_278) rfl rfl ht) ?_
      obtain ⟨cq63, kq63, q63a, q63b, q63c⟩ := isOf hZ rfl Fq61_1
      obtain ⟨_, _, ⟨T63, L63, k63, n63⟩, -, X63, ⟨Lc63, hQ63, l63, y63, z63⟩, st63⟩ := X61.virtualBack hx (y := (⟨"com/example/fuxi/fuxi/dialect/DatabaseColumn", "isCharacter", "()Z"⟩ : MethodName)) (z := (⟨"com/example/fuxi/fuxi/dialect/DatabaseColumn", "isCharacter", "()Z"⟩ : MethodName)) hown (mvT hZ (hw _ (List.mem_of_getElem? (i := 49) rfl))) (mvT hZ (hw _ (List.mem_of_getElem? (i := 50) rfl))) (notFace_of_selects (args := #[]) (mvT hZ (hw _ (List.mem_of_getElem? (i := 52) rfl)))) (mvT hZ (hw _ (List.mem_of_getElem? (i := 52) rfl))) (mvT hZ (hw _ (List.mem_of_getElem? (i := 51) rfl))) (by decide) (backOf (W := 0) (own_m_ic l Z a0 hw [] (b59) (tt) T61.heap n0 (Nat.le_trans Z0 K61.1) Fq61_0) hZ (hw _ (List.mem_of_getElem? (i := 53) rfl)) (hw _ (List.mem_of_getElem? (i := 5) rfl)) (by decide) (by decide)) q63a q63c (g := (mkF m 280 #[.val (.int p1), .val (.int p2), .val (.int p3), .val (.int p4), .val (.ref b25), .val (.int tt), .val (.ref b59), .val (.int (1 : Int32))] [(.ref b59)])) rfl (by rw [hml]; rfl) (Steps.refl _) (argsL := []) (rest := []) (lenOf own_pd6 rfl) rfl (by show 2 * 0 + _ ≤ _; exact Nat.le_of_eq rfl) (hb hby at_280) (fun _ _ => ⟨rfl, rfl, (by decide : 4 + 0 ≤ _), (by decide : 41 + 0 ≤ _)⟩)
      dsimp only [Pt.U, Pt.locs, Pt.cells, Pt.slots] at X63 l63 y63 z63 st63 hQ63
      subst l63 y63 z63
      obtain ⟨rfl, Nq63, Kq63⟩ := hQ63
      have N63 := Fr.app N61 Nq63
      have e63 : T63.heap = T61.heap := Kq63
      refine own_step (U' := (T63.setTop (mkF m 283 #[.val (.int p1), .val (.int p2), .val (.int p3), .val (.int p4), .val (.ref b25), .val (.int tt), .val (.ref b59), .val (.int (1 : Int32))] [(.int (own_ic tt))]))) (fun t ht => st63.trans ht) ?_
      refine own_step (U' := (T63.setTop (mkF m 285 #[.val (.int p1), .val (.int p2), .val (.int p3), .val (.int p4), .val (.ref b25), .val (.int tt), .val (.ref b59), .val (.int (1 : Int32))] [(.int (1 : Int32)), (.int (own_ic tt))]))) (fun t ht => XS.iload X63.here hx rfl (hb hby at_283) rfl ht) ?_
      refine own_step (U' := (T63.setTop (mkF m 288 #[.val (.int p1), .val (.int p2), .val (.int p3), .val (.int p4), .val (.ref b25), .val (.int tt), .val (.ref b59), .val (.int (1 : Int32))] []))) (fun t ht => XS.icmpNo X63.here hx rfl (hb hby at_285) rfl (XT.ii_ne_f ((by simp [own_ic, hc234_62]) : (own_ic tt) = (1 : Int32))) ht) ?_
      refine own_step (U' := (T63.setTop (mkF m 289 #[.val (.int p1), .val (.int p2), .val (.int p3), .val (.int p4), .val (.ref b25), .val (.int tt), .val (.ref b59), .val (.int (1 : Int32))] [(.int (1 : Int32))]))) (fun t ht => XS.iconst X63.here hx rfl (hb hby at_288) ht) ?_
      refine own_step (U' := (T63.setTop (mkF m 293 #[.val (.int p1), .val (.int p2), .val (.int p3), .val (.int p4), .val (.ref b25), .val (.int tt), .val (.ref b59), .val (.int (1 : Int32))] [(.int (1 : Int32))]))) (fun t ht => XS.goto X63.here hx rfl (pc0 := 289) (pc' := 293) rfl (hb hby at_289) (by decide) (by decide) ht) ?_
      refine own_ret X63 (v := (some (.int (nar .boolean (1 : Int32))))) (fun h => by rw [Bd.returns] at h; cases h) Bd.notSynchronized (by decide) (by decide) ?_ (fun fs hr => retN X63 hx (t := .boolean) Bd.returns (by simp) (hb hby at_293) hr)
      show own_Q_law Z p1 p2 p3 p4 cz h0 n0 _ T63.heap _
      rw [e63]
      exact ⟨rfl, N63⟩
    ·
      refine own_step (U' := (T61.setTop (mkF m 237 #[.val (.int p1), .val (.int p2), .val (.int p3), .val (.int p4), .val (.ref b25), .val (.int tt), .val (.ref b59), .unset] []))) (fun t ht => XS.icmpNo X61.here hx rfl (hb hby at_234) rfl (XT.ii_eq_f hc234_62) ht) ?_
      refine own_step (U' := (T61.setTop (mkF m 239 #[.val (.int p1), .val (.int p2), .val (.int p3), .val (.int p4), .val (.ref b25), .val (.int tt), .val (.ref b59), .unset] [(.int tt)]))) (fun t ht => XS.iload X61.here hx rfl (hb hby at_237) rfl ht) ?_
      refine own_step (U' := (T61.setTop (mkF m 241 #[.val (.int p1), .val (.int p2), .val (.int p3), .val (.int p4), .val (.ref b25), .val (.int tt), .val (.ref b59), .unset] [(.int (12 : Int32)), (.int tt)]))) (fun t ht => XS.bipush X61.here hx rfl (hb hby at_239) ht) ?_
      by_cases hc241_64 : tt = (12 : Int32)
      ·
        refine own_step (U' := (T61.setTop (mkF m 271 #[.val (.int p1), .val (.int p2), .val (.int p3), .val (.int p4), .val (.ref b25), .val (.int tt), .val (.ref b59), .unset] []))) (fun t ht => XS.icmpYes X61.here hx rfl (pc0 := 241) (pc' := 271) rfl (hb hby at_241) rfl (XT.ii_eq_t hc241_64) (by decide) (by decide) ht) ?_
        refine own_step (U' := (T61.setTop (mkF m 272 #[.val (.int p1), .val (.int p2), .val (.int p3), .val (.int p4), .val (.ref b25), .val (.int tt), .val (.ref b59), .unset] [(.int (1 : Int32))]))) (fun t ht => XS.iconst X61.here hx rfl (hb hby at_271) ht) ?_
        refine own_step (U' := (T61.setTop (mkF m 276 #[.val (.int p1), .val (.int p2), .val (.int p3), .val (.int p4), .val (.ref b25), .val (.int tt), .val (.ref b59), .unset] [(.int (1 : Int32))]))) (fun t ht => XS.goto X61.here hx rfl (pc0 := 272) (pc' := 276) rfl (hb hby at_272) (by decide) (by decide) ht) ?_
        refine own_step (U' := (T61.setTop (mkF m 278 #[.val (.int p1), .val (.int p2), .val (.int p3), .val (.int p4), .val (.ref b25), .val (.int tt), .val (.ref b59), .val (.int (1 : Int32))] []))) (fun t ht => XS.istore X61.here hx rfl (hb hby at_276) rfl (l' := #[.val (.int p1), .val (.int p2), .val (.int p3), .val (.int p4), .val (.ref b25), .val (.int tt), .val (.ref b59), .val (.int (1 : Int32))]) rfl ht) ?_
        refine own_step (U' := (T61.setTop (mkF m 280 #[.val (.int p1), .val (.int p2), .val (.int p3), .val (.int p4), .val (.ref b25), .val (.int tt), .val (.ref b59), .val (.int (1 : Int32))] [(.ref b59)]))) (fun t ht => XS.aload X61.here hx rfl (hb hby at_278) rfl rfl ht) ?_
        obtain ⟨cq65, kq65, q65a, q65b, q65c⟩ := isOf hZ rfl Fq61_1
        obtain ⟨_, _, ⟨T65, L65, k65, n65⟩, -, X65, ⟨Lc65, hQ65, l65, y65, z65⟩, st65⟩ := X61.virtualBack hx (y := (⟨"com/example/fuxi/fuxi/dialect/DatabaseColumn", "isCharacter", "()Z"⟩ : MethodName)) (z := (⟨"com/example/fuxi/fuxi/dialect/DatabaseColumn", "isCharacter", "()Z"⟩ : MethodName)) hown (mvT hZ (hw _ (List.mem_of_getElem? (i := 49) rfl))) (mvT hZ (hw _ (List.mem_of_getElem? (i := 50) rfl))) (notFace_of_selects (args := #[]) (mvT hZ (hw _ (List.mem_of_getElem? (i := 52) rfl)))) (mvT hZ (hw _ (List.mem_of_getElem? (i := 52) rfl))) (mvT hZ (hw _ (List.mem_of_getElem? (i := 51) rfl))) (by decide) (backOf (W := 0) (own_m_ic l Z a0 hw [] (b59) (tt) T61.heap n0 (Nat.le_trans Z0 K61.1) Fq61_0) hZ (hw _ (List.mem_of_getElem? (i := 53) rfl)) (hw _ (List.mem_of_getElem? (i := 5) rfl)) (by decide) (by decide)) q65a q65c (g := (mkF m 280 #[.val (.int p1), .val (.int p2), .val (.int p3), .val (.int p4), .val (.ref b25), .val (.int tt), .val (.ref b59), .val (.int (1 : Int32))] [(.ref b59)])) rfl (by rw [hml]; rfl) (Steps.refl _) (argsL := []) (rest := []) (lenOf own_pd6 rfl) rfl (by show 2 * 0 + _ ≤ _; exact Nat.le_of_eq rfl) (hb hby at_280) (fun _ _ => ⟨rfl, rfl, (by decide : 4 + 0 ≤ _), (by decide : 41 + 0 ≤ _)⟩)
        dsimp only [Pt.U, Pt.locs, Pt.cells, Pt.slots] at X65 l65 y65 z65 st65 hQ65
        subst l65 y65 z65
        obtain ⟨rfl, Nq65, Kq65⟩ := hQ65
        have N65 := Fr.app N61 Nq65
        have e65 : T65.heap = T61.heap := Kq65
        refine own_step (U' := (T65.setTop (mkF m 283 #[.val (.int p1), .val (.int p2), .val (.int p3), .val (.int p4), .val (.ref b25), .val (.int tt), .val (.ref b59), .val (.int (1 : Int32))] [(.int (own_ic tt))]))) (fun t ht => st65.trans ht) ?_
        refine own_step (U' := (T65.setTop (mkF m 285 #[.val (.int p1), .val (.int p2), .val (.int p3), .val (.int p4), .val (.ref b25), .val (.int tt), .val (.ref b59), .val (.int (1 : Int32))] [(.int (1 : Int32)), (.int (own_ic tt))]))) (fun t ht => XS.iload X65.here hx rfl (hb hby at_283) rfl ht) ?_
        refine own_step (U' := (T65.setTop (mkF m 288 #[.val (.int p1), .val (.int p2), .val (.int p3), .val (.int p4), .val (.ref b25), .val (.int tt), .val (.ref b59), .val (.int (1 : Int32))] []))) (fun t ht => XS.icmpNo X65.here hx rfl (hb hby at_285) rfl (XT.ii_ne_f ((by simp [own_ic, hc234_62, hc241_64]) : (own_ic tt) = (1 : Int32))) ht) ?_
        refine own_step (U' := (T65.setTop (mkF m 289 #[.val (.int p1), .val (.int p2), .val (.int p3), .val (.int p4), .val (.ref b25), .val (.int tt), .val (.ref b59), .val (.int (1 : Int32))] [(.int (1 : Int32))]))) (fun t ht => XS.iconst X65.here hx rfl (hb hby at_288) ht) ?_
        refine own_step (U' := (T65.setTop (mkF m 293 #[.val (.int p1), .val (.int p2), .val (.int p3), .val (.int p4), .val (.ref b25), .val (.int tt), .val (.ref b59), .val (.int (1 : Int32))] [(.int (1 : Int32))]))) (fun t ht => XS.goto X65.here hx rfl (pc0 := 289) (pc' := 293) rfl (hb hby at_289) (by decide) (by decide) ht) ?_
        refine own_ret X65 (v := (some (.int (nar .boolean (1 : Int32))))) (fun h => by rw [Bd.returns] at h; cases h) Bd.notSynchronized (by decide) (by decide) ?_ (fun fs hr => retN X65 hx (t := .boolean) Bd.returns (by simp) (hb hby at_293) hr)
        show own_Q_law Z p1 p2 p3 p4 cz h0 n0 _ T65.heap _
        rw [e65]
        exact ⟨rfl, N65⟩
      ·
        refine own_step (U' := (T61.setTop (mkF m 244 #[.val (.int p1), .val (.int p2), .val (.int p3), .val (.int p4), .val (.ref b25), .val (.int tt), .val (.ref b59), .unset] []))) (fun t ht => XS.icmpNo X61.here hx rfl (hb hby at_241) rfl (XT.ii_eq_f hc241_64) ht) ?_
        refine own_step (U' := (T61.setTop (mkF m 246 #[.val (.int p1), .val (.int p2), .val (.int p3), .val (.int p4), .val (.ref b25), .val (.int tt), .val (.ref b59), .unset] [(.int tt)]))) (fun t ht => XS.iload X61.here hx rfl (hb hby at_244) rfl ht) ?_
        refine own_step (U' := (T61.setTop (mkF m 247 #[.val (.int p1), .val (.int p2), .val (.int p3), .val (.int p4), .val (.ref b25), .val (.int tt), .val (.ref b59), .unset] [(.int (-1 : Int32)), (.int tt)]))) (fun t ht => XS.iconst X61.here hx rfl (hb hby at_246) ht) ?_
        by_cases hc247_66 : tt = (-1 : Int32)
        ·
          refine own_step (U' := (T61.setTop (mkF m 271 #[.val (.int p1), .val (.int p2), .val (.int p3), .val (.int p4), .val (.ref b25), .val (.int tt), .val (.ref b59), .unset] []))) (fun t ht => XS.icmpYes X61.here hx rfl (pc0 := 247) (pc' := 271) rfl (hb hby at_247) rfl (XT.ii_eq_t hc247_66) (by decide) (by decide) ht) ?_
          refine own_step (U' := (T61.setTop (mkF m 272 #[.val (.int p1), .val (.int p2), .val (.int p3), .val (.int p4), .val (.ref b25), .val (.int tt), .val (.ref b59), .unset] [(.int (1 : Int32))]))) (fun t ht => XS.iconst X61.here hx rfl (hb hby at_271) ht) ?_
          refine own_step (U' := (T61.setTop (mkF m 276 #[.val (.int p1), .val (.int p2), .val (.int p3), .val (.int p4), .val (.ref b25), .val (.int tt), .val (.ref b59), .unset] [(.int (1 : Int32))]))) (fun t ht => XS.goto X61.here hx rfl (pc0 := 272) (pc' := 276) rfl (hb hby at_272) (by decide) (by decide) ht) ?_
          refine own_step (U' := (T61.setTop (mkF m 278 #[.val (.int p1), .val (.int p2), .val (.int p3), .val (.int p4), .val (.ref b25), .val (.int tt), .val (.ref b59), .val (.int (1 : Int32))] []))) (fun t ht => XS.istore X61.here hx rfl (hb hby at_276) rfl (l' := #[.val (.int p1), .val (.int p2), .val (.int p3), .val (.int p4), .val (.ref b25), .val (.int tt), .val (.ref b59), .val (.int (1 : Int32))]) rfl ht) ?_
          refine own_step (U' := (T61.setTop (mkF m 280 #[.val (.int p1), .val (.int p2), .val (.int p3), .val (.int p4), .val (.ref b25), .val (.int tt), .val (.ref b59), .val (.int (1 : Int32))] [(.ref b59)]))) (fun t ht => XS.aload X61.here hx rfl (hb hby at_278) rfl rfl ht) ?_
          obtain ⟨cq67, kq67, q67a, q67b, q67c⟩ := isOf hZ rfl Fq61_1
          obtain ⟨_, _, ⟨T67, L67, k67, n67⟩, -, X67, ⟨Lc67, hQ67, l67, y67, z67⟩, st67⟩ := X61.virtualBack hx (y := (⟨"com/example/fuxi/fuxi/dialect/DatabaseColumn", "isCharacter", "()Z"⟩ : MethodName)) (z := (⟨"com/example/fuxi/fuxi/dialect/DatabaseColumn", "isCharacter", "()Z"⟩ : MethodName)) hown (mvT hZ (hw _ (List.mem_of_getElem? (i := 49) rfl))) (mvT hZ (hw _ (List.mem_of_getElem? (i := 50) rfl))) (notFace_of_selects (args := #[]) (mvT hZ (hw _ (List.mem_of_getElem? (i := 52) rfl)))) (mvT hZ (hw _ (List.mem_of_getElem? (i := 52) rfl))) (mvT hZ (hw _ (List.mem_of_getElem? (i := 51) rfl))) (by decide) (backOf (W := 0) (own_m_ic l Z a0 hw [] (b59) (tt) T61.heap n0 (Nat.le_trans Z0 K61.1) Fq61_0) hZ (hw _ (List.mem_of_getElem? (i := 53) rfl)) (hw _ (List.mem_of_getElem? (i := 5) rfl)) (by decide) (by decide)) q67a q67c (g := (mkF m 280 #[.val (.int p1), .val (.int p2), .val (.int p3), .val (.int p4), .val (.ref b25), .val (.int tt), .val (.ref b59), .val (.int (1 : Int32))] [(.ref b59)])) rfl (by rw [hml]; rfl) (Steps.refl _) (argsL := []) (rest := []) (lenOf own_pd6 rfl) rfl (by show 2 * 0 + _ ≤ _; exact Nat.le_of_eq rfl) (hb hby at_280) (fun _ _ => ⟨rfl, rfl, (by decide : 4 + 0 ≤ _), (by decide : 41 + 0 ≤ _)⟩)
          dsimp only [Pt.U, Pt.locs, Pt.cells, Pt.slots] at X67 l67 y67 z67 st67 hQ67
          subst l67 y67 z67
          obtain ⟨rfl, Nq67, Kq67⟩ := hQ67
          have N67 := Fr.app N61 Nq67
          have e67 : T67.heap = T61.heap := Kq67
          refine own_step (U' := (T67.setTop (mkF m 283 #[.val (.int p1), .val (.int p2), .val (.int p3), .val (.int p4), .val (.ref b25), .val (.int tt), .val (.ref b59), .val (.int (1 : Int32))] [(.int (own_ic tt))]))) (fun t ht => st67.trans ht) ?_
          refine own_step (U' := (T67.setTop (mkF m 285 #[.val (.int p1), .val (.int p2), .val (.int p3), .val (.int p4), .val (.ref b25), .val (.int tt), .val (.ref b59), .val (.int (1 : Int32))] [(.int (1 : Int32)), (.int (own_ic tt))]))) (fun t ht => XS.iload X67.here hx rfl (hb hby at_283) rfl ht) ?_
          refine own_step (U' := (T67.setTop (mkF m 288 #[.val (.int p1), .val (.int p2), .val (.int p3), .val (.int p4), .val (.ref b25), .val (.int tt), .val (.ref b59), .val (.int (1 : Int32))] []))) (fun t ht => XS.icmpNo X67.here hx rfl (hb hby at_285) rfl (XT.ii_ne_f ((by simp [own_ic, hc234_62, hc241_64, hc247_66]) : (own_ic tt) = (1 : Int32))) ht) ?_
          refine own_step (U' := (T67.setTop (mkF m 289 #[.val (.int p1), .val (.int p2), .val (.int p3), .val (.int p4), .val (.ref b25), .val (.int tt), .val (.ref b59), .val (.int (1 : Int32))] [(.int (1 : Int32))]))) (fun t ht => XS.iconst X67.here hx rfl (hb hby at_288) ht) ?_
          refine own_step (U' := (T67.setTop (mkF m 293 #[.val (.int p1), .val (.int p2), .val (.int p3), .val (.int p4), .val (.ref b25), .val (.int tt), .val (.ref b59), .val (.int (1 : Int32))] [(.int (1 : Int32))]))) (fun t ht => XS.goto X67.here hx rfl (pc0 := 289) (pc' := 293) rfl (hb hby at_289) (by decide) (by decide) ht) ?_
          refine own_ret X67 (v := (some (.int (nar .boolean (1 : Int32))))) (fun h => by rw [Bd.returns] at h; cases h) Bd.notSynchronized (by decide) (by decide) ?_ (fun fs hr => retN X67 hx (t := .boolean) Bd.returns (by simp) (hb hby at_293) hr)
          show own_Q_law Z p1 p2 p3 p4 cz h0 n0 _ T67.heap _
          rw [e67]
          exact ⟨rfl, N67⟩
        ·
          refine own_step (U' := (T61.setTop (mkF m 250 #[.val (.int p1), .val (.int p2), .val (.int p3), .val (.int p4), .val (.ref b25), .val (.int tt), .val (.ref b59), .unset] []))) (fun t ht => XS.icmpNo X61.here hx rfl (hb hby at_247) rfl (XT.ii_eq_f hc247_66) ht) ?_
          refine own_step (U' := (T61.setTop (mkF m 252 #[.val (.int p1), .val (.int p2), .val (.int p3), .val (.int p4), .val (.ref b25), .val (.int tt), .val (.ref b59), .unset] [(.int tt)]))) (fun t ht => XS.iload X61.here hx rfl (hb hby at_250) rfl ht) ?_
          refine own_step (U' := (T61.setTop (mkF m 254 #[.val (.int p1), .val (.int p2), .val (.int p3), .val (.int p4), .val (.ref b25), .val (.int tt), .val (.ref b59), .unset] [(.int (-15 : Int32)), (.int tt)]))) (fun t ht => XS.bipush X61.here hx rfl (hb hby at_252) ht) ?_
          by_cases hc254_68 : tt = (-15 : Int32)
          ·
            refine own_step (U' := (T61.setTop (mkF m 271 #[.val (.int p1), .val (.int p2), .val (.int p3), .val (.int p4), .val (.ref b25), .val (.int tt), .val (.ref b59), .unset] []))) (fun t ht => XS.icmpYes X61.here hx rfl (pc0 := 254) (pc' := 271) rfl (hb hby at_254) rfl (XT.ii_eq_t hc254_68) (by decide) (by decide) ht) ?_
            refine own_step (U' := (T61.setTop (mkF m 272 #[.val (.int p1), .val (.int p2), .val (.int p3), .val (.int p4), .val (.ref b25), .val (.int tt), .val (.ref b59), .unset] [(.int (1 : Int32))]))) (fun t ht => XS.iconst X61.here hx rfl (hb hby at_271) ht) ?_
            refine own_step (U' := (T61.setTop (mkF m 276 #[.val (.int p1), .val (.int p2), .val (.int p3), .val (.int p4), .val (.ref b25), .val (.int tt), .val (.ref b59), .unset] [(.int (1 : Int32))]))) (fun t ht => XS.goto X61.here hx rfl (pc0 := 272) (pc' := 276) rfl (hb hby at_272) (by decide) (by decide) ht) ?_
            refine own_step (U' := (T61.setTop (mkF m 278 #[.val (.int p1), .val (.int p2), .val (.int p3), .val (.int p4), .val (.ref b25), .val (.int tt), .val (.ref b59), .val (.int (1 : Int32))] []))) (fun t ht => XS.istore X61.here hx rfl (hb hby at_276) rfl (l' := #[.val (.int p1), .val (.int p2), .val (.int p3), .val (.int p4), .val (.ref b25), .val (.int tt), .val (.ref b59), .val (.int (1 : Int32))]) rfl ht) ?_
            refine own_step (U' := (T61.setTop (mkF m 280 #[.val (.int p1), .val (.int p2), .val (.int p3), .val (.int p4), .val (.ref b25), .val (.int tt), .val (.ref b59), .val (.int (1 : Int32))] [(.ref b59)]))) (fun t ht => XS.aload X61.here hx rfl (hb hby at_278) rfl rfl ht) ?_
            obtain ⟨cq69, kq69, q69a, q69b, q69c⟩ := isOf hZ rfl Fq61_1
            obtain ⟨_, _, ⟨T69, L69, k69, n69⟩, -, X69, ⟨Lc69, hQ69, l69, y69, z69⟩, st69⟩ := X61.virtualBack hx (y := (⟨"com/example/fuxi/fuxi/dialect/DatabaseColumn", "isCharacter", "()Z"⟩ : MethodName)) (z := (⟨"com/example/fuxi/fuxi/dialect/DatabaseColumn", "isCharacter", "()Z"⟩ : MethodName)) hown (mvT hZ (hw _ (List.mem_of_getElem? (i := 49) rfl))) (mvT hZ (hw _ (List.mem_of_getElem? (i := 50) rfl))) (notFace_of_selects (args := #[]) (mvT hZ (hw _ (List.mem_of_getElem? (i := 52) rfl)))) (mvT hZ (hw _ (List.mem_of_getElem? (i := 52) rfl))) (mvT hZ (hw _ (List.mem_of_getElem? (i := 51) rfl))) (by decide) (backOf (W := 0) (own_m_ic l Z a0 hw [] (b59) (tt) T61.heap n0 (Nat.le_trans Z0 K61.1) Fq61_0) hZ (hw _ (List.mem_of_getElem? (i := 53) rfl)) (hw _ (List.mem_of_getElem? (i := 5) rfl)) (by decide) (by decide)) q69a q69c (g := (mkF m 280 #[.val (.int p1), .val (.int p2), .val (.int p3), .val (.int p4), .val (.ref b25), .val (.int tt), .val (.ref b59), .val (.int (1 : Int32))] [(.ref b59)])) rfl (by rw [hml]; rfl) (Steps.refl _) (argsL := []) (rest := []) (lenOf own_pd6 rfl) rfl (by show 2 * 0 + _ ≤ _; exact Nat.le_of_eq rfl) (hb hby at_280) (fun _ _ => ⟨rfl, rfl, (by decide : 4 + 0 ≤ _), (by decide : 41 + 0 ≤ _)⟩)
            dsimp only [Pt.U, Pt.locs, Pt.cells, Pt.slots] at X69 l69 y69 z69 st69 hQ69
            subst l69 y69 z69
            obtain ⟨rfl, Nq69, Kq69⟩ := hQ69
            have N69 := Fr.app N61 Nq69
            have e69 : T69.heap = T61.heap := Kq69
            refine own_step (U' := (T69.setTop (mkF m 283 #[.val (.int p1), .val (.int p2), .val (.int p3), .val (.int p4), .val (.ref b25), .val (.int tt), .val (.ref b59), .val (.int (1 : Int32))] [(.int (own_ic tt))]))) (fun t ht => st69.trans ht) ?_
            refine own_step (U' := (T69.setTop (mkF m 285 #[.val (.int p1), .val (.int p2), .val (.int p3), .val (.int p4), .val (.ref b25), .val (.int tt), .val (.ref b59), .val (.int (1 : Int32))] [(.int (1 : Int32)), (.int (own_ic tt))]))) (fun t ht => XS.iload X69.here hx rfl (hb hby at_283) rfl ht) ?_
            refine own_step (U' := (T69.setTop (mkF m 288 #[.val (.int p1), .val (.int p2), .val (.int p3), .val (.int p4), .val (.ref b25), .val (.int tt), .val (.ref b59), .val (.int (1 : Int32))] []))) (fun t ht => XS.icmpNo X69.here hx rfl (hb hby at_285) rfl (XT.ii_ne_f ((by simp [own_ic, hc234_62, hc241_64, hc247_66, hc254_68]) : (own_ic tt) = (1 : Int32))) ht) ?_
            refine own_step (U' := (T69.setTop (mkF m 289 #[.val (.int p1), .val (.int p2), .val (.int p3), .val (.int p4), .val (.ref b25), .val (.int tt), .val (.ref b59), .val (.int (1 : Int32))] [(.int (1 : Int32))]))) (fun t ht => XS.iconst X69.here hx rfl (hb hby at_288) ht) ?_
            refine own_step (U' := (T69.setTop (mkF m 293 #[.val (.int p1), .val (.int p2), .val (.int p3), .val (.int p4), .val (.ref b25), .val (.int tt), .val (.ref b59), .val (.int (1 : Int32))] [(.int (1 : Int32))]))) (fun t ht => XS.goto X69.here hx rfl (pc0 := 289) (pc' := 293) rfl (hb hby at_289) (by decide) (by decide) ht) ?_
            refine own_ret X69 (v := (some (.int (nar .boolean (1 : Int32))))) (fun h => by rw [Bd.returns] at h; cases h) Bd.notSynchronized (by decide) (by decide) ?_ (fun fs hr => retN X69 hx (t := .boolean) Bd.returns (by simp) (hb hby at_293) hr)
            show own_Q_law Z p1 p2 p3 p4 cz h0 n0 _ T69.heap _
            rw [e69]
            exact ⟨rfl, N69⟩
          ·
            refine own_step (U' := (T61.setTop (mkF m 257 #[.val (.int p1), .val (.int p2), .val (.int p3), .val (.int p4), .val (.ref b25), .val (.int tt), .val (.ref b59), .unset] []))) (fun t ht => XS.icmpNo X61.here hx rfl (hb hby at_254) rfl (XT.ii_eq_f hc254_68) ht) ?_
            refine own_step (U' := (T61.setTop (mkF m 259 #[.val (.int p1), .val (.int p2), .val (.int p3), .val (.int p4), .val (.ref b25), .val (.int tt), .val (.ref b59), .unset] [(.int tt)]))) (fun t ht => XS.iload X61.here hx rfl (hb hby at_257) rfl ht) ?_
            refine own_step (U' := (T61.setTop (mkF m 261 #[.val (.int p1), .val (.int p2), .val (.int p3), .val (.int p4), .val (.ref b25), .val (.int tt), .val (.ref b59), .unset] [(.int (-9 : Int32)), (.int tt)]))) (fun t ht => XS.bipush X61.here hx rfl (hb hby at_259) ht) ?_
            by_cases hc261_70 : tt = (-9 : Int32)
            ·
              refine own_step (U' := (T61.setTop (mkF m 271 #[.val (.int p1), .val (.int p2), .val (.int p3), .val (.int p4), .val (.ref b25), .val (.int tt), .val (.ref b59), .unset] []))) (fun t ht => XS.icmpYes X61.here hx rfl (pc0 := 261) (pc' := 271) rfl (hb hby at_261) rfl (XT.ii_eq_t hc261_70) (by decide) (by decide) ht) ?_
              refine own_step (U' := (T61.setTop (mkF m 272 #[.val (.int p1), .val (.int p2), .val (.int p3), .val (.int p4), .val (.ref b25), .val (.int tt), .val (.ref b59), .unset] [(.int (1 : Int32))]))) (fun t ht => XS.iconst X61.here hx rfl (hb hby at_271) ht) ?_
              refine own_step (U' := (T61.setTop (mkF m 276 #[.val (.int p1), .val (.int p2), .val (.int p3), .val (.int p4), .val (.ref b25), .val (.int tt), .val (.ref b59), .unset] [(.int (1 : Int32))]))) (fun t ht => XS.goto X61.here hx rfl (pc0 := 272) (pc' := 276) rfl (hb hby at_272) (by decide) (by decide) ht) ?_
              refine own_step (U' := (T61.setTop (mkF m 278 #[.val (.int p1), .val (.int p2), .val (.int p3), .val (.int p4), .val (.ref b25), .val (.int tt), .val (.ref b59), .val (.int (1 : Int32))] []))) (fun t ht => XS.istore X61.here hx rfl (hb hby at_276) rfl (l' := #[.val (.int p1), .val (.int p2), .val (.int p3), .val (.int p4), .val (.ref b25), .val (.int tt), .val (.ref b59), .val (.int (1 : Int32))]) rfl ht) ?_
              refine own_step (U' := (T61.setTop (mkF m 280 #[.val (.int p1), .val (.int p2), .val (.int p3), .val (.int p4), .val (.ref b25), .val (.int tt), .val (.ref b59), .val (.int (1 : Int32))] [(.ref b59)]))) (fun t ht => XS.aload X61.here hx rfl (hb hby at_278) rfl rfl ht) ?_
              obtain ⟨cq71, kq71, q71a, q71b, q71c⟩ := isOf hZ rfl Fq61_1
              obtain ⟨_, _, ⟨T71, L71, k71, n71⟩, -, X71, ⟨Lc71, hQ71, l71, y71, z71⟩, st71⟩ := X61.virtualBack hx (y := (⟨"com/example/fuxi/fuxi/dialect/DatabaseColumn", "isCharacter", "()Z"⟩ : MethodName)) (z := (⟨"com/example/fuxi/fuxi/dialect/DatabaseColumn", "isCharacter", "()Z"⟩ : MethodName)) hown (mvT hZ (hw _ (List.mem_of_getElem? (i := 49) rfl))) (mvT hZ (hw _ (List.mem_of_getElem? (i := 50) rfl))) (notFace_of_selects (args := #[]) (mvT hZ (hw _ (List.mem_of_getElem? (i := 52) rfl)))) (mvT hZ (hw _ (List.mem_of_getElem? (i := 52) rfl))) (mvT hZ (hw _ (List.mem_of_getElem? (i := 51) rfl))) (by decide) (backOf (W := 0) (own_m_ic l Z a0 hw [] (b59) (tt) T61.heap n0 (Nat.le_trans Z0 K61.1) Fq61_0) hZ (hw _ (List.mem_of_getElem? (i := 53) rfl)) (hw _ (List.mem_of_getElem? (i := 5) rfl)) (by decide) (by decide)) q71a q71c (g := (mkF m 280 #[.val (.int p1), .val (.int p2), .val (.int p3), .val (.int p4), .val (.ref b25), .val (.int tt), .val (.ref b59), .val (.int (1 : Int32))] [(.ref b59)])) rfl (by rw [hml]; rfl) (Steps.refl _) (argsL := []) (rest := []) (lenOf own_pd6 rfl) rfl (by show 2 * 0 + _ ≤ _; exact Nat.le_of_eq rfl) (hb hby at_280) (fun _ _ => ⟨rfl, rfl, (by decide : 4 + 0 ≤ _), (by decide : 41 + 0 ≤ _)⟩)
              dsimp only [Pt.U, Pt.locs, Pt.cells, Pt.slots] at X71 l71 y71 z71 st71 hQ71
              subst l71 y71 z71
              obtain ⟨rfl, Nq71, Kq71⟩ := hQ71
              have N71 := Fr.app N61 Nq71
              have e71 : T71.heap = T61.heap := Kq71
              refine own_step (U' := (T71.setTop (mkF m 283 #[.val (.int p1), .val (.int p2), .val (.int p3), .val (.int p4), .val (.ref b25), .val (.int tt), .val (.ref b59), .val (.int (1 : Int32))] [(.int (own_ic tt))]))) (fun t ht => st71.trans ht) ?_
              refine own_step (U' := (T71.setTop (mkF m 285 #[.val (.int p1), .val (.int p2), .val (.int p3), .val (.int p4), .val (.ref b25), .val (.int tt), .val (.ref b59), .val (.int (1 : Int32))] [(.int (1 : Int32)), (.int (own_ic tt))]))) (fun t ht => XS.iload X71.here hx rfl (hb hby at_283) rfl ht) ?_
              refine own_step (U' := (T71.setTop (mkF m 288 #[.val (.int p1), .val (.int p2), .val (.int p3), .val (.int p4), .val (.ref b25), .val (.int tt), .val (.ref b59), .val (.int (1 : Int32))] []))) (fun t ht => XS.icmpNo X71.here hx rfl (hb hby at_285) rfl (XT.ii_ne_f ((by simp [own_ic, hc234_62, hc241_64, hc247_66, hc254_68, hc261_70]) : (own_ic tt) = (1 : Int32))) ht) ?_
              refine own_step (U' := (T71.setTop (mkF m 289 #[.val (.int p1), .val (.int p2), .val (.int p3), .val (.int p4), .val (.ref b25), .val (.int tt), .val (.ref b59), .val (.int (1 : Int32))] [(.int (1 : Int32))]))) (fun t ht => XS.iconst X71.here hx rfl (hb hby at_288) ht) ?_
              refine own_step (U' := (T71.setTop (mkF m 293 #[.val (.int p1), .val (.int p2), .val (.int p3), .val (.int p4), .val (.ref b25), .val (.int tt), .val (.ref b59), .val (.int (1 : Int32))] [(.int (1 : Int32))]))) (fun t ht => XS.goto X71.here hx rfl (pc0 := 289) (pc' := 293) rfl (hb hby at_289) (by decide) (by decide) ht) ?_
              refine own_ret X71 (v := (some (.int (nar .boolean (1 : Int32))))) (fun h => by rw [Bd.returns] at h; cases h) Bd.notSynchronized (by decide) (by decide) ?_ (fun fs hr => retN X71 hx (t := .boolean) Bd.returns (by simp) (hb hby at_293) hr)
              show own_Q_law Z p1 p2 p3 p4 cz h0 n0 _ T71.heap _
              rw [e71]
              exact ⟨rfl, N71⟩
            ·
              refine own_step (U' := (T61.setTop (mkF m 264 #[.val (.int p1), .val (.int p2), .val (.int p3), .val (.int p4), .val (.ref b25), .val (.int tt), .val (.ref b59), .unset] []))) (fun t ht => XS.icmpNo X61.here hx rfl (hb hby at_261) rfl (XT.ii_eq_f hc261_70) ht) ?_
              refine own_step (U' := (T61.setTop (mkF m 266 #[.val (.int p1), .val (.int p2), .val (.int p3), .val (.int p4), .val (.ref b25), .val (.int tt), .val (.ref b59), .unset] [(.int tt)]))) (fun t ht => XS.iload X61.here hx rfl (hb hby at_264) rfl ht) ?_
              refine own_step (U' := (T61.setTop (mkF m 268 #[.val (.int p1), .val (.int p2), .val (.int p3), .val (.int p4), .val (.ref b25), .val (.int tt), .val (.ref b59), .unset] [(.int (-16 : Int32)), (.int tt)]))) (fun t ht => XS.bipush X61.here hx rfl (hb hby at_266) ht) ?_
              by_cases hc268_72 : tt = (-16 : Int32)
              ·
                refine own_step (U' := (T61.setTop (mkF m 271 #[.val (.int p1), .val (.int p2), .val (.int p3), .val (.int p4), .val (.ref b25), .val (.int tt), .val (.ref b59), .unset] []))) (fun t ht => XS.icmpNo X61.here hx rfl (hb hby at_268) rfl (XT.ii_ne_f hc268_72) ht) ?_
                refine own_step (U' := (T61.setTop (mkF m 272 #[.val (.int p1), .val (.int p2), .val (.int p3), .val (.int p4), .val (.ref b25), .val (.int tt), .val (.ref b59), .unset] [(.int (1 : Int32))]))) (fun t ht => XS.iconst X61.here hx rfl (hb hby at_271) ht) ?_
                refine own_step (U' := (T61.setTop (mkF m 276 #[.val (.int p1), .val (.int p2), .val (.int p3), .val (.int p4), .val (.ref b25), .val (.int tt), .val (.ref b59), .unset] [(.int (1 : Int32))]))) (fun t ht => XS.goto X61.here hx rfl (pc0 := 272) (pc' := 276) rfl (hb hby at_272) (by decide) (by decide) ht) ?_
                refine own_step (U' := (T61.setTop (mkF m 278 #[.val (.int p1), .val (.int p2), .val (.int p3), .val (.int p4), .val (.ref b25), .val (.int tt), .val (.ref b59), .val (.int (1 : Int32))] []))) (fun t ht => XS.istore X61.here hx rfl (hb hby at_276) rfl (l' := #[.val (.int p1), .val (.int p2), .val (.int p3), .val (.int p4), .val (.ref b25), .val (.int tt), .val (.ref b59), .val (.int (1 : Int32))]) rfl ht) ?_
                refine own_step (U' := (T61.setTop (mkF m 280 #[.val (.int p1), .val (.int p2), .val (.int p3), .val (.int p4), .val (.ref b25), .val (.int tt), .val (.ref b59), .val (.int (1 : Int32))] [(.ref b59)]))) (fun t ht => XS.aload X61.here hx rfl (hb hby at_278) rfl rfl ht) ?_
                obtain ⟨cq73, kq73, q73a, q73b, q73c⟩ := isOf hZ rfl Fq61_1
                obtain ⟨_, _, ⟨T73, L73, k73, n73⟩, -, X73, ⟨Lc73, hQ73, l73, y73, z73⟩, st73⟩ := X61.virtualBack hx (y := (⟨"com/example/fuxi/fuxi/dialect/DatabaseColumn", "isCharacter", "()Z"⟩ : MethodName)) (z := (⟨"com/example/fuxi/fuxi/dialect/DatabaseColumn", "isCharacter", "()Z"⟩ : MethodName)) hown (mvT hZ (hw _ (List.mem_of_getElem? (i := 49) rfl))) (mvT hZ (hw _ (List.mem_of_getElem? (i := 50) rfl))) (notFace_of_selects (args := #[]) (mvT hZ (hw _ (List.mem_of_getElem? (i := 52) rfl)))) (mvT hZ (hw _ (List.mem_of_getElem? (i := 52) rfl))) (mvT hZ (hw _ (List.mem_of_getElem? (i := 51) rfl))) (by decide) (backOf (W := 0) (own_m_ic l Z a0 hw [] (b59) (tt) T61.heap n0 (Nat.le_trans Z0 K61.1) Fq61_0) hZ (hw _ (List.mem_of_getElem? (i := 53) rfl)) (hw _ (List.mem_of_getElem? (i := 5) rfl)) (by decide) (by decide)) q73a q73c (g := (mkF m 280 #[.val (.int p1), .val (.int p2), .val (.int p3), .val (.int p4), .val (.ref b25), .val (.int tt), .val (.ref b59), .val (.int (1 : Int32))] [(.ref b59)])) rfl (by rw [hml]; rfl) (Steps.refl _) (argsL := []) (rest := []) (lenOf own_pd6 rfl) rfl (by show 2 * 0 + _ ≤ _; exact Nat.le_of_eq rfl) (hb hby at_280) (fun _ _ => ⟨rfl, rfl, (by decide : 4 + 0 ≤ _), (by decide : 41 + 0 ≤ _)⟩)
                dsimp only [Pt.U, Pt.locs, Pt.cells, Pt.slots] at X73 l73 y73 z73 st73 hQ73
                subst l73 y73 z73
                obtain ⟨rfl, Nq73, Kq73⟩ := hQ73
                have N73 := Fr.app N61 Nq73
                have e73 : T73.heap = T61.heap := Kq73
                refine own_step (U' := (T73.setTop (mkF m 283 #[.val (.int p1), .val (.int p2), .val (.int p3), .val (.int p4), .val (.ref b25), .val (.int tt), .val (.ref b59), .val (.int (1 : Int32))] [(.int (own_ic tt))]))) (fun t ht => st73.trans ht) ?_
                refine own_step (U' := (T73.setTop (mkF m 285 #[.val (.int p1), .val (.int p2), .val (.int p3), .val (.int p4), .val (.ref b25), .val (.int tt), .val (.ref b59), .val (.int (1 : Int32))] [(.int (1 : Int32)), (.int (own_ic tt))]))) (fun t ht => XS.iload X73.here hx rfl (hb hby at_283) rfl ht) ?_
                refine own_step (U' := (T73.setTop (mkF m 288 #[.val (.int p1), .val (.int p2), .val (.int p3), .val (.int p4), .val (.ref b25), .val (.int tt), .val (.ref b59), .val (.int (1 : Int32))] []))) (fun t ht => XS.icmpNo X73.here hx rfl (hb hby at_285) rfl (XT.ii_ne_f ((by simp [own_ic, hc234_62, hc241_64, hc247_66, hc254_68, hc261_70, hc268_72]) : (own_ic tt) = (1 : Int32))) ht) ?_
                refine own_step (U' := (T73.setTop (mkF m 289 #[.val (.int p1), .val (.int p2), .val (.int p3), .val (.int p4), .val (.ref b25), .val (.int tt), .val (.ref b59), .val (.int (1 : Int32))] [(.int (1 : Int32))]))) (fun t ht => XS.iconst X73.here hx rfl (hb hby at_288) ht) ?_
                refine own_step (U' := (T73.setTop (mkF m 293 #[.val (.int p1), .val (.int p2), .val (.int p3), .val (.int p4), .val (.ref b25), .val (.int tt), .val (.ref b59), .val (.int (1 : Int32))] [(.int (1 : Int32))]))) (fun t ht => XS.goto X73.here hx rfl (pc0 := 289) (pc' := 293) rfl (hb hby at_289) (by decide) (by decide) ht) ?_
                refine own_ret X73 (v := (some (.int (nar .boolean (1 : Int32))))) (fun h => by rw [Bd.returns] at h; cases h) Bd.notSynchronized (by decide) (by decide) ?_ (fun fs hr => retN X73 hx (t := .boolean) Bd.returns (by simp) (hb hby at_293) hr)
                show own_Q_law Z p1 p2 p3 p4 cz h0 n0 _ T73.heap _
                rw [e73]
                exact ⟨rfl, N73⟩
              ·
                refine own_step (U' := (T61.setTop (mkF m 275 #[.val (.int p1), .val (.int p2), .val (.int p3), .val (.int p4), .val (.ref b25), .val (.int tt), .val (.ref b59), .unset] []))) (fun t ht => XS.icmpYes X61.here hx rfl (pc0 := 268) (pc' := 275) rfl (hb hby at_268) rfl (XT.ii_ne_t hc268_72) (by decide) (by decide) ht) ?_
                refine own_step (U' := (T61.setTop (mkF m 276 #[.val (.int p1), .val (.int p2), .val (.int p3), .val (.int p4), .val (.ref b25), .val (.int tt), .val (.ref b59), .unset] [(.int (0 : Int32))]))) (fun t ht => XS.iconst X61.here hx rfl (hb hby at_275) ht) ?_
                refine own_step (U' := (T61.setTop (mkF m 278 #[.val (.int p1), .val (.int p2), .val (.int p3), .val (.int p4), .val (.ref b25), .val (.int tt), .val (.ref b59), .val (.int (0 : Int32))] []))) (fun t ht => XS.istore X61.here hx rfl (hb hby at_276) rfl (l' := #[.val (.int p1), .val (.int p2), .val (.int p3), .val (.int p4), .val (.ref b25), .val (.int tt), .val (.ref b59), .val (.int (0 : Int32))]) rfl ht) ?_
                refine own_step (U' := (T61.setTop (mkF m 280 #[.val (.int p1), .val (.int p2), .val (.int p3), .val (.int p4), .val (.ref b25), .val (.int tt), .val (.ref b59), .val (.int (0 : Int32))] [(.ref b59)]))) (fun t ht => XS.aload X61.here hx rfl (hb hby at_278) rfl rfl ht) ?_
                obtain ⟨cq74, kq74, q74a, q74b, q74c⟩ := isOf hZ rfl Fq61_1
                obtain ⟨_, _, ⟨T74, L74, k74, n74⟩, -, X74, ⟨Lc74, hQ74, l74, y74, z74⟩, st74⟩ := X61.virtualBack hx (y := (⟨"com/example/fuxi/fuxi/dialect/DatabaseColumn", "isCharacter", "()Z"⟩ : MethodName)) (z := (⟨"com/example/fuxi/fuxi/dialect/DatabaseColumn", "isCharacter", "()Z"⟩ : MethodName)) hown (mvT hZ (hw _ (List.mem_of_getElem? (i := 49) rfl))) (mvT hZ (hw _ (List.mem_of_getElem? (i := 50) rfl))) (notFace_of_selects (args := #[]) (mvT hZ (hw _ (List.mem_of_getElem? (i := 52) rfl)))) (mvT hZ (hw _ (List.mem_of_getElem? (i := 52) rfl))) (mvT hZ (hw _ (List.mem_of_getElem? (i := 51) rfl))) (by decide) (backOf (W := 0) (own_m_ic l Z a0 hw [] (b59) (tt) T61.heap n0 (Nat.le_trans Z0 K61.1) Fq61_0) hZ (hw _ (List.mem_of_getElem? (i := 53) rfl)) (hw _ (List.mem_of_getElem? (i := 5) rfl)) (by decide) (by decide)) q74a q74c (g := (mkF m 280 #[.val (.int p1), .val (.int p2), .val (.int p3), .val (.int p4), .val (.ref b25), .val (.int tt), .val (.ref b59), .val (.int (0 : Int32))] [(.ref b59)])) rfl (by rw [hml]; rfl) (Steps.refl _) (argsL := []) (rest := []) (lenOf own_pd6 rfl) rfl (by show 2 * 0 + _ ≤ _; exact Nat.le_of_eq rfl) (hb hby at_280) (fun _ _ => ⟨rfl, rfl, (by decide : 4 + 0 ≤ _), (by decide : 41 + 0 ≤ _)⟩)
                dsimp only [Pt.U, Pt.locs, Pt.cells, Pt.slots] at X74 l74 y74 z74 st74 hQ74
                subst l74 y74 z74
                obtain ⟨rfl, Nq74, Kq74⟩ := hQ74
                have N74 := Fr.app N61 Nq74
                have e74 : T74.heap = T61.heap := Kq74
                refine own_step (U' := (T74.setTop (mkF m 283 #[.val (.int p1), .val (.int p2), .val (.int p3), .val (.int p4), .val (.ref b25), .val (.int tt), .val (.ref b59), .val (.int (0 : Int32))] [(.int (own_ic tt))]))) (fun t ht => st74.trans ht) ?_
                refine own_step (U' := (T74.setTop (mkF m 285 #[.val (.int p1), .val (.int p2), .val (.int p3), .val (.int p4), .val (.ref b25), .val (.int tt), .val (.ref b59), .val (.int (0 : Int32))] [(.int (0 : Int32)), (.int (own_ic tt))]))) (fun t ht => XS.iload X74.here hx rfl (hb hby at_283) rfl ht) ?_
                refine own_step (U' := (T74.setTop (mkF m 288 #[.val (.int p1), .val (.int p2), .val (.int p3), .val (.int p4), .val (.ref b25), .val (.int tt), .val (.ref b59), .val (.int (0 : Int32))] []))) (fun t ht => XS.icmpNo X74.here hx rfl (hb hby at_285) rfl (XT.ii_ne_f ((by simp [own_ic, hc234_62, hc241_64, hc247_66, hc254_68, hc261_70, hc268_72]) : (own_ic tt) = (0 : Int32))) ht) ?_
                refine own_step (U' := (T74.setTop (mkF m 289 #[.val (.int p1), .val (.int p2), .val (.int p3), .val (.int p4), .val (.ref b25), .val (.int tt), .val (.ref b59), .val (.int (0 : Int32))] [(.int (1 : Int32))]))) (fun t ht => XS.iconst X74.here hx rfl (hb hby at_288) ht) ?_
                refine own_step (U' := (T74.setTop (mkF m 293 #[.val (.int p1), .val (.int p2), .val (.int p3), .val (.int p4), .val (.ref b25), .val (.int tt), .val (.ref b59), .val (.int (0 : Int32))] [(.int (1 : Int32))]))) (fun t ht => XS.goto X74.here hx rfl (pc0 := 289) (pc' := 293) rfl (hb hby at_289) (by decide) (by decide) ht) ?_
                refine own_ret X74 (v := (some (.int (nar .boolean (1 : Int32))))) (fun h => by rw [Bd.returns] at h; cases h) Bd.notSynchronized (by decide) (by decide) ?_ (fun fs hr => retN X74 hx (t := .boolean) Bd.returns (by simp) (hb hby at_293) hr)
                show own_Q_law Z p1 p2 p3 p4 cz h0 n0 _ T74.heap _
                rw [e74]
                exact ⟨rfl, N74⟩
  refine own_step (U' := (T57.setTop (mkF m 188 #[.val (.int p1), .val (.int p2), .val (.int p3), .val (.int p4), .val (.ref b25), .unset, .unset, .unset] [(.int p2)]))) (fun t ht => XS.iloadN Xo58.here hx rfl (hb hby at_187) rfl ht) ?_
  refine own_step (U' := (T57.setTop (mkF m 189 #[.val (.int p1), .val (.int p2), .val (.int p3), .val (.int p4), .val (.ref b25), .unset, .unset, .unset] [(.int (1 : Int32)), (.int p2)]))) (fun t ht => XS.iconst Xo58.here hx rfl (hb hby at_188) ht) ?_
  refine own_step (U' := (T57.setTop (mkF m 190 #[.val (.int p1), .val (.int p2), .val (.int p3), .val (.int p4), .val (.ref b25), .unset, .unset, .unset] [(.int (p2 &&& (1 : Int32)))]))) (fun t ht => XS.iand Xo58.here hx rfl (hb hby at_189) rfl ht) ?_
  by_cases hc190_75 : (p2 &&& (1 : Int32)) = 0
  ·
    refine own_step (U' := (T57.setTop (mkF m 197 #[.val (.int p1), .val (.int p2), .val (.int p3), .val (.int p4), .val (.ref b25), .unset, .unset, .unset] []))) (fun t ht => XS.ifYes Xo58.here hx rfl (pc0 := 190) (pc' := 197) rfl (hb hby at_190) rfl (XT.i0_eq_t hc190_75) (by decide) (by decide) ht) ?_
    refine own_step (U' := (T57.setTop (mkF m 199 #[.val (.int p1), .val (.int p2), .val (.int p3), .val (.int p4), .val (.ref b25), .unset, .unset, .unset] [(.ref b25)]))) (fun t ht => XS.aload Xo58.here hx rfl (hb hby at_197) rfl rfl ht) ?_
    refine own_step (U' := (T57.setTop (mkF m 200 #[.val (.int p1), .val (.int p2), .val (.int p3), .val (.int p4), .val (.ref b25), .unset, .unset, .unset] [(.int p2), (.ref b25)]))) (fun t ht => XS.iloadN Xo58.here hx rfl (hb hby at_199) rfl ht) ?_
    refine own_step (U' := (T57.setTop (mkF m 201 #[.val (.int p1), .val (.int p2), .val (.int p3), .val (.int p4), .val (.ref b25), .unset, .unset, .unset] [(.int (1 : Int32)), (.int p2), (.ref b25)]))) (fun t ht => XS.iconst Xo58.here hx rfl (hb hby at_200) ht) ?_
    refine own_step (U' := (T57.setTop (mkF m 202 #[.val (.int p1), .val (.int p2), .val (.int p3), .val (.int p4), .val (.ref b25), .unset, .unset, .unset] [(.int (XT.ushr p2 (1 : Int32))), (.ref b25)]))) (fun t ht => XT.iushr Xo58.here hx rfl (hb hby at_201) rfl ht) ?_
    refine own_step (U' := (T57.setTop (mkF m 204 #[.val (.int p1), .val (.int p2), .val (.int p3), .val (.int p4), .val (.ref b25), .unset, .unset, .unset] [(.ref b25), (.int (XT.ushr p2 (1 : Int32))), (.ref b25)]))) (fun t ht => XS.aload Xo58.here hx rfl (hb hby at_202) rfl rfl ht) ?_
    obtain ⟨cl76, Ar76, q76, S76, N76_, H76, G76⟩ := (id V57)
    refine own_step (U' := (T57.setTop (mkF m 205 #[.val (.int p1), .val (.int p2), .val (.int p3), .val (.int p4), .val (.ref b25), .unset, .unset, .unset] [(.int (32 : Int32)), (.int (XT.ushr p2 (1 : Int32))), (.ref b25)]))) (fun t ht => Xo58.arraylength hx (own_at e57 Ar76.1) (State.isArrayOf_alike hZ.alike Ar76.2.1) (g := (mkF m 204 #[.val (.int p1), .val (.int p2), .val (.int p3), .val (.int p4), .val (.ref b25), .unset, .unset, .unset] [(.ref b25), (.int (XT.ushr p2 (1 : Int32))), (.ref b25)])) rfl rfl (hb hby at_204) _ (by rw [len_of S76 N76_]; exact ht)) ?_
    refine own_step (U' := (T57.setTop (mkF m 206 #[.val (.int p1), .val (.int p2), .val (.int p3), .val (.int p4), .val (.ref b25), .unset, .unset, .unset] [(.int ((XT.ushr p2 (1 : Int32)) % (32 : Int32))), (.ref b25)]))) (fun t ht => iremM Xo58 hx rfl (hb hby at_205) rfl (by decide) ht) ?_
    obtain ⟨cl77, Ar77, q77, S77, N77_, H77, G77⟩ := (id V57)
    have hin77 : ¬ (((XT.ushr p2 (1 : Int32)) % (32 : Int32)) < 0 ∨ cl77.slots.size ≤ (((XT.ushr p2 (1 : Int32)) % (32 : Int32))).toNatClampNeg) := inb_of S77 (own_ix _)
    have hat77 : cl77.slots[(((XT.ushr p2 (1 : Int32)) % (32 : Int32))).toNatClampNeg]? = some (.int (own_pk ((XT.ushr p2 (1 : Int32)) % (32 : Int32)))) := Has.at H77 hin77 (own_pk_at _)
    refine own_step (U' := (T57.setTop (mkF m 207 #[.val (.int p1), .val (.int p2), .val (.int p3), .val (.int p4), .val (.ref b25), .unset, .unset, .unset] [(.int (own_pk ((XT.ushr p2 (1 : Int32)) % (32 : Int32))))]))) (fun t ht => Xo58.iaload hx (j := ((XT.ushr p2 (1 : Int32)) % (32 : Int32))) (v := (.int (own_pk ((XT.ushr p2 (1 : Int32)) % (32 : Int32))))) (own_at e57 Ar77.1) (State.isArrayOf_alike hZ.alike Ar77.2.1) Ar77.2.2 hin77 hat77 (g := (mkF m 206 #[.val (.int p1), .val (.int p2), .val (.int p3), .val (.int p4), .val (.ref b25), .unset, .unset, .unset] [(.int ((XT.ushr p2 (1 : Int32)) % (32 : Int32))), (.ref b25)])) rfl rfl (hb hby at_206) _ ht) ?_
    exact tail207 ((own_pk ((XT.ushr p2 (1 : Int32)) % (32 : Int32)))) 
  ·
    refine own_step (U' := (T57.setTop (mkF m 193 #[.val (.int p1), .val (.int p2), .val (.int p3), .val (.int p4), .val (.ref b25), .unset, .unset, .unset] []))) (fun t ht => XS.ifNo Xo58.here hx rfl (hb hby at_190) rfl (XT.i0_eq_f hc190_75) ht) ?_
    refine own_step (U' := (T57.setTop (mkF m 194 #[.val (.int p1), .val (.int p2), .val (.int p3), .val (.int p4), .val (.ref b25), .unset, .unset, .unset] [(.int p1)]))) (fun t ht => XS.iloadN Xo58.here hx rfl (hb hby at_193) rfl ht) ?_
    refine own_step (U' := (T57.setTop (mkF m 207 #[.val (.int p1), .val (.int p2), .val (.int p3), .val (.int p4), .val (.ref b25), .unset, .unset, .unset] [(.int p1)]))) (fun t ht => XS.goto Xo58.here hx rfl (pc0 := 194) (pc' := 207) rfl (hb hby at_194) (by decide) (by decide) ht) ?_
    exact tail207 (p1) 
set_option maxRecDepth 65536 in
set_option maxHeartbeats 40000000 in
theorem own_comes {Post : Tables → Env → Array Value → State → Outcome → State → Prop} (hpost : ∀ tb e args s v u, (limb_1_1.after args s (.returned v) u = true ∧ limb_1_2.after args s (.returned v) u = true ∧ True) → FrameEnd s (.returned v) u (Jvm.fieldLocs frame_1_writes args s ++ Jvm.arrayLocs frame_1_arrays args s ++ Jvm.staticLocs frame_1_statics s) 16 192 → Post tb e args s (.returned v) u) :
    ArmFor flags0 classFile x code maxLocals ret World_1 tables_1 room_1 Calls_1 rest_1 Pre_1 Post := by
  intro l hfl _ _ p e ha hc hk s m args below hf hA hF happ hP
  obtain ⟨hcalls, hrest, hpre⟩ := hP
  obtain ⟨-, -, -, hnamed, -, -, -, hat⟩ := (Spec.applies_iff hf).mp happ
  obtain ⟨hg, hn⟩ := and_e (Cond.before_iff.mp (show (Jvm.Cond.and given_1 narrow_1).before args s = true from hpre))
  obtain ⟨hcount, q0⟩ := and_e hg
  obtain ⟨a0, q1⟩ := and_e q0
  obtain ⟨a1, q2⟩ := and_e q1
  obtain ⟨a2, q3⟩ := and_e q2
  have a3 := q3
  obtain ⟨w0, w1, w2, w3, rfl⟩ : ∃ w0 w1 w2 w3 : Value, args = #[w0, w1, w2, w3] := by
    have hs : args.size = 4 := by simpa [Cond.value, given_1] using hcount
    obtain ⟨L⟩ := args
    match L, hs with
    | [w0, w1, w2, w3], _ => exact ⟨w0, w1, w2, w3, rfl⟩
  obtain ⟨i0, e0⟩ := is_v a0
  obtain rfl : w0 = (.int i0) := Option.some.inj e0
  obtain ⟨i1, e1⟩ := is_v a1
  obtain rfl : w1 = (.int i1) := Option.some.inj e1
  obtain ⟨i2, e2⟩ := is_v a2
  obtain rfl : w2 = (.int i2) := Option.some.inj e2
  obtain ⟨i3, e3⟩ := is_v a3
  obtain rfl : w3 = (.int i3) := Option.some.inj e3
  have hw := fun d (hd : d ∈ tables_1) => atoms_spec (ws := Jvm.Cond.code x code maxLocals ret :: tables_1) hat d (List.mem_cons_of_mem _ hd)
  have hfit : Fit s := fun {y c} hc i hi => by
    obtain ⟨ha, rfl⟩ := Array.getElem?_eq_some_iff.mp hc
    have q := List.all_eq_true.mp ((Array.all_eq_true_iff_forall_mem.mp hF) _ (Array.getElem_mem ha)) i (List.mem_range.mpr hi)
    simpa [Array.getElem?_eq_getElem hi] using q
  obtain ⟨hsets, hown0⟩ := atoms_of _ (rest_1_c_eq ▸ (show rest_1_c.before _ s = true from hrest))
  have n3 := not_v (Cond.before_iff.mp (hsets _ (List.mem_of_getElem? (i := 2) rfl)))
  obtain ⟨cz, ecz⟩ := is_v (Cond.before_iff.mp (hsets _ (List.mem_of_getElem? (i := 1) rfl)))
  have Scz : Sta s s.heap "java/lang/String" "COMPACT_STRINGS" "Z" (.int cz) := Sta.start ecz (Or.inl (hsets _ (List.mem_of_getElem? (i := 0) rfl)))
  have hcz : ¬ cz = 0 := fun q => by rw [eq_i ecz (Term.int_eval 0) (by rw [q])] at n3; cases n3
  obtain ⟨n, o, h1, h2, h3, _, L, rfl, ⟨rfl, N⟩, hq⟩ := own_m_law l s _ hw tables_1 i0 i1 i2 i3 cz s.heap s.heap.size (Nat.le_refl _) Scz hcz p e ha hc hk s m _ below hf ((Spec.applies_iff_loose hf).mp happ).1 ⟨rfl, State.Warmed39.refl s, rfl⟩ trivial
  refine ⟨n, _, h1, h2, h3, hpost _ _ _ _ _ _ ⟨Cond.after_iff.mpr rfl, Cond.after_iff.mpr (eq_i res_at (Term.int_eval (1)) rfl), trivial⟩ ⟨hq.1, hq.2.1, (hq.2.2.sift fun y hy => Or.inr (N y hy)).mono (by decide) (by decide)⟩⟩
theorem main_1_1 : Claimed_1_1 := own_comes fun _ _ _ _ _ _ h hF => ⟨h.1, hF⟩
theorem main_1_2 : Claimed_1_2 := own_comes fun _ _ _ _ _ _ h hF => ⟨h.2.1, hF⟩
end Jvm.Pilot.@@N@@
namespace Jvm.Pilot.@@N@@
open Jvm Jvm.ClassFile Sem Op Lib Jvm.Free Jvm.Stand Jvm.Pilot.@@N@@.Jvm.D
/-! MADE BY PROGRAM (witnessworld.py) out of the Statement's table words and the real class files: 18 classes; the members and pool entries that the words name. The judged class is class 1, her method 1. -/
namespace start1
open Jvm.ClassFile
def u (s : String) : CpInfo := .utf8 (stringToUtf16 s)
/-- a pool by its gaps: so many unusable entries, then the entry; so many at the end -/
def gap : Nat → List CpInfo → List CpInfo
  | 0, r => r
  | n + 1, r => .unusable :: gap n r
def poolList (es : List (Nat × CpInfo)) (last : Nat) : List CpInfo := es.foldr (fun e r => gap e.1 (e.2 :: r)) (gap last [])
def pool (es : List (Nat × CpInfo)) (last : Nat) : Array CpInfo := ⟨poolList es last⟩
def fileOf (pool : Array CpInfo) (this : Nat) (attrs : Array Attribute := #[]) (ms : Array MethodInfo := #[]) (fl : Nat := 33) (sup : Nat := 0) (ifs : Array Nat := #[]) (fds : Array FieldInfo := #[]) : ClassFile where
  minorVersion := 0
  majorVersion := 65
  constantPool := pool
  accessFlags := fl
  thisClass := this
  superClass := sup
  interfaces := ifs
  fields := fds
  methods := ms
  attributes := attrs
def plain (name : String) (sup : Option ClassId) : Class where
  name := name
  kind := .ordinary
  loader := none
  accessFlags := 33
  super := sup
  interfaces := #[]
  cf := none
  fields := #[]
  methods := #[]
  instanceTypes := #[]
  staticTypes := #[]
  resolved := #[]
  callSites := []
  init := .initialized
  statics := none
  mirror := none

def pool0 : Array CpInfo := pool [(5, u "<init>"), (0, u "()V"), (1, .class_ 10), (1, u "java/lang/Object")] 113

def k0c0 : Code := { maxStack := 0, maxLocals := 1, code := object_method_1_code, exceptionTable := #[], attributes := #[] }
def k0m0 : Method := { name := "<init>", desc := "()V", sig := { parameters := [], returnType := none }, accessFlags := 1, code := some k0c0 }
/-- java/lang/Object -/
def k0 : Class := { plain "java/lang/Object" none with
  accessFlags := 33
  interfaces := #[]
  cf := some (fileOf pool0 8 #[] #[{ accessFlags := 1, nameIndex := 5, descriptorIndex := 6, attributes := #[] }] 33 0 #[] #[])
  fields := #[]
  methods := #[k0m0]
  instanceTypes := #[]
  staticTypes := #[]
  resolved := Array.replicate 124 none
  statics := none }

def pool1 : Array CpInfo := pool [(2, .class_ 4), (1, u "java/lang/Object"), (0, u "<init>"), (0, u "()V"), (2, .integer 2147483648), (0, .integer 2147483647), (0, .class_ 12), (0, u "com/example/fuxi/fuxi/dialect/DatabaseColumn"), (0, .methodref 14 15), (0, .class_ 16), (0, .nameAndType 17 18), (0, u "java/lang/String"), (0, u "valueOf"), (0, u "(C)Ljava/lang/String;"), (0, .methodref 11 20), (0, .nameAndType 5 21), (0, u "(ILjava/lang/String;II)V"), (0, .methodref 11 23), (0, .nameAndType 24 25), (0, u "isCharacter"), (0, u "()Z"), (0, .class_ 27), (0, u "com/example/fuxi/fuxi/dialect/DatabaseColumnIsCharacterPinLaw"), (2, u "law"), (0, u "(IIII)Z")] 5

def k1m0 : Method := { name := "<init>", desc := "()V", sig := { parameters := [], returnType := none }, accessFlags := 1, code := none }
def k1c1 : Code := { maxStack := 6, maxLocals := 8, code := code, exceptionTable := #[], attributes := #[] }
def k1m1 : Method := { name := "law", desc := "(IIII)Z", sig := { parameters := [.int, .int, .int, .int], returnType := some .boolean }, accessFlags := 9, code := some k1c1 }
/-- com/example/fuxi/fuxi/dialect/DatabaseColumnIsCharacterPinLaw -/
def k1 : Class := { plain "com/example/fuxi/fuxi/dialect/DatabaseColumnIsCharacterPinLaw" (some 0) with
  accessFlags := 49
  interfaces := #[]
  cf := some (fileOf pool1 26 #[] #[{ accessFlags := 1, nameIndex := 5, descriptorIndex := 6, attributes := #[] }, { accessFlags := 9, nameIndex := 30, descriptorIndex := 31, attributes := #[] }] 49 2 #[] #[])
  fields := #[]
  methods := #[k1m0, k1m1]
  instanceTypes := #[]
  staticTypes := #[]
  resolved := Array.replicate 37 none
  statics := none }

def pool2 : Array CpInfo := pool [(1, .methodref 2 3), (0, .class_ 4), (0, .nameAndType 5 6), (0, u "java/lang/Object"), (0, u "<init>"), (0, u "()V"), (0, .class_ 8), (0, u "java/lang/Record")] 13

def k2c0 : Code := { maxStack := 1, maxLocals := 1, code := jdk_30_method_1_code, exceptionTable := #[], attributes := #[] }
def k2m0 : Method := { name := "<init>", desc := "()V", sig := { parameters := [], returnType := none }, accessFlags := 4, code := some k2c0 }
/-- java/lang/Record -/
def k2 : Class := { plain "java/lang/Record" (some 0) with
  accessFlags := 1057
  interfaces := #[]
  cf := some (fileOf pool2 7 #[] #[{ accessFlags := 4, nameIndex := 5, descriptorIndex := 6, attributes := #[] }] 1057 2 #[] #[])
  fields := #[]
  methods := #[k2m0]
  instanceTypes := #[]
  staticTypes := #[]
  resolved := Array.replicate 22 none
  statics := none }

def pool3 : Array CpInfo := pool [(1, .methodref 2 3), (0, .class_ 4), (0, .nameAndType 5 6), (0, u "java/lang/Record"), (0, u "<init>"), (0, u "()V"), (0, .fieldref 8 9), (0, .class_ 10), (0, .nameAndType 11 12), (0, u "com/example/fuxi/fuxi/dialect/DatabaseColumn"), (0, u "sqlType"), (0, u "I"), (0, .fieldref 8 14), (0, .nameAndType 15 16), (0, u "typeName"), (0, u "Ljava/lang/String;"), (0, .fieldref 8 18), (0, .nameAndType 19 12), (0, u "size"), (0, .fieldref 8 21), (0, .nameAndType 22 12), (0, u "scale"), (5, u "()Z"), (2, u "isCharacter"), (22, u "(ILjava/lang/String;II)V")] 48

def k3c0 : Code := { maxStack := 2, maxLocals := 5, code := prog_3_method_1_code, exceptionTable := #[], attributes := #[] }
def k3m0 : Method := { name := "<init>", desc := "(ILjava/lang/String;II)V", sig := { parameters := [.int, (.object "java/lang/String"), .int, .int], returnType := none }, accessFlags := 1, code := some k3c0 }
def k3c1 : Code := { maxStack := 1, maxLocals := 1, code := prog_3_method_2_code, exceptionTable := #[], attributes := #[] }
def k3m1 : Method := { name := "isCharacter", desc := "()Z", sig := { parameters := [], returnType := some .boolean }, accessFlags := 1, code := some k3c1 }
/-- com/example/fuxi/fuxi/dialect/DatabaseColumn -/
def k3 : Class := { plain "com/example/fuxi/fuxi/dialect/DatabaseColumn" (some 2) with
  accessFlags := 49
  interfaces := #[]
  cf := some (fileOf pool3 8 #[] #[{ accessFlags := 1, nameIndex := 5, descriptorIndex := 54, attributes := #[] }, { accessFlags := 1, nameIndex := 31, descriptorIndex := 28, attributes := #[] }] 49 2 #[] #[{ accessFlags := 18, nameIndex := 11, descriptorIndex := 12, attributes := #[] }, { accessFlags := 18, nameIndex := 15, descriptorIndex := 16, attributes := #[] }, { accessFlags := 18, nameIndex := 19, descriptorIndex := 12, attributes := #[] }, { accessFlags := 18, nameIndex := 22, descriptorIndex := 12, attributes := #[] }])
  fields := #[{ name := "sqlType", type := .int, accessFlags := 18, slot := 0, constantValue := 0 }, { name := "typeName", type := (.object "java/lang/String"), accessFlags := 18, slot := 1, constantValue := 0 }, { name := "size", type := .int, accessFlags := 18, slot := 2, constantValue := 0 }, { name := "scale", type := .int, accessFlags := 18, slot := 3, constantValue := 0 }]
  methods := #[k3m0, k3m1]
  instanceTypes := #[.int, (.object "java/lang/String"), .int, .int]
  staticTypes := #[]
  resolved := Array.replicate 103 none
  statics := none }

def pool4 : Array CpInfo := pool [(1, .class_ 2), (0, u "java/io/Serializable"), (0, .class_ 4), (0, u "java/lang/Object")] 2

/-- java/io/Serializable -/
def k4 : Class := { plain "java/io/Serializable" (some 0) with
  accessFlags := 1537
  interfaces := #[]
  cf := some (fileOf pool4 1 #[] #[] 1537 3 #[] #[])
  fields := #[]
  methods := #[]
  instanceTypes := #[]
  staticTypes := #[]
  resolved := Array.replicate 7 none
  statics := none }

def pool5 : Array CpInfo := pool [(1, .class_ 2), (0, u "java/lang/Comparable"), (0, .class_ 4), (0, u "java/lang/Object")] 7

/-- java/lang/Comparable -/
def k5 : Class := { plain "java/lang/Comparable" (some 0) with
  accessFlags := 1537
  interfaces := #[]
  cf := some (fileOf pool5 1 #[] #[] 1537 3 #[] #[])
  fields := #[]
  methods := #[]
  instanceTypes := #[]
  staticTypes := #[]
  resolved := Array.replicate 12 none
  statics := none }

def pool6 : Array CpInfo := pool [(2, .class_ 4), (1, u "java/lang/CharSequence"), (42, .class_ 48), (0, u "java/lang/CharSequence$1CodePointIterator"), (10, .class_ 60), (0, u "java/lang/CharSequence$1CharIterator"), (5, .class_ 67), (0, u "java/lang/Object")] 63

/-- java/lang/CharSequence -/
def k6 : Class := { plain "java/lang/CharSequence" (some 0) with
  accessFlags := 1537
  interfaces := #[]
  cf := some (fileOf pool6 2 #[.nestMembers #[47, 59]] #[] 1537 66 #[] #[])
  fields := #[]
  methods := #[]
  instanceTypes := #[]
  staticTypes := #[]
  resolved := Array.replicate 131 none
  statics := none }

def pool7 : Array CpInfo := pool [(1, .class_ 2), (0, u "java/lang/constant/Constable"), (0, .class_ 4), (0, u "java/lang/Object")] 6

/-- java/lang/constant/Constable -/
def k7 : Class := { plain "java/lang/constant/Constable" (some 0) with
  accessFlags := 1537
  interfaces := #[]
  cf := some (fileOf pool7 1 #[] #[] 1537 3 #[] #[])
  fields := #[]
  methods := #[]
  instanceTypes := #[]
  staticTypes := #[]
  resolved := Array.replicate 11 none
  statics := none }

def pool8 : Array CpInfo := pool [(1, .class_ 2), (0, u "java/lang/constant/ConstantDesc"), (0, .class_ 4), (0, u "java/lang/Object")] 32

/-- java/lang/constant/ConstantDesc -/
def k8 : Class := { plain "java/lang/constant/ConstantDesc" (some 0) with
  accessFlags := 1537
  interfaces := #[]
  cf := some (fileOf pool8 1 #[] #[] 1537 3 #[] #[])
  fields := #[]
  methods := #[]
  instanceTypes := #[]
  staticTypes := #[]
  resolved := Array.replicate 37 none
  statics := none }

def pool9 : Array CpInfo := pool [(1, .methodref 2 3), (0, .class_ 4), (0, .nameAndType 5 6), (0, u "java/lang/Object"), (0, u "<init>"), (0, u "()V"), (2, .fieldref 10 11), (0, .class_ 12), (0, .nameAndType 13 14), (0, u "java/lang/String"), (0, u "value"), (0, u "[B"), (0, .fieldref 10 16), (0, .nameAndType 17 18), (0, u "coder"), (0, u "B"), (2, u "hash"), (0, u "I"), (2, u "hashIsZero"), (0, u "Z"), (11, .fieldref 10 39), (0, .nameAndType 40 26), (0, u "COMPACT_STRINGS"), (12, u "toBytes"), (53, .class_ 109), (1, u "java/lang/StringLatin1"), (99, .methodref 10 210), (0, .nameAndType 5 211), (0, u "([BB)V"), (157, u "(C)Z"), (205, .class_ 576), (0, u "java/lang/CharSequence"), (22, u "CASE_INSENSITIVE_ORDER"), (0, u "Ljava/util/Comparator;"), (181, u "valueOf"), (0, u "(C)Ljava/lang/String;"), (231, .methodref 107 1016), (0, .nameAndType 1017 369), (0, u "canEncode"), (0, .methodref 107 1019), (0, .nameAndType 53 1020), (0, u "(C)[B"), (80, u "serialPersistentFields"), (0, u "[Ljava/io/ObjectStreamField;"), (0, .class_ 1104), (0, u "java/lang/String$CaseInsensitiveComparator"), (1, .class_ 1107), (0, u "java/io/Serializable"), (0, .class_ 1109), (0, u "java/lang/Comparable"), (0, .class_ 1111), (0, u "java/lang/constant/Constable"), (0, .class_ 1113), (0, u "java/lang/constant/ConstantDesc"), (2, u "serialVersionUID"), (0, u "J"), (3, u "REPL"), (0, u "C"), (2, u "LATIN1"), (1, u "UTF16")] 323

def k9m0 : Method := { name := "<init>", desc := "()V", sig := { parameters := [], returnType := none }, accessFlags := 1, code := none }
def k9c1 : Code := { maxStack := 4, maxLocals := 1, code := jdk_42_method_139_code, exceptionTable := #[], attributes := #[] }
def k9m1 : Method := { name := "valueOf", desc := "(C)Ljava/lang/String;", sig := { parameters := [.char], returnType := some (.object "java/lang/String") }, accessFlags := 9, code := some k9c1 }
def k9c2 : Code := { maxStack := 2, maxLocals := 3, code := jdk_42_method_151_code, exceptionTable := #[], attributes := #[] }
def k9m2 : Method := { name := "<init>", desc := "([BB)V", sig := { parameters := [(.array .byte), .byte], returnType := none }, accessFlags := 0, code := some k9c2 }
/-- java/lang/String -/
def k9 : Class := { plain "java/lang/String" (some 0) with
  accessFlags := 49
  interfaces := #[4, 5, 6, 7, 8]
  cf := some (fileOf pool9 10 #[.nestMembers #[1103]] #[{ accessFlags := 1, nameIndex := 5, descriptorIndex := 6, attributes := #[] }, { accessFlags := 9, nameIndex := 782, descriptorIndex := 783, attributes := #[] }, { accessFlags := 0, nameIndex := 5, descriptorIndex := 211, attributes := #[] }] 49 2 #[1106, 1108, 575, 1110, 1112] #[{ accessFlags := 18, nameIndex := 13, descriptorIndex := 14, attributes := #[] }, { accessFlags := 18, nameIndex := 17, descriptorIndex := 18, attributes := #[] }, { accessFlags := 2, nameIndex := 21, descriptorIndex := 22, attributes := #[] }, { accessFlags := 2, nameIndex := 25, descriptorIndex := 26, attributes := #[] }, { accessFlags := 26, nameIndex := 1116, descriptorIndex := 1117, attributes := #[] }, { accessFlags := 24, nameIndex := 40, descriptorIndex := 26, attributes := #[] }, { accessFlags := 26, nameIndex := 1101, descriptorIndex := 1102, attributes := #[] }, { accessFlags := 26, nameIndex := 1121, descriptorIndex := 1122, attributes := #[] }, { accessFlags := 25, nameIndex := 599, descriptorIndex := 600, attributes := #[] }, { accessFlags := 24, nameIndex := 1125, descriptorIndex := 18, attributes := #[] }, { accessFlags := 24, nameIndex := 1127, descriptorIndex := 18, attributes := #[] }])
  fields := #[{ name := "value", type := (.array .byte), accessFlags := 18, slot := 0, constantValue := 0 }, { name := "coder", type := .byte, accessFlags := 18, slot := 1, constantValue := 0 }, { name := "hash", type := .int, accessFlags := 2, slot := 2, constantValue := 0 }, { name := "hashIsZero", type := .boolean, accessFlags := 2, slot := 3, constantValue := 0 }, { name := "serialVersionUID", type := .long, accessFlags := 26, slot := 0, constantValue := 0 }, { name := "COMPACT_STRINGS", type := .boolean, accessFlags := 24, slot := 1, constantValue := 0 }, { name := "serialPersistentFields", type := (.array (.object "java/io/ObjectStreamField")), accessFlags := 26, slot := 2, constantValue := 0 }, { name := "REPL", type := .char, accessFlags := 26, slot := 3, constantValue := 0 }, { name := "CASE_INSENSITIVE_ORDER", type := (.object "java/util/Comparator"), accessFlags := 25, slot := 4, constantValue := 0 }, { name := "LATIN1", type := .byte, accessFlags := 24, slot := 5, constantValue := 0 }, { name := "UTF16", type := .byte, accessFlags := 24, slot := 6, constantValue := 0 }]
  methods := #[k9m0, k9m1, k9m2]
  instanceTypes := #[(.array .byte), .byte, .int, .boolean]
  staticTypes := #[.long, .boolean, (.array (.object "java/io/ObjectStreamField")), .char, (.object "java/util/Comparator"), .byte, .byte]
  resolved := Array.replicate 1451 none
  statics := some 0 }

def pool10 : Array CpInfo := pool [(4, .class_ 6), (1, u "java/lang/Object"), (0, u "<init>"), (0, u "()V"), (5, .class_ 16), (1, u "java/lang/StringLatin1"), (73, u "canEncode"), (14, u "(C)Z"), (15, u "$assertionsDisabled"), (0, u "Z"), (98, .class_ 223), (1, u "java/lang/StringLatin1$LinesSpliterator"), (156, u "toBytes"), (1, u "(C)[B"), (7, .class_ 391), (0, u "java/lang/StringLatin1$CharsSpliterator")] 3

def k10m0 : Method := { name := "<init>", desc := "()V", sig := { parameters := [], returnType := none }, accessFlags := 0, code := none }
def k10c1 : Code := { maxStack := 2, maxLocals := 1, code := jdk_43_method_3_code, exceptionTable := #[], attributes := #[] }
def k10m1 : Method := { name := "canEncode", desc := "(C)Z", sig := { parameters := [.char], returnType := some .boolean }, accessFlags := 9, code := some k10c1 }
def k10c2 : Code := { maxStack := 4, maxLocals := 1, code := jdk_43_method_46_code, exceptionTable := #[], attributes := #[] }
def k10m2 : Method := { name := "toBytes", desc := "(C)[B", sig := { parameters := [.char], returnType := some (.array .byte) }, accessFlags := 9, code := some k10c2 }
/-- java/lang/StringLatin1 -/
def k10 : Class := { plain "java/lang/StringLatin1" (some 0) with
  accessFlags := 48
  interfaces := #[]
  cf := some (fileOf pool10 14 #[.nestMembers #[390, 221]] #[{ accessFlags := 0, nameIndex := 7, descriptorIndex := 8, attributes := #[] }, { accessFlags := 9, nameIndex := 90, descriptorIndex := 105, attributes := #[] }, { accessFlags := 9, nameIndex := 380, descriptorIndex := 382, attributes := #[] }] 48 4 #[] #[{ accessFlags := 4120, nameIndex := 121, descriptorIndex := 122, attributes := #[] }])
  fields := #[{ name := "$assertionsDisabled", type := .boolean, accessFlags := 4120, slot := 0, constantValue := 0 }]
  methods := #[k10m0, k10m1, k10m2]
  instanceTypes := #[]
  staticTypes := #[.boolean]
  resolved := Array.replicate 395 none
  statics := none }

def pool11 : Array CpInfo := pool [(2, .class_ 4), (1, u "java/lang/Object"), (0, u "<init>"), (0, u "()V"), (17, .class_ 26), (1, u "jdk/internal/util/Preconditions"), (28, .class_ 56), (0, u "jdk/internal/util/Preconditions$4"), (57, .class_ 115), (0, u "jdk/internal/util/Preconditions$1"), (7, u "SIOOBE_FORMATTER"), (0, u "Ljava/util/function/BiFunction;"), (0, .class_ 126), (0, u "jdk/internal/util/Preconditions$2"), (3, u "AIOOBE_FORMATTER"), (0, .class_ 132), (0, u "jdk/internal/util/Preconditions$3"), (3, u "IOOBE_FORMATTER")] 57

def k11m0 : Method := { name := "<init>", desc := "()V", sig := { parameters := [], returnType := none }, accessFlags := 1, code := none }
/-- jdk/internal/util/Preconditions -/
def k11 : Class := { plain "jdk/internal/util/Preconditions" (some 0) with
  accessFlags := 33
  interfaces := #[]
  cf := some (fileOf pool11 24 #[.nestMembers #[55, 131, 125, 114]] #[{ accessFlags := 1, nameIndex := 5, descriptorIndex := 6, attributes := #[] }] 33 2 #[] #[{ accessFlags := 25, nameIndex := 123, descriptorIndex := 124, attributes := #[] }, { accessFlags := 25, nameIndex := 130, descriptorIndex := 124, attributes := #[] }, { accessFlags := 25, nameIndex := 136, descriptorIndex := 124, attributes := #[] }])
  fields := #[{ name := "SIOOBE_FORMATTER", type := (.object "java/util/function/BiFunction"), accessFlags := 25, slot := 0, constantValue := 0 }, { name := "AIOOBE_FORMATTER", type := (.object "java/util/function/BiFunction"), accessFlags := 25, slot := 1, constantValue := 0 }, { name := "IOOBE_FORMATTER", type := (.object "java/util/function/BiFunction"), accessFlags := 25, slot := 2, constantValue := 0 }]
  methods := #[k11m0]
  instanceTypes := #[]
  staticTypes := #[(.object "java/util/function/BiFunction"), (.object "java/util/function/BiFunction"), (.object "java/util/function/BiFunction")]
  resolved := Array.replicate 194 none
  statics := some 1 }

def pool12 : Array CpInfo := pool [(9, u "<init>"), (6, .class_ 18), (1, u "java/lang/Object"), (0, u "()V"), (1, .class_ 23), (1, u "jdk/internal/util/ArraysSupport"), (0, u "LOG2_ARRAY_LONG_INDEX_SCALE"), (0, u "I"), (2, u "U"), (0, u "Ljdk/internal/misc/Unsafe;"), (8, u "BIG_ENDIAN"), (0, u "Z"), (8, u "LOG2_BYTE_BIT_SIZE"), (4, u "LOG2_ARRAY_INT_INDEX_SCALE"), (54, u "JLA"), (0, u "Ljdk/internal/access/JavaLangAccess;"), (11, u "LOG2_ARRAY_BOOLEAN_INDEX_SCALE"), (9, u "LOG2_ARRAY_BYTE_INDEX_SCALE"), (5, u "LOG2_ARRAY_CHAR_INDEX_SCALE"), (5, u "LOG2_ARRAY_SHORT_INDEX_SCALE"), (18, u "LOG2_ARRAY_FLOAT_INDEX_SCALE"), (24, u "LOG2_ARRAY_DOUBLE_INDEX_SCALE"), (89, u "T_BOOLEAN"), (2, u "T_CHAR"), (1, u "T_FLOAT"), (1, u "T_DOUBLE"), (1, u "T_BYTE"), (1, u "T_SHORT"), (1, u "T_INT"), (1, u "T_LONG"), (1, u "SOFT_MAX_ARRAY_LENGTH")] 83

def k12m0 : Method := { name := "<init>", desc := "()V", sig := { parameters := [], returnType := none }, accessFlags := 2, code := none }
/-- jdk/internal/util/ArraysSupport -/
def k12 : Class := { plain "jdk/internal/util/ArraysSupport" (some 0) with
  accessFlags := 33
  interfaces := #[]
  cf := some (fileOf pool12 21 #[] #[{ accessFlags := 2, nameIndex := 9, descriptorIndex := 19, attributes := #[] }] 33 16 #[] #[{ accessFlags := 24, nameIndex := 28, descriptorIndex := 29, attributes := #[] }, { accessFlags := 26, nameIndex := 38, descriptorIndex := 39, attributes := #[] }, { accessFlags := 25, nameIndex := 121, descriptorIndex := 25, attributes := #[] }, { accessFlags := 25, nameIndex := 131, descriptorIndex := 25, attributes := #[] }, { accessFlags := 25, nameIndex := 137, descriptorIndex := 25, attributes := #[] }, { accessFlags := 25, nameIndex := 143, descriptorIndex := 25, attributes := #[] }, { accessFlags := 25, nameIndex := 53, descriptorIndex := 25, attributes := #[] }, { accessFlags := 25, nameIndex := 24, descriptorIndex := 25, attributes := #[] }, { accessFlags := 25, nameIndex := 162, descriptorIndex := 25, attributes := #[] }, { accessFlags := 25, nameIndex := 187, descriptorIndex := 25, attributes := #[] }, { accessFlags := 26, nameIndex := 48, descriptorIndex := 25, attributes := #[] }, { accessFlags := 25, nameIndex := 277, descriptorIndex := 25, attributes := #[] }, { accessFlags := 25, nameIndex := 280, descriptorIndex := 25, attributes := #[] }, { accessFlags := 25, nameIndex := 282, descriptorIndex := 25, attributes := #[] }, { accessFlags := 25, nameIndex := 284, descriptorIndex := 25, attributes := #[] }, { accessFlags := 25, nameIndex := 286, descriptorIndex := 25, attributes := #[] }, { accessFlags := 25, nameIndex := 288, descriptorIndex := 25, attributes := #[] }, { accessFlags := 25, nameIndex := 290, descriptorIndex := 25, attributes := #[] }, { accessFlags := 25, nameIndex := 292, descriptorIndex := 25, attributes := #[] }, { accessFlags := 26, nameIndex := 108, descriptorIndex := 109, attributes := #[] }, { accessFlags := 25, nameIndex := 294, descriptorIndex := 25, attributes := #[] }])
  fields := #[{ name := "U", type := (.object "jdk/internal/misc/Unsafe"), accessFlags := 24, slot := 0, constantValue := 0 }, { name := "BIG_ENDIAN", type := .boolean, accessFlags := 26, slot := 1, constantValue := 0 }, { name := "LOG2_ARRAY_BOOLEAN_INDEX_SCALE", type := .int, accessFlags := 25, slot := 2, constantValue := 0 }, { name := "LOG2_ARRAY_BYTE_INDEX_SCALE", type := .int, accessFlags := 25, slot := 3, constantValue := 0 }, { name := "LOG2_ARRAY_CHAR_INDEX_SCALE", type := .int, accessFlags := 25, slot := 4, constantValue := 0 }, { name := "LOG2_ARRAY_SHORT_INDEX_SCALE", type := .int, accessFlags := 25, slot := 5, constantValue := 0 }, { name := "LOG2_ARRAY_INT_INDEX_SCALE", type := .int, accessFlags := 25, slot := 6, constantValue := 0 }, { name := "LOG2_ARRAY_LONG_INDEX_SCALE", type := .int, accessFlags := 25, slot := 7, constantValue := 0 }, { name := "LOG2_ARRAY_FLOAT_INDEX_SCALE", type := .int, accessFlags := 25, slot := 8, constantValue := 0 }, { name := "LOG2_ARRAY_DOUBLE_INDEX_SCALE", type := .int, accessFlags := 25, slot := 9, constantValue := 0 }, { name := "LOG2_BYTE_BIT_SIZE", type := .int, accessFlags := 26, slot := 10, constantValue := 0 }, { name := "T_BOOLEAN", type := .int, accessFlags := 25, slot := 11, constantValue := 0 }, { name := "T_CHAR", type := .int, accessFlags := 25, slot := 12, constantValue := 0 }, { name := "T_FLOAT", type := .int, accessFlags := 25, slot := 13, constantValue := 0 }, { name := "T_DOUBLE", type := .int, accessFlags := 25, slot := 14, constantValue := 0 }, { name := "T_BYTE", type := .int, accessFlags := 25, slot := 15, constantValue := 0 }, { name := "T_SHORT", type := .int, accessFlags := 25, slot := 16, constantValue := 0 }, { name := "T_INT", type := .int, accessFlags := 25, slot := 17, constantValue := 0 }, { name := "T_LONG", type := .int, accessFlags := 25, slot := 18, constantValue := 0 }, { name := "JLA", type := (.object "jdk/internal/access/JavaLangAccess"), accessFlags := 26, slot := 19, constantValue := 0 }, { name := "SOFT_MAX_ARRAY_LENGTH", type := .int, accessFlags := 25, slot := 20, constantValue := 0 }]
  methods := #[k12m0]
  instanceTypes := #[]
  staticTypes := #[(.object "jdk/internal/misc/Unsafe"), .boolean, .int, .int, .int, .int, .int, .int, .int, .int, .int, .int, .int, .int, .int, .int, .int, .int, .int, (.object "jdk/internal/access/JavaLangAccess"), .int]
  resolved := Array.replicate 378 none
  statics := none }

def pool13 : Array CpInfo := pool [(1, u "java/lang/Cloneable"), (0, .class_ 1), (0, u "java/lang/Object"), (0, .class_ 3)] 3

/-- java/lang/Cloneable -/
def k13 : Class := { plain "java/lang/Cloneable" (some 0) with
  accessFlags := 1537
  interfaces := #[]
  cf := some (fileOf pool13 2 #[] #[] 1537 4 #[] #[])
  fields := #[]
  methods := #[]
  instanceTypes := #[]
  staticTypes := #[]
  resolved := Array.replicate 8 none
  statics := none }

/-- the primitive byte -/
def k14 : Class := { plain "byte" none with kind := .primitive 'B', accessFlags := 0x411 }
/-- [B -/
def k15 : Class := { plain "[B" (some 0) with kind := .array 14 .byte, interfaces := #[13, 4], accessFlags := 1041 }

/-- the primitive int -/
def k16 : Class := { plain "int" none with kind := .primitive 'I', accessFlags := 0x411 }
/-- [I -/
def k17 : Class := { plain "[I" (some 0) with kind := .array 16 .int, interfaces := #[13, 4], accessFlags := 1041 }

def heap : Heap := #[{ cls := 9, slots := #[.long 0, .int 1, .null, .int 0, .null, .int 0, .int 0], vm := .statics 9 },
  { cls := 11, slots := #[.null, .null, .null], vm := .statics 11 }]
def classes : Array Class := #[k0, k1, k2, k3, k4, k5, k6, k7, k8, k9, k10, k11, k12, k13, k14, k15, k16, k17]
def interned : List (Array UInt16 × Addr) := []
def slotsUsed : Nat := 10
def theMethod : MethodId := ⟨1, 1⟩
def args0 : Array Value := #[.int 5, .int 7, .int 8, .int 9]
def aboutOver (below : List Frame) : State where
  vm := { classes := classes, interned := interned.toArray }
  heap := heap
  slotsUsed := slotsUsed
  threads := #[{ frames := .invoking theMethod args0 :: below }]
def below0 : List Frame := [.native { method := ⟨0, 0⟩, args := #[] }]
def about1 : State := aboutOver below0
def p0 : Program := .bare "" "" ""
def e0 : Env := launch0.env 0 0 0
theorem w_frames : about1.frames = Frame.invoking theMethod args0 :: below0 := rfl
set_option maxRecDepth 65536 in
theorem w_args : argsFit about1.vm theMethod args0 = true := by decide +kernel
set_option maxRecDepth 65536 in
theorem w_heap : heapFits about1 = true := by decide +kernel
set_option maxRecDepth 65536 in
theorem w_runnable : about1.curStatus? = some .runnable := by decide +kernel
set_option maxRecDepth 65536 in
theorem w_alone : about1.alone = true := by decide +kernel
set_option maxRecDepth 65536 in
theorem w_named : about1.methodNamed? x = some theMethod := by decide +kernel
set_option maxRecDepth 65536 in
theorem w_hears : about1.hears theMethod below0 = true := by decide +kernel
set_option maxRecDepth 65536 in
theorem w_ripe : about1.ripe theMethod args0 below0 = true := by decide +kernel
theorem w_running : about1.status = .running := rfl
set_option maxRecDepth 65536 in
theorem w_room : about1.hasRoom e0.platform room_1 = true :=
  launch0.hasRoom_least _ room_1 (by decide +kernel) (by decide +kernel) (by decide +kernel) (by decide +kernel) (by decide +kernel) (by decide +kernel)
theorem allAtoms_all (ts : List Jvm.Cond) (a : Array Jvm.Value) (st : Jvm.State) : (allAtoms ts).before a st = ts.all (fun c => c.before a st) := by
  induction ts with
  | nil => rfl
  | cons c t ih =>
    show (Jvm.Cond.and c (allAtoms t)).before a st = _
    rw [Jvm.Cond.before_and, ih, List.all_cons]
def words1 : List Jvm.Cond := Jvm.Cond.code x code maxLocals ret :: tables_1
/-- a 'code' word, met by the world's own term for the bytes: nothing is compared byte by byte -/
theorem code_word {y : MethodName} {bytes : ByteArray} {mx : Nat} {rt : Option FieldType} {a : Array Value} {s : State} {m : MethodId} {meth : Method} {c : Code} (h1 : s.methodNamed? y = some m) (h2 : s.vm.method? m = some meth) (h3 : meth.code = some c) (h4 : c.code = bytes)
    (h5 : (c.maxLocals == mx && c.exceptionTable.isEmpty && decide (c.maxStack ≤ mostOperands) && decide (meth.sig.returnType = rt) && !meth.locks && decide (parseMethodDescriptor y.desc = some meth.sig)) = true) : (Jvm.Cond.code y bytes mx rt).before a s = true := by
  simp only [Bool.and_eq_true, beq_iff_eq, Bool.not_eq_true', decide_eq_true_eq] at h5
  obtain ⟨⟨⟨⟨⟨g1, g2⟩, g3⟩, g4⟩, g5⟩, g6⟩ := h5
  simp [Cond.before, Cond.holds, Cond.value, h1, h2, h3, h4, g1, g2, g3, g4, g5, g6]
def isCode : Jvm.Cond → Bool
  | .code _ _ _ _ => true
  | _ => false
theorem all_split {L : List Jvm.Cond} {P : Jvm.Cond → Bool} (h1 : L.all (fun c => isCode c || P c) = true) (h2 : ∀ c ∈ L.filter isCode, P c = true) : L.all P = true := by
  refine List.all_eq_true.mpr fun c hc => ?_
  have h := List.all_eq_true.mp h1 c hc
  rcases Bool.eq_false_or_eq_true (isCode c) with hi | hi
  · exact h2 c (List.mem_filter.mpr ⟨hc, hi⟩)
  · simpa [hi] using h
set_option maxRecDepth 65536 in
theorem w_c0 : (Jvm.Cond.code x code maxLocals ret).before args0 about1 = true := code_word (m := ⟨1, 1⟩) (meth := k1m1) (c := k1c1) (by decide +kernel) rfl rfl rfl (by decide +kernel)
set_option maxRecDepth 65536 in
theorem w_c1 : (Jvm.Cond.code ({ cls := "java/lang/String", name := "valueOf", desc := "(C)Ljava/lang/String;" } : Jvm.MethodName) jdk_42_method_139_code (1 : Nat) (Option.some (Jvm.ClassFile.FieldType.object "java/lang/String"))).before args0 about1 = true := code_word (m := ⟨9, 1⟩) (meth := k9m1) (c := k9c1) (by decide +kernel) rfl rfl rfl (by decide +kernel)
set_option maxRecDepth 65536 in
theorem w_c2 : (Jvm.Cond.code ({ cls := "java/lang/StringLatin1", name := "canEncode", desc := "(C)Z" } : Jvm.MethodName) jdk_43_method_3_code (1 : Nat) (Option.some Jvm.ClassFile.FieldType.boolean)).before args0 about1 = true := code_word (m := ⟨10, 1⟩) (meth := k10m1) (c := k10c1) (by decide +kernel) rfl rfl rfl (by decide +kernel)
set_option maxRecDepth 65536 in
theorem w_c3 : (Jvm.Cond.code ({ cls := "java/lang/StringLatin1", name := "toBytes", desc := "(C)[B" } : Jvm.MethodName) jdk_43_method_46_code (1 : Nat) (Option.some (Jvm.ClassFile.FieldType.array Jvm.ClassFile.FieldType.byte))).before args0 about1 = true := code_word (m := ⟨10, 2⟩) (meth := k10m2) (c := k10c2) (by decide +kernel) rfl rfl rfl (by decide +kernel)
set_option maxRecDepth 65536 in
theorem w_c4 : (Jvm.Cond.code ({ cls := "java/lang/String", name := "<init>", desc := "([BB)V" } : Jvm.MethodName) jdk_42_method_151_code (3 : Nat) (Option.none : Option Jvm.ClassFile.FieldType)).before args0 about1 = true := code_word (m := ⟨9, 2⟩) (meth := k9m2) (c := k9c2) (by decide +kernel) rfl rfl rfl (by decide +kernel)
set_option maxRecDepth 65536 in
theorem w_c5 : (Jvm.Cond.code ({ cls := "java/lang/Object", name := "<init>", desc := "()V" } : Jvm.MethodName) object_method_1_code (1 : Nat) (Option.none : Option Jvm.ClassFile.FieldType)).before args0 about1 = true := code_word (m := ⟨0, 0⟩) (meth := k0m0) (c := k0c0) (by decide +kernel) rfl rfl rfl (by decide +kernel)
set_option maxRecDepth 65536 in
theorem w_c6 : (Jvm.Cond.code ({ cls := "com/example/fuxi/fuxi/dialect/DatabaseColumn", name := "<init>", desc := "(ILjava/lang/String;II)V" } : Jvm.MethodName) prog_3_method_1_code (5 : Nat) (Option.none : Option Jvm.ClassFile.FieldType)).before args0 about1 = true := code_word (m := ⟨3, 0⟩) (meth := k3m0) (c := k3c0) (by decide +kernel) rfl rfl rfl (by decide +kernel)
set_option maxRecDepth 65536 in
theorem w_c7 : (Jvm.Cond.code ({ cls := "java/lang/Record", name := "<init>", desc := "()V" } : Jvm.MethodName) jdk_30_method_1_code (1 : Nat) (Option.none : Option Jvm.ClassFile.FieldType)).before args0 about1 = true := code_word (m := ⟨2, 0⟩) (meth := k2m0) (c := k2c0) (by decide +kernel) rfl rfl rfl (by decide +kernel)
set_option maxRecDepth 65536 in
theorem w_c8 : (Jvm.Cond.code ({ cls := "com/example/fuxi/fuxi/dialect/DatabaseColumn", name := "isCharacter", desc := "()Z" } : Jvm.MethodName) prog_3_method_2_code (1 : Nat) (Option.some Jvm.ClassFile.FieldType.boolean)).before args0 about1 = true := code_word (m := ⟨3, 1⟩) (meth := k3m1) (c := k3c1) (by decide +kernel) rfl rfl rfl (by decide +kernel)
def codes1 : List Jvm.Cond := [Jvm.Cond.code x code maxLocals ret, Jvm.Cond.code ({ cls := "java/lang/String", name := "valueOf", desc := "(C)Ljava/lang/String;" } : Jvm.MethodName) jdk_42_method_139_code (1 : Nat) (Option.some (Jvm.ClassFile.FieldType.object "java/lang/String")), Jvm.Cond.code ({ cls := "java/lang/StringLatin1", name := "canEncode", desc := "(C)Z" } : Jvm.MethodName) jdk_43_method_3_code (1 : Nat) (Option.some Jvm.ClassFile.FieldType.boolean), Jvm.Cond.code ({ cls := "java/lang/StringLatin1", name := "toBytes", desc := "(C)[B" } : Jvm.MethodName) jdk_43_method_46_code (1 : Nat) (Option.some (Jvm.ClassFile.FieldType.array Jvm.ClassFile.FieldType.byte)), Jvm.Cond.code ({ cls := "java/lang/String", name := "<init>", desc := "([BB)V" } : Jvm.MethodName) jdk_42_method_151_code (3 : Nat) (Option.none : Option Jvm.ClassFile.FieldType), Jvm.Cond.code ({ cls := "java/lang/Object", name := "<init>", desc := "()V" } : Jvm.MethodName) object_method_1_code (1 : Nat) (Option.none : Option Jvm.ClassFile.FieldType), Jvm.Cond.code ({ cls := "com/example/fuxi/fuxi/dialect/DatabaseColumn", name := "<init>", desc := "(ILjava/lang/String;II)V" } : Jvm.MethodName) prog_3_method_1_code (5 : Nat) (Option.none : Option Jvm.ClassFile.FieldType), Jvm.Cond.code ({ cls := "java/lang/Record", name := "<init>", desc := "()V" } : Jvm.MethodName) jdk_30_method_1_code (1 : Nat) (Option.none : Option Jvm.ClassFile.FieldType), Jvm.Cond.code ({ cls := "com/example/fuxi/fuxi/dialect/DatabaseColumn", name := "isCharacter", desc := "()Z" } : Jvm.MethodName) prog_3_method_2_code (1 : Nat) (Option.some Jvm.ClassFile.FieldType.boolean)]
set_option maxRecDepth 65536 in
theorem codes_eq : words1.filter isCode = codes1 := rfl
theorem w_codes : ∀ c ∈ words1.filter isCode, c.before args0 about1 = true := by
  rw [codes_eq]
  intro c hc
  simp only [codes1, List.mem_cons, List.not_mem_nil, or_false] at hc
  rcases hc with rfl | rfl | rfl | rfl | rfl | rfl | rfl | rfl | rfl
  · exact w_c0
  · exact w_c1
  · exact w_c2
  · exact w_c3
  · exact w_c4
  · exact w_c5
  · exact w_c6
  · exact w_c7
  · exact w_c8
set_option maxRecDepth 65536 in
theorem w_t1 : (words1.take 24).all (fun c => isCode c || c.before args0 about1) = true := by decide +kernel
set_option maxRecDepth 65536 in
theorem w_t2 : ((words1.drop 24).take 24).all (fun c => isCode c || c.before args0 about1) = true := by decide +kernel
set_option maxRecDepth 65536 in
theorem w_t3 : ((words1.drop 24).drop 24).all (fun c => isCode c || c.before args0 about1) = true := by decide +kernel
theorem w_tables : (allAtoms (Jvm.Cond.code x code maxLocals ret :: tables_1)).before args0 about1 = true := by
  rw [allAtoms_all]
  show words1.all (fun c => c.before args0 about1) = true
  refine all_split ?_ w_codes
  rw [← List.take_append_drop 24 words1, List.all_append, w_t1, ← List.take_append_drop 24 (words1.drop 24), List.all_append, w_t2, w_t3]
  rfl
set_option maxRecDepth 65536 in
theorem w_rest : rest_1_c.before args0 about1 = true := by decide +kernel
set_option maxRecDepth 65536 in
theorem w_case : (Jvm.Cond.and given_1 narrow_1).before args0 about1 = true := by decide +kernel
theorem w_applies : (headSpec (Jvm.Cond.code x code maxLocals ret :: tables_1) room_1).applies x e0.platform about1 = true :=
  (Spec.applies_iff w_frames).mpr ⟨w_running, w_runnable, w_alone, w_named, w_hears, w_ripe, w_room, w_tables⟩
theorem atStart : AtStart classFile x code maxLocals ret World_1 tables_1 room_1 Calls_1 rest_1 Pre_1 launch0 p0 e0 about1 theMethod args0 below0 :=
  ⟨lists_1, trivial, launch0.admits_env _ _ _, launch0.least_env, fairChoices_fair.cas, fairChoices_fair.clock, w_frames, w_args, w_heap, w_applies, trivial, w_rest, w_case⟩
end start1
theorem witness_1 : WitnessClaimed_1 := ⟨start1.p0, start1.e0, start1.about1, start1.theMethod, start1.args0, start1.below0, start1.atStart⟩
end Jvm.Pilot.@@N@@
