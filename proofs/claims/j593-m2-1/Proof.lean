import JvmDerived
import JvmDerived.Pilot.@@N@@Statement
import JvmDerived.Pilot.@@N@@Code
set_option linter.unusedVariables false
set_option linter.unusedSimpArgs false
@@BLOCK:NumsL.lean.txt@@
namespace Jvm.RoadKit
open Sem ClassFile Op Lib Jvm.Stand Jvm.Free Jvm.LawKit
section New
variable {p : Program} {l : Launch} {e : Env} {R : Room} {s : State} {m : MethodId} {args : Array Value} {below : List Frame} {meth : Method} {c : Code} {T : State} {locs : List Loc} {cells slots : Nat}
theorem retI (X : Stand p l e R s m args below meth c T locs cells slots) (hx : p.tables.exec = Jvm.exec) {pc : Nat} {Ls : Array Slot} {z : Int32} {rest : List Value} (hret : meth.sig.returnType = some .int) (hd : decode c.code pc = .ok (.ireturn, 1)) {fs : List Frame}
    (hl : ∀ (f : JFrame) (acts : List Action), f.method = m → f.locked = none → f.entered = [] → (doReturn e (T.setTop f) acts (some (.int z))).1 = T.setFrames fs) : Steps p.tables e below (T.setTop (mkF m pc Ls (.int z :: rest))) (T.setFrames fs) := by
  have hm' : T.vm.method? m = some meth := X.method'
  have hn : narrow .int (.int z) = .int z := rfl
  show Steps p.tables e below (T.setTop { method := m, pc := pc, locals := Ls, stack := _ :: rest, locked := none }) _
  jvm_step X.here [X.here.top, hx, hd, hm', hret, hn]
  first | (intro acts; rw [hl _ acts rfl rfl rfl]) | rw [hl _ _ rfl rfl rfl]
  exact Steps.refl _
end New
end Jvm.RoadKit
namespace Jvm.Pilot.@@N@@
open Jvm Jvm.ClassFile Sem Op Lib Jvm.Free Jvm.Stand Jvm.LawKit Jvm.RoadKit Bundle Jvm.Pilot.@@N@@.Jvm.D
section Own
variable {p : Program} {l : Launch} {e : Env} {R : Room} {s : State} {m : MethodId} {args : Array Value} {below : List Frame} {meth : Method} {c : Code} {T : State} {locs : List Loc} {cells slots : Nat}
/-- from U the run comes to an end that Q allows -/
def own_Go (p : Program) (e : Env) (below : List Frame) (s : State) (kc ks : Nat) (Q : Option Value → Heap → List Loc → Prop) (U : State) : Prop :=
  ∃ s₂ o, Steps p.tables e below U s₂ ∧ s₂.status = .running ∧ Ended s₂ below o ∧ ∃ v L, o = .returned v ∧ Q v s₂.heap L ∧ FrameEnd s o s₂ L kc ks
theorem own_step {kc ks : Nat} {Q : Option Value → Heap → List Loc → Prop} {U U' : State} (k : ∀ t, Steps p.tables e below U' t → Steps p.tables e below U t) (g : own_Go p e below s kc ks Q U') : own_Go p e below s kc ks Q U := by
  obtain ⟨s₂, o, h, r⟩ := g
  exact ⟨s₂, o, k _ h, r⟩
theorem own_ret {kc ks : Nat} {Q : Option Value → Heap → List Loc → Prop} {U : State} (X : Stand p l e R s m args below meth c T locs cells slots) {v : Option Value} (hv : meth.sig.returnType = none → v = none) (hlocks : meth.locks = false) (hk : cells ≤ kc) (hs : slots ≤ ks) (hq : Q v T.heap locs)
    (k : ∀ fs, (∀ (f : JFrame) (acts : List Action), f.method = m → f.locked = none → f.entered = [] → (doReturn e (T.setTop f) acts v).1 = T.setFrames fs) → Steps p.tables e below U (T.setFrames fs)) : own_Go p e below s kc ks Q U := by
  obtain ⟨fs, hr, hrun, hended, hW, hsame⟩ := X.leave (v := v) hv hlocks
  exact ⟨_, _, k fs hr, hrun, hended, v, locs, rfl, hq, ⟨_, rfl⟩, hW, hsame.mono hk hs⟩
def own_GoW (p : Program) (e : Env) (below : List Frame) (s : State) (kc ks : Nat) (Q : Option Value → Heap → List Loc → Prop) (U : State) : Prop :=
  ∃ s₂ o, Steps p.tables e below U s₂ ∧ s₂.status = .running ∧ Ended s₂ below o ∧ ∃ v L, o = .returned v ∧ Q v s₂.heap L ∧ ReturnedEndW s o s₂ L kc ks
theorem own_stepW {kc ks : Nat} {Q : Option Value → Heap → List Loc → Prop} {U U' : State} (k : ∀ t, Steps p.tables e below U' t → Steps p.tables e below U t) (g : own_GoW p e below s kc ks Q U') : own_GoW p e below s kc ks Q U := by
  obtain ⟨s₂, o, h, r⟩ := g
  exact ⟨s₂, o, k _ h, r⟩
theorem own_retW {kc ks : Nat} {Q : Option Value → Heap → List Loc → Prop} {U : State} {vm₁ : Vm} {n : Nat} (X : Stand p l e R (s.setVm vm₁) m args below meth c T locs cells slots) (hS : s.Since vm₁ n) (hn : n ≤ T.heap.size) {v : Option Value} (hv : meth.sig.returnType = none → v = none) (hlocks : meth.locks = false) (hk : cells ≤ kc) (hs : slots ≤ ks) (hq : Q v T.heap locs)
    (k : ∀ fs, (∀ (f : JFrame) (acts : List Action), f.method = m → f.locked = none → f.entered = [] → (doReturn e (T.setTop f) acts v).1 = T.setFrames fs) → Steps p.tables e below U (T.setFrames fs)) : own_GoW p e below s kc ks Q U := by
  obtain ⟨fs, hr, hrun, hended, h1, h2, h3, h4⟩ := X.leaveW hS hn (v := v) hv hlocks
  exact ⟨_, _, k fs hr, hrun, hended, v, locs, rfl, hq, h1, h2, h3, h4.mono hk hs⟩
theorem own_narR {t : FieldType} {v : Value} (h : v.isRef = true) : narrow t v = v := by cases v <;> first | (cases h; done) | (cases t <;> rfl)
theorem own_fitR {t : String} {v : Value} (h : v.isRef = true) : fits (.object t) v = true := by cases v <;> first | (cases h; done) | rfl
theorem own_at {h : Heap} {a : Addr} {k : Cell} (e : T.heap = h) (q : h[a]? = some k) : T.heap[a]? = some k := e ▸ q
theorem own_pl0 {h : Heap} : ∀ a ∈ ([] : List Addr), ∀ c : Cell, h[a]? = some c → c.vm.isStatics = false := fun _ q => nomatch q
theorem own_plE {Z : State} {h : Heap} {a : Addr} {C : String} {ws : List Addr} (E : Exa Z h a C) (r : ∀ x ∈ ws, ∀ c : Cell, h[x]? = some c → c.vm.isStatics = false) : ∀ x ∈ a :: ws, ∀ c : Cell, h[x]? = some c → c.vm.isStatics = false := fun x hx c hc => by
  rcases List.mem_cons.mp hx with rfl | q
  · obtain ⟨cell, k, h1, -, -, h4, -⟩ := E
    cases h1.symm.trans hc; exact h4
  · exact r x q c hc
theorem own_plF {Z : State} {h : Heap} {a : Addr} {C n d : String} {v : Value} {ws : List Addr} (E : Fld Z h a C n d v) (r : ∀ x ∈ ws, ∀ c : Cell, h[x]? = some c → c.vm.isStatics = false) : ∀ x ∈ a :: ws, ∀ c : Cell, h[x]? = some c → c.vm.isStatics = false := fun x hx c hc => by
  rcases List.mem_cons.mp hx with rfl | q
  · exact old_plain E c hc
  · exact r x q c hc
theorem own_plV {Z : State} {h : Heap} {a : Addr} {k : ClassId} {ty : FieldType} {z : Int32} {vs : List Value} {d : Value} {ws : List Addr} (E : Arv Z h a k ty z vs d) (r : ∀ x ∈ ws, ∀ c : Cell, h[x]? = some c → c.vm.isStatics = false) : ∀ x ∈ a :: ws, ∀ c : Cell, h[x]? = some c → c.vm.isStatics = false := fun x hx c hc => by
  rcases List.mem_cons.mp hx with rfl | q
  · obtain ⟨cl, A, -⟩ := E
    cases A.1.symm.trans hc; exact A.plain
  · exact r x q c hc
theorem own_sta_keep {Z : State} {h h' : Heap} {C n d : String} {w : Value} {ws : List Addr} (F : Sta Z h C n d w) (K : Keep h h' ws) (r : ∀ x ∈ ws, ∀ c : Cell, h[x]? = some c → c.vm.isStatics = false) : Sta Z h' C n d w := by
  obtain ⟨cf, i, k, f, st, cell, h1, h2, h3, h4, h5, h6, h7⟩ := F
  exact ⟨cf, i, k, f, st, cell, h1, h2, h3, h4, K.2.1 st cell h5 (fun q => by rw [r st q cell h5] at h6; cases h6), h6, h7⟩
end Own
theorem own_and3 (x : Int32) : 0 ≤ (x &&& 3).toInt ∧ (x &&& 3).toInt < 4 := by
  have := Jvm.Kit.i32_mask x 3 (k := 2) (by decide) (by decide)
  omega
theorem own_four {x n : Int32} (h : x &&& 3 = n) : n = 0 ∨ n = 1 ∨ n = 2 ∨ n = 3 := by
  have h1 := own_and3 x
  rw [h] at h1
  have e0 : (0 : Int32).toInt = 0 := rfl
  have e1 : (1 : Int32).toInt = 1 := rfl
  have e2 : (2 : Int32).toInt = 2 := rfl
  have e3 : (3 : Int32).toInt = 3 := rfl
  simp only [← Int32.toInt_inj]
  omega
theorem own_pn0 : plainName "com/example/feuillet/feuillet/Node" = true := by first | (simp [plainName, overriddenIn]; done) | decide +kernel
theorem own_d3_0 : decode prog_86_method_1_code 0 = .ok (.aload_n 0, 1) := by decide +kernel
theorem own_d3_1 : decode prog_86_method_1_code 1 = .ok (.invokespecial 1, 3) := by decide +kernel
theorem own_d3_4 : decode prog_86_method_1_code 4 = .ok (.return_, 1) := by decide +kernel
def own_Q_ni (Z : State) (a1 : Addr) (h0 : Heap) (n0 : Nat) (v : Option Value) (h : Heap) (L : List Loc) : Prop := v = none ∧ Fr n0 L ∧ h = h0
set_option maxRecDepth 65536 in
set_option maxHeartbeats 40000000 in
theorem own_m_ni (l : Launch) (Z : State) (a0 : Array Value) (hw : ∀ d ∈ tables_1, d.before a0 Z = true) (ws : List Jvm.Cond) (a1 : Addr) (h0 : Heap) (n0 : Nat) (Z0 : n0 ≤ h0.size)  :
    MetFree l (⟨"com/example/feuillet/feuillet/Node", "<init>", "()V"⟩ : MethodName) (head1 (Jvm.Cond.code (⟨"com/example/feuillet/feuillet/Node", "<init>", "()V"⟩ : MethodName) prog_86_method_1_code 1 none :: ws) ({ frames := 1, cells := 0, slots := 0, locals := 12 } : Room)) (fun a U => a = #[(.ref a1)] ∧ Z.Warmed39 U.vm ∧ U.heap = h0) (fun _ _ _ _ _ => True) (fun _ U o U' => ∃ v L, o = .returned v ∧ own_Q_ni Z a1 h0 n0 v U'.heap L ∧ FrameEnd U o U' L ({ frames := 1, cells := 0, slots := 0, locals := 12 } : Room).cells ({ frames := 1, cells := 0, slots := 0, locals := 12 } : Room).slots) := by
  refine MetFree.of_bodySF (plainFor_of_name own_pn0) hisR ?_
  intro p e s m args below meth c s₁ Bd hml0 hP hK
  obtain ⟨rfl, hZ, hh⟩ := hP
  have hx := Bd.exec
  have hby := Bd.bytes
  have hml : c.maxLocals = 1 := hml0
  have hown : s.vm.findClass "com/example/feuillet/feuillet/Node" = some m.cls := findClass_of_methodNamed Bd.named
  have hnm := (name_of_methodNamed Bd.named Bd.method).1
  have X0 : Stand p l e ({ frames := 1, cells := 0, slots := 0, locals := 12 } : Room) s m #[(.ref a1)] below meth c s₁ [] 0 0 := Stand.of_body Bd
  have e0 : s₁.heap = h0 := by rw [← hh, Bd.state]; rfl
  have N0 := Fr.nil n0
  have K0 : Keep h0 h0 [] := Keep.refl _ _
  show own_Go p e below s ({ frames := 1, cells := 0, slots := 0, locals := 12 } : Room).cells ({ frames := 1, cells := 0, slots := 0, locals := 12 } : Room).slots (own_Q_ni Z a1 h0 n0) (s₁.setTop (entryFrame m #[(.ref a1)] 1))
  have ef : entryFrame m #[(.ref a1)] 1 = (mkF m 0 #[.val (.ref a1)] []) := by first | rfl | (simp [entryFrame, mkF, argsToLocals, Value.category, maxLocals]; done)
  rw [ef]
  show own_Go p e below s _ _ _ (s₁.setTop (mkF m 0 #[.val (.ref a1)] []))
  refine own_step (U' := (s₁.setTop (mkF m 1 #[.val (.ref a1)] [(.ref a1)]))) (fun t ht => XS.aloadN X0.here hx rfl (hb hby own_d3_0) rfl rfl ht) ?_
  obtain ⟨T1, X1, e1, st1⟩ := initO X0 hx hZ hown (hw _ (List.mem_of_getElem? (i := 16) rfl)) (hw _ (List.mem_of_getElem? (i := 17) rfl)) (hw _ (List.mem_of_getElem? (i := 18) rfl)) e0 (g := (mkF m 1 #[.val (.ref a1)] [(.ref a1)])) rfl (by rw [hml]; rfl) rfl (hb hby own_d3_1) (by decide) (W := 0) (by show 2 * 0 + _ ≤ _; exact Nat.le_of_eq rfl) (by decide)
  refine own_step (U' := (T1.setTop (mkF m 4 #[.val (.ref a1)] []))) (fun t ht => st1 _ ht) ?_
  refine own_ret X1 (v := none) (fun _ => rfl) Bd.notSynchronized (by decide) (by decide) ?_ (fun fs hr => X1.returnOut hx Bd.returns (hb hby own_d3_4) hr)
  show own_Q_ni Z a1 h0 n0 _ T1.heap _
  rw [e1]
  exact ⟨rfl, N0, rfl⟩
theorem own_pn1 : plainName "com/example/feuillet/feuillet/Node$Parent" = true := by first | (simp [plainName, overriddenIn]; done) | decide +kernel
theorem own_pd0 : parseMethodDescriptor "()V" = some ⟨[], none⟩ := by decide +kernel
theorem own_d2_0 : decode prog_87_method_1_code 0 = .ok (.aload_n 0, 1) := by decide +kernel
theorem own_d2_1 : decode prog_87_method_1_code 1 = .ok (.invokespecial 1, 3) := by decide +kernel
theorem own_d2_4 : decode prog_87_method_1_code 4 = .ok (.return_, 1) := by decide +kernel
def own_Q_pri (Z : State) (a1 : Addr) (h0 : Heap) (n0 : Nat) (v : Option Value) (h : Heap) (L : List Loc) : Prop := v = none ∧ Fr n0 L ∧ h = h0
set_option maxRecDepth 65536 in
set_option maxHeartbeats 40000000 in
theorem own_m_pri (l : Launch) (Z : State) (a0 : Array Value) (hw : ∀ d ∈ tables_1, d.before a0 Z = true) (ws : List Jvm.Cond) (a1 : Addr) (h0 : Heap) (n0 : Nat) (Z0 : n0 ≤ h0.size)  :
    MetFree l (⟨"com/example/feuillet/feuillet/Node$Parent", "<init>", "()V"⟩ : MethodName) (head1 (Jvm.Cond.code (⟨"com/example/feuillet/feuillet/Node$Parent", "<init>", "()V"⟩ : MethodName) prog_87_method_1_code 1 none :: ws) ({ frames := 2, cells := 0, slots := 0, locals := 24 } : Room)) (fun a U => a = #[(.ref a1)] ∧ Z.Warmed39 U.vm ∧ U.heap = h0) (fun _ _ _ _ _ => True) (fun _ U o U' => ∃ v L, o = .returned v ∧ own_Q_pri Z a1 h0 n0 v U'.heap L ∧ FrameEnd U o U' L ({ frames := 2, cells := 0, slots := 0, locals := 24 } : Room).cells ({ frames := 2, cells := 0, slots := 0, locals := 24 } : Room).slots) := by
  refine MetFree.of_bodySF (plainFor_of_name own_pn1) hisR ?_
  intro p e s m args below meth c s₁ Bd hml0 hP hK
  obtain ⟨rfl, hZ, hh⟩ := hP
  have hx := Bd.exec
  have hby := Bd.bytes
  have hml : c.maxLocals = 1 := hml0
  have hown : s.vm.findClass "com/example/feuillet/feuillet/Node$Parent" = some m.cls := findClass_of_methodNamed Bd.named
  have hnm := (name_of_methodNamed Bd.named Bd.method).1
  have X0 : Stand p l e ({ frames := 2, cells := 0, slots := 0, locals := 24 } : Room) s m #[(.ref a1)] below meth c s₁ [] 0 0 := Stand.of_body Bd
  have e0 : s₁.heap = h0 := by rw [← hh, Bd.state]; rfl
  have N0 := Fr.nil n0
  have K0 : Keep h0 h0 [] := Keep.refl _ _
  show own_Go p e below s ({ frames := 2, cells := 0, slots := 0, locals := 24 } : Room).cells ({ frames := 2, cells := 0, slots := 0, locals := 24 } : Room).slots (own_Q_pri Z a1 h0 n0) (s₁.setTop (entryFrame m #[(.ref a1)] 1))
  have ef : entryFrame m #[(.ref a1)] 1 = (mkF m 0 #[.val (.ref a1)] []) := by first | rfl | (simp [entryFrame, mkF, argsToLocals, Value.category, maxLocals]; done)
  rw [ef]
  show own_Go p e below s _ _ _ (s₁.setTop (mkF m 0 #[.val (.ref a1)] []))
  refine own_step (U' := (s₁.setTop (mkF m 1 #[.val (.ref a1)] [(.ref a1)]))) (fun t ht => XS.aloadN X0.here hx rfl (hb hby own_d2_0) rfl rfl ht) ?_
  obtain ⟨_, _, ⟨T2, L2, k2, n2⟩, -, X2, ⟨Lc2, hQ2, l2, y2, z2⟩, st2⟩ := X0.specialBack hx (y := (⟨"com/example/feuillet/feuillet/Node", "<init>", "()V"⟩ : MethodName)) rfl hown (mvT hZ (hw _ (List.mem_of_getElem? (i := 11) rfl))) (mvT hZ (hw _ (List.mem_of_getElem? (i := 12) rfl))) (mvT hZ (hw _ (List.mem_of_getElem? (i := 15) rfl))) (by decide) (backOf (W := 0) (own_m_ni l Z a0 hw [] (a1) h0 n0 Z0 ) hZ (hw _ (List.mem_of_getElem? (i := 15) rfl)) (hw _ (List.mem_of_getElem? (i := 14) rfl)) (by decide) (by decide)) (g := (mkF m 1 #[.val (.ref a1)] [(.ref a1)])) rfl (by rw [hml]; rfl) (Steps.refl _) (a := a1) (argsL := []) (rest := []) (lenOf own_pd0 rfl) rfl (by show 2 * 0 + _ ≤ _; exact Nat.le_of_eq rfl) (hb hby own_d2_1) (fun _ _ => ⟨rfl, e0, (by decide : 0 + 0 ≤ _), (by decide : 0 + 0 ≤ _)⟩)
  dsimp only [Pt.U, Pt.locs, Pt.cells, Pt.slots] at X2 l2 y2 z2 st2 hQ2
  subst l2 y2 z2
  obtain ⟨rfl, Nq2, Kq2⟩ := hQ2
  have N2 := Fr.app N0 Nq2
  have e2 : T2.heap = h0 := Kq2
  refine own_step (U' := (T2.setTop (mkF m 4 #[.val (.ref a1)] []))) (fun t ht => st2.trans ht) ?_
  refine own_ret X2 (v := none) (fun _ => rfl) Bd.notSynchronized (by decide) (by decide) ?_ (fun fs hr => X2.returnOut hx Bd.returns (hb hby own_d2_4) hr)
  show own_Q_pri Z a1 h0 n0 _ T2.heap _
  rw [e2]
  exact ⟨rfl, N2, rfl⟩
theorem own_pn2 : plainName "com/example/feuillet/feuillet/Document" = true := by first | (simp [plainName, overriddenIn]; done) | decide +kernel
theorem own_d1_0 : decode prog_30_method_1_code 0 = .ok (.aload_n 0, 1) := by decide +kernel
theorem own_d1_1 : decode prog_30_method_1_code 1 = .ok (.invokespecial 1, 3) := by decide +kernel
theorem own_d1_4 : decode prog_30_method_1_code 4 = .ok (.return_, 1) := by decide +kernel
def own_Q_doi (Z : State) (a1 : Addr) (h0 : Heap) (n0 : Nat) (v : Option Value) (h : Heap) (L : List Loc) : Prop := v = none ∧ Fr n0 L ∧ h = h0
set_option maxRecDepth 65536 in
set_option maxHeartbeats 40000000 in
theorem own_m_doi (l : Launch) (Z : State) (a0 : Array Value) (hw : ∀ d ∈ tables_1, d.before a0 Z = true) (ws : List Jvm.Cond) (a1 : Addr) (h0 : Heap) (n0 : Nat) (Z0 : n0 ≤ h0.size)  :
    MetFree l (⟨"com/example/feuillet/feuillet/Document", "<init>", "()V"⟩ : MethodName) (head1 (Jvm.Cond.code (⟨"com/example/feuillet/feuillet/Document", "<init>", "()V"⟩ : MethodName) prog_30_method_1_code 1 none :: ws) ({ frames := 3, cells := 0, slots := 0, locals := 36 } : Room)) (fun a U => a = #[(.ref a1)] ∧ Z.Warmed39 U.vm ∧ U.heap = h0) (fun _ _ _ _ _ => True) (fun _ U o U' => ∃ v L, o = .returned v ∧ own_Q_doi Z a1 h0 n0 v U'.heap L ∧ FrameEnd U o U' L ({ frames := 3, cells := 0, slots := 0, locals := 36 } : Room).cells ({ frames := 3, cells := 0, slots := 0, locals := 36 } : Room).slots) := by
  refine MetFree.of_bodySF (plainFor_of_name own_pn2) hisR ?_
  intro p e s m args below meth c s₁ Bd hml0 hP hK
  obtain ⟨rfl, hZ, hh⟩ := hP
  have hx := Bd.exec
  have hby := Bd.bytes
  have hml : c.maxLocals = 1 := hml0
  have hown : s.vm.findClass "com/example/feuillet/feuillet/Document" = some m.cls := findClass_of_methodNamed Bd.named
  have hnm := (name_of_methodNamed Bd.named Bd.method).1
  have X0 : Stand p l e ({ frames := 3, cells := 0, slots := 0, locals := 36 } : Room) s m #[(.ref a1)] below meth c s₁ [] 0 0 := Stand.of_body Bd
  have e0 : s₁.heap = h0 := by rw [← hh, Bd.state]; rfl
  have N0 := Fr.nil n0
  have K0 : Keep h0 h0 [] := Keep.refl _ _
  show own_Go p e below s ({ frames := 3, cells := 0, slots := 0, locals := 36 } : Room).cells ({ frames := 3, cells := 0, slots := 0, locals := 36 } : Room).slots (own_Q_doi Z a1 h0 n0) (s₁.setTop (entryFrame m #[(.ref a1)] 1))
  have ef : entryFrame m #[(.ref a1)] 1 = (mkF m 0 #[.val (.ref a1)] []) := by first | rfl | (simp [entryFrame, mkF, argsToLocals, Value.category, maxLocals]; done)
  rw [ef]
  show own_Go p e below s _ _ _ (s₁.setTop (mkF m 0 #[.val (.ref a1)] []))
  refine own_step (U' := (s₁.setTop (mkF m 1 #[.val (.ref a1)] [(.ref a1)]))) (fun t ht => XS.aloadN X0.here hx rfl (hb hby own_d1_0) rfl rfl ht) ?_
  obtain ⟨_, _, ⟨T3, L3, k3, n3⟩, -, X3, ⟨Lc3, hQ3, l3, y3, z3⟩, st3⟩ := X0.specialBack hx (y := (⟨"com/example/feuillet/feuillet/Node$Parent", "<init>", "()V"⟩ : MethodName)) rfl hown (mvT hZ (hw _ (List.mem_of_getElem? (i := 6) rfl))) (mvT hZ (hw _ (List.mem_of_getElem? (i := 7) rfl))) (mvT hZ (hw _ (List.mem_of_getElem? (i := 10) rfl))) (by decide) (backOf (W := 0) (own_m_pri l Z a0 hw [] (a1) h0 n0 Z0 ) hZ (hw _ (List.mem_of_getElem? (i := 10) rfl)) (hw _ (List.mem_of_getElem? (i := 9) rfl)) (by decide) (by decide)) (g := (mkF m 1 #[.val (.ref a1)] [(.ref a1)])) rfl (by rw [hml]; rfl) (Steps.refl _) (a := a1) (argsL := []) (rest := []) (lenOf own_pd0 rfl) rfl (by show 2 * 0 + _ ≤ _; exact Nat.le_of_eq rfl) (hb hby own_d1_1) (fun _ _ => ⟨rfl, e0, (by decide : 0 + 0 ≤ _), (by decide : 0 + 0 ≤ _)⟩)
  dsimp only [Pt.U, Pt.locs, Pt.cells, Pt.slots] at X3 l3 y3 z3 st3 hQ3
  subst l3 y3 z3
  obtain ⟨rfl, Nq3, Kq3⟩ := hQ3
  have N3 := Fr.app N0 Nq3
  have e3 : T3.heap = h0 := Kq3
  refine own_step (U' := (T3.setTop (mkF m 4 #[.val (.ref a1)] []))) (fun t ht => st3.trans ht) ?_
  refine own_ret X3 (v := none) (fun _ => rfl) Bd.notSynchronized (by decide) (by decide) ?_ (fun fs hr => X3.returnOut hx Bd.returns (hb hby own_d1_4) hr)
  show own_Q_doi Z a1 h0 n0 _ T3.heap _
  rw [e3]
  exact ⟨rfl, N3, rfl⟩
theorem own_pn3 : plainName "com/example/feuillet/feuillet/ProcessingInstruction" = true := by first | (simp [plainName, overriddenIn]; done) | decide +kernel
theorem own_d5_0 : decode prog_91_method_1_code 0 = .ok (.aload_n 0, 1) := by decide +kernel
theorem own_d5_1 : decode prog_91_method_1_code 1 = .ok (.invokespecial 1, 3) := by decide +kernel
theorem own_d5_4 : decode prog_91_method_1_code 4 = .ok (.aload_n 0, 1) := by decide +kernel
theorem own_d5_5 : decode prog_91_method_1_code 5 = .ok (.aload_n 1, 1) := by decide +kernel
theorem own_d5_6 : decode prog_91_method_1_code 6 = .ok (.putfield 7, 3) := by decide +kernel
theorem own_d5_9 : decode prog_91_method_1_code 9 = .ok (.aload_n 0, 1) := by decide +kernel
theorem own_d5_10 : decode prog_91_method_1_code 10 = .ok (.aload_n 2, 1) := by decide +kernel
theorem own_d5_11 : decode prog_91_method_1_code 11 = .ok (.putfield 13, 3) := by decide +kernel
theorem own_d5_14 : decode prog_91_method_1_code 14 = .ok (.return_, 1) := by decide +kernel
def own_Q_pii (Z : State) (a1 : Addr) (s1 : Addr) (s2 : Addr) (u1 : Value) (u2 : Value) (u3 : Value) (u4 : Value) (h0 : Heap) (n0 : Nat) (v : Option Value) (h : Heap) (L : List Loc) : Prop := v = none ∧ Fr n0 L ∧ Keep h0 h [a1] ∧ (Fld Z h a1 "com/example/feuillet/feuillet/Node" "parent" "Lcom/example/feuillet/feuillet/Node$Parent;" u3) ∧ (Fld Z h a1 "com/example/feuillet/feuillet/Node" "nextSibling" "Lcom/example/feuillet/feuillet/Node;" u4) ∧ (Exa Z h a1 "com/example/feuillet/feuillet/ProcessingInstruction")
set_option maxRecDepth 65536 in
set_option maxHeartbeats 40000000 in
theorem own_m_pii (l : Launch) (Z : State) (a0 : Array Value) (hw : ∀ d ∈ tables_1, d.before a0 Z = true) (ws : List Jvm.Cond) (a1 : Addr) (s1 : Addr) (s2 : Addr) (u1 : Value) (u2 : Value) (u3 : Value) (u4 : Value) (h0 : Heap) (n0 : Nat) (Z0 : n0 ≤ h0.size) (g_a1 : n0 ≤ a1) (Ft : Fld Z h0 a1 "com/example/feuillet/feuillet/ProcessingInstruction" "target" "Ljava/lang/String;" u1) (Fd : Fld Z h0 a1 "com/example/feuillet/feuillet/ProcessingInstruction" "data" "Ljava/lang/String;" u2) (Fp : Fld Z h0 a1 "com/example/feuillet/feuillet/Node" "parent" "Lcom/example/feuillet/feuillet/Node$Parent;" u3) (Fn : Fld Z h0 a1 "com/example/feuillet/feuillet/Node" "nextSibling" "Lcom/example/feuillet/feuillet/Node;" u4) (E : Exa Z h0 a1 "com/example/feuillet/feuillet/ProcessingInstruction") :
    MetFree l (⟨"com/example/feuillet/feuillet/ProcessingInstruction", "<init>", "(Ljava/lang/String;Ljava/lang/String;)V"⟩ : MethodName) (head1 (Jvm.Cond.code (⟨"com/example/feuillet/feuillet/ProcessingInstruction", "<init>", "(Ljava/lang/String;Ljava/lang/String;)V"⟩ : MethodName) prog_91_method_1_code 3 none :: ws) ({ frames := 2, cells := 0, slots := 0, locals := 24 } : Room)) (fun a U => a = #[(.ref a1), (.ref s1), (.ref s2)] ∧ Z.Warmed39 U.vm ∧ U.heap = h0) (fun _ _ _ _ _ => True) (fun _ U o U' => ∃ v L, o = .returned v ∧ own_Q_pii Z a1 s1 s2 u1 u2 u3 u4 h0 n0 v U'.heap L ∧ FrameEnd U o U' L ({ frames := 2, cells := 0, slots := 0, locals := 24 } : Room).cells ({ frames := 2, cells := 0, slots := 0, locals := 24 } : Room).slots) := by
  refine MetFree.of_bodySF (plainFor_of_name own_pn3) hisR ?_
  intro p e s m args below meth c s₁ Bd hml0 hP hK
  obtain ⟨rfl, hZ, hh⟩ := hP
  have hx := Bd.exec
  have hby := Bd.bytes
  have hml : c.maxLocals = 3 := hml0
  have hown : s.vm.findClass "com/example/feuillet/feuillet/ProcessingInstruction" = some m.cls := findClass_of_methodNamed Bd.named
  have hnm := (name_of_methodNamed Bd.named Bd.method).1
  have X0 : Stand p l e ({ frames := 2, cells := 0, slots := 0, locals := 24 } : Room) s m #[(.ref a1), (.ref s1), (.ref s2)] below meth c s₁ [] 0 0 := Stand.of_body Bd
  have e0 : s₁.heap = h0 := by rw [← hh, Bd.state]; rfl
  have N0 := Fr.nil n0
  have K0 : Keep h0 h0 [a1] := Keep.refl _ _
  show own_Go p e below s ({ frames := 2, cells := 0, slots := 0, locals := 24 } : Room).cells ({ frames := 2, cells := 0, slots := 0, locals := 24 } : Room).slots (own_Q_pii Z a1 s1 s2 u1 u2 u3 u4 h0 n0) (s₁.setTop (entryFrame m #[(.ref a1), (.ref s1), (.ref s2)] 3))
  have ef : entryFrame m #[(.ref a1), (.ref s1), (.ref s2)] 3 = (mkF m 0 #[.val (.ref a1), .val (.ref s1), .val (.ref s2)] []) := by first | rfl | (simp [entryFrame, mkF, argsToLocals, Value.category, maxLocals]; done)
  rw [ef]
  show own_Go p e below s _ _ _ (s₁.setTop (mkF m 0 #[.val (.ref a1), .val (.ref s1), .val (.ref s2)] []))
  refine own_step (U' := (s₁.setTop (mkF m 1 #[.val (.ref a1), .val (.ref s1), .val (.ref s2)] [(.ref a1)]))) (fun t ht => XS.aloadN X0.here hx rfl (hb hby own_d5_0) rfl rfl ht) ?_
  obtain ⟨_, _, ⟨T4, L4, k4, n4⟩, -, X4, ⟨Lc4, hQ4, l4, y4, z4⟩, st4⟩ := X0.specialBack hx (y := (⟨"com/example/feuillet/feuillet/Node", "<init>", "()V"⟩ : MethodName)) rfl hown (mvT hZ (hw _ (List.mem_of_getElem? (i := 34) rfl))) (mvT hZ (hw _ (List.mem_of_getElem? (i := 12) rfl))) (mvT hZ (hw _ (List.mem_of_getElem? (i := 15) rfl))) (by decide) (backOf (W := 0) (own_m_ni l Z a0 hw [] (a1) h0 n0 Z0 ) hZ (hw _ (List.mem_of_getElem? (i := 15) rfl)) (hw _ (List.mem_of_getElem? (i := 14) rfl)) (by decide) (by decide)) (g := (mkF m 1 #[.val (.ref a1), .val (.ref s1), .val (.ref s2)] [(.ref a1)])) rfl (by rw [hml]; rfl) (Steps.refl _) (a := a1) (argsL := []) (rest := []) (lenOf own_pd0 rfl) rfl (by show 2 * 0 + _ ≤ _; exact Nat.le_of_eq rfl) (hb hby own_d5_1) (fun _ _ => ⟨rfl, e0, (by decide : 0 + 0 ≤ _), (by decide : 0 + 0 ≤ _)⟩)
  dsimp only [Pt.U, Pt.locs, Pt.cells, Pt.slots] at X4 l4 y4 z4 st4 hQ4
  subst l4 y4 z4
  obtain ⟨rfl, Nq4, Kq4⟩ := hQ4
  have N4 := Fr.app N0 Nq4
  have e4 : T4.heap = h0 := Kq4
  refine own_step (U' := (T4.setTop (mkF m 4 #[.val (.ref a1), .val (.ref s1), .val (.ref s2)] []))) (fun t ht => st4.trans ht) ?_
  refine own_step (U' := (T4.setTop (mkF m 5 #[.val (.ref a1), .val (.ref s1), .val (.ref s2)] [(.ref a1)]))) (fun t ht => XS.aloadN X4.here hx rfl (hb hby own_d5_4) rfl rfl ht) ?_
  refine own_step (U' := (T4.setTop (mkF m 6 #[.val (.ref a1), .val (.ref s1), .val (.ref s2)] [(.ref s1), (.ref a1)]))) (fun t ht => XS.aloadN X4.here hx rfl (hb hby own_d5_5) rfl rfl ht) ?_
  obtain ⟨T5, h5, X5, e5, W5, st5⟩ := putF X4 hx hZ hown (host := "") (Or.inl (hw _ (List.mem_of_getElem? (i := 35) rfl))) Via.refl e4 Ft E (Or.inr ⟨(hw _ (List.mem_of_getElem? (i := 36) rfl)), rfl, hnm⟩) (hw _ (List.mem_of_getElem? (i := 20) rfl)) (ty := (.object "java/lang/String")) (by decide) rfl rfl (g := (mkF m 6 #[.val (.ref a1), .val (.ref s1), .val (.ref s2)] [(.ref s1), (.ref a1)])) rfl rfl (hb hby own_d5_6)
  have f5_1 : Fld Z h5 a1 "com/example/feuillet/feuillet/ProcessingInstruction" "data" "Ljava/lang/String;" u2 := Fd.other W5 (Or.inr (slot_ne (Or.inr (hw _ (List.mem_of_getElem? (i := 38) rfl))) (Or.inr (hw _ (List.mem_of_getElem? (i := 36) rfl))) (by decide) (t := (.object "java/lang/String")) (t' := (.object "java/lang/String")) (by decide) (by decide)))
  have f5_2 : Fld Z h5 a1 "com/example/feuillet/feuillet/Node" "parent" "Lcom/example/feuillet/feuillet/Node$Parent;" u3 := Fp.other W5 (Or.inr (slot_ne (Or.inl (hw _ (List.mem_of_getElem? (i := 66) rfl))) (Or.inr (hw _ (List.mem_of_getElem? (i := 36) rfl))) (by decide) (t := (.object "com/example/feuillet/feuillet/Node$Parent")) (t' := (.object "java/lang/String")) (by decide) (by decide)))
  have f5_3 : Fld Z h5 a1 "com/example/feuillet/feuillet/Node" "nextSibling" "Lcom/example/feuillet/feuillet/Node;" u4 := Fn.other W5 (Or.inr (slot_ne (Or.inl (hw _ (List.mem_of_getElem? (i := 58) rfl))) (Or.inr (hw _ (List.mem_of_getElem? (i := 36) rfl))) (by decide) (t := (.object "com/example/feuillet/feuillet/Node")) (t' := (.object "java/lang/String")) (by decide) (by decide)))
  have f5_4 : Exa Z h5 a1 "com/example/feuillet/feuillet/ProcessingInstruction" := E.wr W5
  have F5 := Ft.same W5
  have N5 := Fr.snoc X5 N4 g_a1
  have K5 : Keep h0 h5 [a1] := K0.wr W5 (Or.inl (by simp))
  refine own_step (U' := (T5.setTop (mkF m 9 #[.val (.ref a1), .val (.ref s1), .val (.ref s2)] []))) (fun t ht => st5 _ ht) ?_
  refine own_step (U' := (T5.setTop (mkF m 10 #[.val (.ref a1), .val (.ref s1), .val (.ref s2)] [(.ref a1)]))) (fun t ht => XS.aloadN X5.here hx rfl (hb hby own_d5_9) rfl rfl ht) ?_
  refine own_step (U' := (T5.setTop (mkF m 11 #[.val (.ref a1), .val (.ref s1), .val (.ref s2)] [(.ref s2), (.ref a1)]))) (fun t ht => XS.aloadN X5.here hx rfl (hb hby own_d5_10) rfl rfl ht) ?_
  obtain ⟨T6, h6, X6, e6, W6, st6⟩ := putF X5 hx hZ hown (host := "") (Or.inl (hw _ (List.mem_of_getElem? (i := 37) rfl))) Via.refl e5 f5_1 f5_4 (Or.inr ⟨(hw _ (List.mem_of_getElem? (i := 38) rfl)), rfl, hnm⟩) (hw _ (List.mem_of_getElem? (i := 20) rfl)) (ty := (.object "java/lang/String")) (by decide) rfl rfl (g := (mkF m 11 #[.val (.ref a1), .val (.ref s1), .val (.ref s2)] [(.ref s2), (.ref a1)])) rfl rfl (hb hby own_d5_11)
  have f6_1 : Fld Z h6 a1 "com/example/feuillet/feuillet/Node" "parent" "Lcom/example/feuillet/feuillet/Node$Parent;" u3 := f5_2.other W6 (Or.inr (slot_ne (Or.inl (hw _ (List.mem_of_getElem? (i := 66) rfl))) (Or.inr (hw _ (List.mem_of_getElem? (i := 38) rfl))) (by decide) (t := (.object "com/example/feuillet/feuillet/Node$Parent")) (t' := (.object "java/lang/String")) (by decide) (by decide)))
  have f6_2 : Fld Z h6 a1 "com/example/feuillet/feuillet/Node" "nextSibling" "Lcom/example/feuillet/feuillet/Node;" u4 := f5_3.other W6 (Or.inr (slot_ne (Or.inl (hw _ (List.mem_of_getElem? (i := 58) rfl))) (Or.inr (hw _ (List.mem_of_getElem? (i := 38) rfl))) (by decide) (t := (.object "com/example/feuillet/feuillet/Node")) (t' := (.object "java/lang/String")) (by decide) (by decide)))
  have f6_3 : Exa Z h6 a1 "com/example/feuillet/feuillet/ProcessingInstruction" := f5_4.wr W6
  have f6_4 : Fld Z h6 a1 "com/example/feuillet/feuillet/ProcessingInstruction" "target" "Ljava/lang/String;" (.ref s1) := F5.other W6 (Or.inr (slot_ne (Or.inr (hw _ (List.mem_of_getElem? (i := 36) rfl))) (Or.inr (hw _ (List.mem_of_getElem? (i := 38) rfl))) (by decide) (t := (.object "java/lang/String")) (t' := (.object "java/lang/String")) (by decide) (by decide)))
  have F6 := f5_1.same W6
  have N6 := Fr.snoc X6 N5 g_a1
  have K6 : Keep h0 h6 [a1] := K5.wr W6 (Or.inl (by simp))
  refine own_step (U' := (T6.setTop (mkF m 14 #[.val (.ref a1), .val (.ref s1), .val (.ref s2)] []))) (fun t ht => st6 _ ht) ?_
  refine own_ret X6 (v := none) (fun _ => rfl) Bd.notSynchronized (by decide) (by decide) ?_ (fun fs hr => X6.returnOut hx Bd.returns (hb hby own_d5_14) hr)
  show own_Q_pii Z a1 s1 s2 u1 u2 u3 u4 h0 n0 _ T6.heap _
  rw [e6]
  exact ⟨rfl, N6, K6, f6_1, f6_2, f6_3⟩
theorem own_d9_0 : decode prog_87_method_3_code 0 = .ok (.aload_n 1, 1) := by decide +kernel
theorem own_d9_1 : decode prog_87_method_3_code 1 = .ok (.aload_n 0, 1) := by decide +kernel
theorem own_d9_2 : decode prog_87_method_3_code 2 = .ok (.putfield 13, 3) := by decide +kernel
theorem own_d9_5 : decode prog_87_method_3_code 5 = .ok (.aload_n 0, 1) := by decide +kernel
theorem own_d9_6 : decode prog_87_method_3_code 6 = .ok (.getfield 17, 3) := by decide +kernel
theorem own_d9_9 : decode prog_87_method_3_code 9 = .ok (.ifnonnull 11, 3) := by decide +kernel
theorem own_d9_12 : decode prog_87_method_3_code 12 = .ok (.aload_n 0, 1) := by decide +kernel
theorem own_d9_13 : decode prog_87_method_3_code 13 = .ok (.aload_n 1, 1) := by decide +kernel
theorem own_d9_14 : decode prog_87_method_3_code 14 = .ok (.putfield 7, 3) := by decide +kernel
theorem own_d9_17 : decode prog_87_method_3_code 17 = .ok (.goto 11, 3) := by decide +kernel
theorem own_d9_28 : decode prog_87_method_3_code 28 = .ok (.aload_n 0, 1) := by decide +kernel
theorem own_d9_29 : decode prog_87_method_3_code 29 = .ok (.aload_n 1, 1) := by decide +kernel
theorem own_d9_30 : decode prog_87_method_3_code 30 = .ok (.putfield 17, 3) := by decide +kernel
theorem own_d9_33 : decode prog_87_method_3_code 33 = .ok (.return_, 1) := by decide +kernel
def own_Q_apA (Z : State) (a1 : Addr) (v1 : Addr) (u1 : Value) (u2 : Value) (u3 : Value) (h0 : Heap) (n0 : Nat) (v : Option Value) (h : Heap) (L : List Loc) : Prop := v = none ∧ Fr n0 L ∧ Keep h0 h [v1, a1] ∧ (Fld Z h v1 "com/example/feuillet/feuillet/Node" "parent" "Lcom/example/feuillet/feuillet/Node$Parent;" (.ref a1)) ∧ (Fld Z h v1 "com/example/feuillet/feuillet/Node" "nextSibling" "Lcom/example/feuillet/feuillet/Node;" u3) ∧ (Exa Z h v1 "com/example/feuillet/feuillet/ProcessingInstruction") ∧ (Fld Z h a1 "com/example/feuillet/feuillet/Node$Parent" "firstChild" "Lcom/example/feuillet/feuillet/Node;" (.ref v1)) ∧ (Fld Z h a1 "com/example/feuillet/feuillet/Node$Parent" "lastChild" "Lcom/example/feuillet/feuillet/Node;" (.ref v1)) ∧ (Exa Z h a1 "com/example/feuillet/feuillet/Document")
set_option maxRecDepth 65536 in
set_option maxHeartbeats 40000000 in
theorem own_m_apA (l : Launch) (Z : State) (a0 : Array Value) (hw : ∀ d ∈ tables_1, d.before a0 Z = true) (ws : List Jvm.Cond) (a1 : Addr) (v1 : Addr) (u1 : Value) (u2 : Value) (u3 : Value) (h0 : Heap) (n0 : Nat) (Z0 : n0 ≤ h0.size) (g_a1 : n0 ≤ a1) (g_v1 : n0 ≤ v1) (Fp : Fld Z h0 v1 "com/example/feuillet/feuillet/Node" "parent" "Lcom/example/feuillet/feuillet/Node$Parent;" u1) (Fn : Fld Z h0 v1 "com/example/feuillet/feuillet/Node" "nextSibling" "Lcom/example/feuillet/feuillet/Node;" u3) (E : Exa Z h0 v1 "com/example/feuillet/feuillet/ProcessingInstruction") (Ff : Fld Z h0 a1 "com/example/feuillet/feuillet/Node$Parent" "firstChild" "Lcom/example/feuillet/feuillet/Node;" u2) (Fl : Fld Z h0 a1 "com/example/feuillet/feuillet/Node$Parent" "lastChild" "Lcom/example/feuillet/feuillet/Node;" .null) (Ed : Exa Z h0 a1 "com/example/feuillet/feuillet/Document") :
    MetFree l (⟨"com/example/feuillet/feuillet/Node$Parent", "append", "(Lcom/example/feuillet/feuillet/Node;)V"⟩ : MethodName) (head1 (Jvm.Cond.code (⟨"com/example/feuillet/feuillet/Node$Parent", "append", "(Lcom/example/feuillet/feuillet/Node;)V"⟩ : MethodName) prog_87_method_3_code 2 none :: ws) ({ frames := 0, cells := 0, slots := 0, locals := 0 } : Room)) (fun a U => a = #[(.ref a1), (.ref v1)] ∧ Z.Warmed39 U.vm ∧ U.heap = h0) (fun _ _ _ _ _ => True) (fun _ U o U' => ∃ v L, o = .returned v ∧ own_Q_apA Z a1 v1 u1 u2 u3 h0 n0 v U'.heap L ∧ FrameEnd U o U' L ({ frames := 0, cells := 0, slots := 0, locals := 0 } : Room).cells ({ frames := 0, cells := 0, slots := 0, locals := 0 } : Room).slots) := by
  refine MetFree.of_bodySF (plainFor_of_name own_pn1) hisR ?_
  intro p e s m args below meth c s₁ Bd hml0 hP hK
  obtain ⟨rfl, hZ, hh⟩ := hP
  have hx := Bd.exec
  have hby := Bd.bytes
  have hml : c.maxLocals = 2 := hml0
  have hown : s.vm.findClass "com/example/feuillet/feuillet/Node$Parent" = some m.cls := findClass_of_methodNamed Bd.named
  have hnm := (name_of_methodNamed Bd.named Bd.method).1
  have X0 : Stand p l e ({ frames := 0, cells := 0, slots := 0, locals := 0 } : Room) s m #[(.ref a1), (.ref v1)] below meth c s₁ [] 0 0 := Stand.of_body Bd
  have e0 : s₁.heap = h0 := by rw [← hh, Bd.state]; rfl
  have N0 := Fr.nil n0
  have K0 : Keep h0 h0 [v1, a1] := Keep.refl _ _
  show own_Go p e below s ({ frames := 0, cells := 0, slots := 0, locals := 0 } : Room).cells ({ frames := 0, cells := 0, slots := 0, locals := 0 } : Room).slots (own_Q_apA Z a1 v1 u1 u2 u3 h0 n0) (s₁.setTop (entryFrame m #[(.ref a1), (.ref v1)] 2))
  have ef : entryFrame m #[(.ref a1), (.ref v1)] 2 = (mkF m 0 #[.val (.ref a1), .val (.ref v1)] []) := by first | rfl | (simp [entryFrame, mkF, argsToLocals, Value.category, maxLocals]; done)
  rw [ef]
  show own_Go p e below s _ _ _ (s₁.setTop (mkF m 0 #[.val (.ref a1), .val (.ref v1)] []))
  refine own_step (U' := (s₁.setTop (mkF m 1 #[.val (.ref a1), .val (.ref v1)] [(.ref v1)]))) (fun t ht => XS.aloadN X0.here hx rfl (hb hby own_d9_0) rfl rfl ht) ?_
  refine own_step (U' := (s₁.setTop (mkF m 2 #[.val (.ref a1), .val (.ref v1)] [(.ref a1), (.ref v1)]))) (fun t ht => XS.aloadN X0.here hx rfl (hb hby own_d9_1) rfl rfl ht) ?_
  obtain ⟨T7, h7, X7, e7, W7, st7⟩ := putF X0 hx hZ hown (Or.inr (hw _ (List.mem_of_getElem? (i := 73) rfl))) Via.refl e0 Fp E (Or.inl (hw _ (List.mem_of_getElem? (i := 66) rfl))) (hw _ (List.mem_of_getElem? (i := 20) rfl)) (ty := (.object "com/example/feuillet/feuillet/Node$Parent")) (by decide) rfl rfl (g := (mkF m 2 #[.val (.ref a1), .val (.ref v1)] [(.ref a1), (.ref v1)])) rfl rfl (hb hby own_d9_2)
  have f7_1 : Fld Z h7 v1 "com/example/feuillet/feuillet/Node" "nextSibling" "Lcom/example/feuillet/feuillet/Node;" u3 := Fn.other W7 (Or.inr (slot_ne (Or.inl (hw _ (List.mem_of_getElem? (i := 58) rfl))) (Or.inl (hw _ (List.mem_of_getElem? (i := 66) rfl))) (by decide) (t := (.object "com/example/feuillet/feuillet/Node")) (t' := (.object "com/example/feuillet/feuillet/Node$Parent")) (by decide) (by decide)))
  have f7_2 : Exa Z h7 v1 "com/example/feuillet/feuillet/ProcessingInstruction" := E.wr W7
  have f7_3 : Fld Z h7 a1 "com/example/feuillet/feuillet/Node$Parent" "firstChild" "Lcom/example/feuillet/feuillet/Node;" u2 := Ff.other W7 (Or.inl (ne_exa Ed E (by decide)))
  have f7_4 : Fld Z h7 a1 "com/example/feuillet/feuillet/Node$Parent" "lastChild" "Lcom/example/feuillet/feuillet/Node;" .null := Fl.other W7 (Or.inl (ne_exa Ed E (by decide)))
  have f7_5 : Exa Z h7 a1 "com/example/feuillet/feuillet/Document" := Ed.wr W7
  have F7 := Fp.same W7
  have N7 := Fr.snoc X7 N0 g_v1
  have K7 : Keep h0 h7 [v1, a1] := K0.wr W7 (Or.inl (by simp))
  refine own_step (U' := (T7.setTop (mkF m 5 #[.val (.ref a1), .val (.ref v1)] []))) (fun t ht => st7 _ ht) ?_
  refine own_step (U' := (T7.setTop (mkF m 6 #[.val (.ref a1), .val (.ref v1)] [(.ref a1)]))) (fun t ht => XS.aloadN X7.here hx rfl (hb hby own_d9_5) rfl rfl ht) ?_
  obtain ⟨T8, X8, e8, st8⟩ := getF X7 hx hZ hown (host := "") (Or.inl (hw _ (List.mem_of_getElem? (i := 74) rfl))) Via.refl e7 f7_4 (g := (mkF m 6 #[.val (.ref a1), .val (.ref v1)] [(.ref a1)])) rfl rfl (hb hby own_d9_6)
  refine own_step (U' := (T8.setTop (mkF m 9 #[.val (.ref a1), .val (.ref v1)] [.null]))) (fun t ht => st8 _ ht) ?_
  refine own_step (U' := (T8.setTop (mkF m 12 #[.val (.ref a1), .val (.ref v1)] []))) (fun t ht => XT.nonnullNo X8.here hx rfl (hb hby own_d9_9) rfl rfl ht) ?_
  refine own_step (U' := (T8.setTop (mkF m 13 #[.val (.ref a1), .val (.ref v1)] [(.ref a1)]))) (fun t ht => XS.aloadN X8.here hx rfl (hb hby own_d9_12) rfl rfl ht) ?_
  refine own_step (U' := (T8.setTop (mkF m 14 #[.val (.ref a1), .val (.ref v1)] [(.ref v1), (.ref a1)]))) (fun t ht => XS.aloadN X8.here hx rfl (hb hby own_d9_13) rfl rfl ht) ?_
  obtain ⟨T9, h9, X9, e9, W9, st9⟩ := putF X8 hx hZ hown (host := "") (Or.inl (hw _ (List.mem_of_getElem? (i := 49) rfl))) Via.refl e8 f7_3 f7_5 (Or.inl (hw _ (List.mem_of_getElem? (i := 50) rfl))) (hw _ (List.mem_of_getElem? (i := 1) rfl)) (ty := (.object "com/example/feuillet/feuillet/Node")) (by decide) rfl rfl (g := (mkF m 14 #[.val (.ref a1), .val (.ref v1)] [(.ref v1), (.ref a1)])) rfl rfl (hb hby own_d9_14)
  have f9_0 : Fld Z h9 v1 "com/example/feuillet/feuillet/Node" "nextSibling" "Lcom/example/feuillet/feuillet/Node;" u3 := f7_1.other W9 (Or.inl (ne_exa f7_2 f7_5 (by decide)))
  have f9_1 : Exa Z h9 v1 "com/example/feuillet/feuillet/ProcessingInstruction" := f7_2.wr W9
  have f9_3 : Fld Z h9 a1 "com/example/feuillet/feuillet/Node$Parent" "lastChild" "Lcom/example/feuillet/feuillet/Node;" .null := f7_4.other W9 (Or.inr (slot_ne (Or.inl (hw _ (List.mem_of_getElem? (i := 75) rfl))) (Or.inl (hw _ (List.mem_of_getElem? (i := 50) rfl))) (by decide) (t := (.object "com/example/feuillet/feuillet/Node")) (t' := (.object "com/example/feuillet/feuillet/Node")) (by decide) (by decide)))
  have f9_4 : Exa Z h9 a1 "com/example/feuillet/feuillet/Document" := f7_5.wr W9
  have f9_5 : Fld Z h9 v1 "com/example/feuillet/feuillet/Node" "parent" "Lcom/example/feuillet/feuillet/Node$Parent;" (.ref a1) := F7.other W9 (Or.inl (ne_exa f7_2 f7_5 (by decide)))
  have F9 := f7_3.same W9
  have N9 := Fr.snoc X9 N7 g_a1
  have K9 : Keep h0 h9 [v1, a1] := K7.wr W9 (Or.inl (by simp))
  refine own_step (U' := (T9.setTop (mkF m 17 #[.val (.ref a1), .val (.ref v1)] []))) (fun t ht => st9 _ ht) ?_
  refine own_step (U' := (T9.setTop (mkF m 28 #[.val (.ref a1), .val (.ref v1)] []))) (fun t ht => XS.goto X9.here hx rfl (pc0 := 17) (pc' := 28) rfl (hb hby own_d9_17) (by decide) (by decide) ht) ?_
  refine own_step (U' := (T9.setTop (mkF m 29 #[.val (.ref a1), .val (.ref v1)] [(.ref a1)]))) (fun t ht => XS.aloadN X9.here hx rfl (hb hby own_d9_28) rfl rfl ht) ?_
  refine own_step (U' := (T9.setTop (mkF m 30 #[.val (.ref a1), .val (.ref v1)] [(.ref v1), (.ref a1)]))) (fun t ht => XS.aloadN X9.here hx rfl (hb hby own_d9_29) rfl rfl ht) ?_
  obtain ⟨T10, h10, X10, e10, W10, st10⟩ := putF X9 hx hZ hown (host := "") (Or.inl (hw _ (List.mem_of_getElem? (i := 74) rfl))) Via.refl e9 f9_3 f9_4 (Or.inl (hw _ (List.mem_of_getElem? (i := 75) rfl))) (hw _ (List.mem_of_getElem? (i := 1) rfl)) (ty := (.object "com/example/feuillet/feuillet/Node")) (by decide) rfl rfl (g := (mkF m 30 #[.val (.ref a1), .val (.ref v1)] [(.ref v1), (.ref a1)])) rfl rfl (hb hby own_d9_30)
  have f10_0 : Fld Z h10 v1 "com/example/feuillet/feuillet/Node" "nextSibling" "Lcom/example/feuillet/feuillet/Node;" u3 := f9_0.other W10 (Or.inl (ne_exa f9_1 f9_4 (by decide)))
  have f10_1 : Exa Z h10 v1 "com/example/feuillet/feuillet/ProcessingInstruction" := f9_1.wr W10
  have f10_3 : Exa Z h10 a1 "com/example/feuillet/feuillet/Document" := f9_4.wr W10
  have f10_4 : Fld Z h10 v1 "com/example/feuillet/feuillet/Node" "parent" "Lcom/example/feuillet/feuillet/Node$Parent;" (.ref a1) := f9_5.other W10 (Or.inl (ne_exa f9_1 f9_4 (by decide)))
  have f10_5 : Fld Z h10 a1 "com/example/feuillet/feuillet/Node$Parent" "firstChild" "Lcom/example/feuillet/feuillet/Node;" (.ref v1) := F9.other W10 (Or.inr (slot_ne (Or.inl (hw _ (List.mem_of_getElem? (i := 50) rfl))) (Or.inl (hw _ (List.mem_of_getElem? (i := 75) rfl))) (by decide) (t := (.object "com/example/feuillet/feuillet/Node")) (t' := (.object "com/example/feuillet/feuillet/Node")) (by decide) (by decide)))
  have F10 := f9_3.same W10
  have N10 := Fr.snoc X10 N9 g_a1
  have K10 : Keep h0 h10 [v1, a1] := K9.wr W10 (Or.inl (by simp))
  refine own_step (U' := (T10.setTop (mkF m 33 #[.val (.ref a1), .val (.ref v1)] []))) (fun t ht => st10 _ ht) ?_
  refine own_ret X10 (v := none) (fun _ => rfl) Bd.notSynchronized (by decide) (by decide) ?_ (fun fs hr => X10.returnOut hx Bd.returns (hb hby own_d9_33) hr)
  show own_Q_apA Z a1 v1 u1 u2 u3 h0 n0 _ T10.heap _
  rw [e10]
  exact ⟨rfl, N10, K10, f10_4, f10_0, f10_1, f10_5, F10, f10_3⟩
theorem own_d9_20 : decode prog_87_method_3_code 20 = .ok (.aload_n 0, 1) := by decide +kernel
theorem own_d9_21 : decode prog_87_method_3_code 21 = .ok (.getfield 17, 3) := by decide +kernel
theorem own_d9_24 : decode prog_87_method_3_code 24 = .ok (.aload_n 1, 1) := by decide +kernel
theorem own_d9_25 : decode prog_87_method_3_code 25 = .ok (.putfield 20, 3) := by decide +kernel
def own_Q_apB (Z : State) (a1 : Addr) (v1 : Addr) (l1 : Addr) (u1 : Value) (u2 : Value) (u3 : Value) (u4 : Value) (u5 : Value) (h0 : Heap) (n0 : Nat) (v : Option Value) (h : Heap) (L : List Loc) : Prop := v = none ∧ Fr n0 L ∧ Keep h0 h [v1, l1, a1] ∧ (Fld Z h v1 "com/example/feuillet/feuillet/Node" "parent" "Lcom/example/feuillet/feuillet/Node$Parent;" (.ref a1)) ∧ (Fld Z h v1 "com/example/feuillet/feuillet/Node" "nextSibling" "Lcom/example/feuillet/feuillet/Node;" u3) ∧ (Exa Z h v1 "com/example/feuillet/feuillet/ProcessingInstruction") ∧ (Fld Z h l1 "com/example/feuillet/feuillet/Node" "parent" "Lcom/example/feuillet/feuillet/Node$Parent;" u5) ∧ (Fld Z h l1 "com/example/feuillet/feuillet/Node" "nextSibling" "Lcom/example/feuillet/feuillet/Node;" (.ref v1)) ∧ (Exa Z h l1 "com/example/feuillet/feuillet/ProcessingInstruction") ∧ (Fld Z h a1 "com/example/feuillet/feuillet/Node$Parent" "firstChild" "Lcom/example/feuillet/feuillet/Node;" u2) ∧ (Fld Z h a1 "com/example/feuillet/feuillet/Node$Parent" "lastChild" "Lcom/example/feuillet/feuillet/Node;" (.ref v1)) ∧ (Exa Z h a1 "com/example/feuillet/feuillet/Document")
set_option maxRecDepth 65536 in
set_option maxHeartbeats 40000000 in
theorem own_m_apB (l : Launch) (Z : State) (a0 : Array Value) (hw : ∀ d ∈ tables_1, d.before a0 Z = true) (ws : List Jvm.Cond) (a1 : Addr) (v1 : Addr) (l1 : Addr) (u1 : Value) (u2 : Value) (u3 : Value) (u4 : Value) (u5 : Value) (h0 : Heap) (n0 : Nat) (Z0 : n0 ≤ h0.size) (g_a1 : n0 ≤ a1) (g_v1 : n0 ≤ v1) (g_l1 : n0 ≤ l1) (ne_v1_l1 : v1 ≠ l1) (Fp : Fld Z h0 v1 "com/example/feuillet/feuillet/Node" "parent" "Lcom/example/feuillet/feuillet/Node$Parent;" u1) (Fn : Fld Z h0 v1 "com/example/feuillet/feuillet/Node" "nextSibling" "Lcom/example/feuillet/feuillet/Node;" u3) (E : Exa Z h0 v1 "com/example/feuillet/feuillet/ProcessingInstruction") (Ff : Fld Z h0 a1 "com/example/feuillet/feuillet/Node$Parent" "firstChild" "Lcom/example/feuillet/feuillet/Node;" u2) (Fl : Fld Z h0 a1 "com/example/feuillet/feuillet/Node$Parent" "lastChild" "Lcom/example/feuillet/feuillet/Node;" (.ref l1)) (Ed : Exa Z h0 a1 "com/example/feuillet/feuillet/Document") (Fpl : Fld Z h0 l1 "com/example/feuillet/feuillet/Node" "parent" "Lcom/example/feuillet/feuillet/Node$Parent;" u5) (Fnl : Fld Z h0 l1 "com/example/feuillet/feuillet/Node" "nextSibling" "Lcom/example/feuillet/feuillet/Node;" u4) (El : Exa Z h0 l1 "com/example/feuillet/feuillet/ProcessingInstruction") :
    MetFree l (⟨"com/example/feuillet/feuillet/Node$Parent", "append", "(Lcom/example/feuillet/feuillet/Node;)V"⟩ : MethodName) (head1 (Jvm.Cond.code (⟨"com/example/feuillet/feuillet/Node$Parent", "append", "(Lcom/example/feuillet/feuillet/Node;)V"⟩ : MethodName) prog_87_method_3_code 2 none :: ws) ({ frames := 0, cells := 0, slots := 0, locals := 0 } : Room)) (fun a U => a = #[(.ref a1), (.ref v1)] ∧ Z.Warmed39 U.vm ∧ U.heap = h0) (fun _ _ _ _ _ => True) (fun _ U o U' => ∃ v L, o = .returned v ∧ own_Q_apB Z a1 v1 l1 u1 u2 u3 u4 u5 h0 n0 v U'.heap L ∧ FrameEnd U o U' L ({ frames := 0, cells := 0, slots := 0, locals := 0 } : Room).cells ({ frames := 0, cells := 0, slots := 0, locals := 0 } : Room).slots) := by
  refine MetFree.of_bodySF (plainFor_of_name own_pn1) hisR ?_
  intro p e s m args below meth c s₁ Bd hml0 hP hK
  obtain ⟨rfl, hZ, hh⟩ := hP
  have hx := Bd.exec
  have hby := Bd.bytes
  have hml : c.maxLocals = 2 := hml0
  have hown : s.vm.findClass "com/example/feuillet/feuillet/Node$Parent" = some m.cls := findClass_of_methodNamed Bd.named
  have hnm := (name_of_methodNamed Bd.named Bd.method).1
  have X0 : Stand p l e ({ frames := 0, cells := 0, slots := 0, locals := 0 } : Room) s m #[(.ref a1), (.ref v1)] below meth c s₁ [] 0 0 := Stand.of_body Bd
  have e0 : s₁.heap = h0 := by rw [← hh, Bd.state]; rfl
  have N0 := Fr.nil n0
  have K0 : Keep h0 h0 [v1, l1, a1] := Keep.refl _ _
  show own_Go p e below s ({ frames := 0, cells := 0, slots := 0, locals := 0 } : Room).cells ({ frames := 0, cells := 0, slots := 0, locals := 0 } : Room).slots (own_Q_apB Z a1 v1 l1 u1 u2 u3 u4 u5 h0 n0) (s₁.setTop (entryFrame m #[(.ref a1), (.ref v1)] 2))
  have ef : entryFrame m #[(.ref a1), (.ref v1)] 2 = (mkF m 0 #[.val (.ref a1), .val (.ref v1)] []) := by first | rfl | (simp [entryFrame, mkF, argsToLocals, Value.category, maxLocals]; done)
  rw [ef]
  show own_Go p e below s _ _ _ (s₁.setTop (mkF m 0 #[.val (.ref a1), .val (.ref v1)] []))
  refine own_step (U' := (s₁.setTop (mkF m 1 #[.val (.ref a1), .val (.ref v1)] [(.ref v1)]))) (fun t ht => XS.aloadN X0.here hx rfl (hb hby own_d9_0) rfl rfl ht) ?_
  refine own_step (U' := (s₁.setTop (mkF m 2 #[.val (.ref a1), .val (.ref v1)] [(.ref a1), (.ref v1)]))) (fun t ht => XS.aloadN X0.here hx rfl (hb hby own_d9_1) rfl rfl ht) ?_
  obtain ⟨T11, h11, X11, e11, W11, st11⟩ := putF X0 hx hZ hown (Or.inr (hw _ (List.mem_of_getElem? (i := 73) rfl))) Via.refl e0 Fp E (Or.inl (hw _ (List.mem_of_getElem? (i := 66) rfl))) (hw _ (List.mem_of_getElem? (i := 20) rfl)) (ty := (.object "com/example/feuillet/feuillet/Node$Parent")) (by decide) rfl rfl (g := (mkF m 2 #[.val (.ref a1), .val (.ref v1)] [(.ref a1), (.ref v1)])) rfl rfl (hb hby own_d9_2)
  have f11_1 : Fld Z h11 v1 "com/example/feuillet/feuillet/Node" "nextSibling" "Lcom/example/feuillet/feuillet/Node;" u3 := Fn.other W11 (Or.inr (slot_ne (Or.inl (hw _ (List.mem_of_getElem? (i := 58) rfl))) (Or.inl (hw _ (List.mem_of_getElem? (i := 66) rfl))) (by decide) (t := (.object "com/example/feuillet/feuillet/Node")) (t' := (.object "com/example/feuillet/feuillet/Node$Parent")) (by decide) (by decide)))
  have f11_2 : Exa Z h11 v1 "com/example/feuillet/feuillet/ProcessingInstruction" := E.wr W11
  have f11_3 : Fld Z h11 a1 "com/example/feuillet/feuillet/Node$Parent" "firstChild" "Lcom/example/feuillet/feuillet/Node;" u2 := Ff.other W11 (Or.inl (ne_exa Ed E (by decide)))
  have f11_4 : Fld Z h11 a1 "com/example/feuillet/feuillet/Node$Parent" "lastChild" "Lcom/example/feuillet/feuillet/Node;" (.ref l1) := Fl.other W11 (Or.inl (ne_exa Ed E (by decide)))
  have f11_5 : Exa Z h11 a1 "com/example/feuillet/feuillet/Document" := Ed.wr W11
  have f11_6 : Fld Z h11 l1 "com/example/feuillet/feuillet/Node" "parent" "Lcom/example/feuillet/feuillet/Node$Parent;" u5 := Fpl.other W11 (Or.inl (Ne.symm ne_v1_l1))
  have f11_7 : Fld Z h11 l1 "com/example/feuillet/feuillet/Node" "nextSibling" "Lcom/example/feuillet/feuillet/Node;" u4 := Fnl.other W11 (Or.inl (Ne.symm ne_v1_l1))
  have f11_8 : Exa Z h11 l1 "com/example/feuillet/feuillet/ProcessingInstruction" := El.wr W11
  have F11 := Fp.same W11
  have N11 := Fr.snoc X11 N0 g_v1
  have K11 : Keep h0 h11 [v1, l1, a1] := K0.wr W11 (Or.inl (by simp))
  refine own_step (U' := (T11.setTop (mkF m 5 #[.val (.ref a1), .val (.ref v1)] []))) (fun t ht => st11 _ ht) ?_
  refine own_step (U' := (T11.setTop (mkF m 6 #[.val (.ref a1), .val (.ref v1)] [(.ref a1)]))) (fun t ht => XS.aloadN X11.here hx rfl (hb hby own_d9_5) rfl rfl ht) ?_
  obtain ⟨T12, X12, e12, st12⟩ := getF X11 hx hZ hown (host := "") (Or.inl (hw _ (List.mem_of_getElem? (i := 74) rfl))) Via.refl e11 f11_4 (g := (mkF m 6 #[.val (.ref a1), .val (.ref v1)] [(.ref a1)])) rfl rfl (hb hby own_d9_6)
  refine own_step (U' := (T12.setTop (mkF m 9 #[.val (.ref a1), .val (.ref v1)] [(.ref l1)]))) (fun t ht => st12 _ ht) ?_
  refine own_step (U' := (T12.setTop (mkF m 20 #[.val (.ref a1), .val (.ref v1)] []))) (fun t ht => XT.nonnullYes X12.here hx rfl (pc0 := 9) (pc' := 20) rfl (hb hby own_d9_9) rfl rfl nofun (by decide) (by decide) ht) ?_
  refine own_step (U' := (T12.setTop (mkF m 21 #[.val (.ref a1), .val (.ref v1)] [(.ref a1)]))) (fun t ht => XS.aloadN X12.here hx rfl (hb hby own_d9_20) rfl rfl ht) ?_
  obtain ⟨T13, X13, e13, st13⟩ := getF X12 hx hZ hown (host := "") (Or.inl (hw _ (List.mem_of_getElem? (i := 74) rfl))) Via.refl e12 f11_4 (g := (mkF m 21 #[.val (.ref a1), .val (.ref v1)] [(.ref a1)])) rfl rfl (hb hby own_d9_21)
  refine own_step (U' := (T13.setTop (mkF m 24 #[.val (.ref a1), .val (.ref v1)] [(.ref l1)]))) (fun t ht => st13 _ ht) ?_
  refine own_step (U' := (T13.setTop (mkF m 25 #[.val (.ref a1), .val (.ref v1)] [(.ref v1), (.ref l1)]))) (fun t ht => XS.aloadN X13.here hx rfl (hb hby own_d9_24) rfl rfl ht) ?_
  obtain ⟨T14, h14, X14, e14, W14, st14⟩ := putF X13 hx hZ hown (Or.inr (hw _ (List.mem_of_getElem? (i := 76) rfl))) Via.refl e13 f11_7 f11_8 (Or.inl (hw _ (List.mem_of_getElem? (i := 58) rfl))) (hw _ (List.mem_of_getElem? (i := 20) rfl)) (ty := (.object "com/example/feuillet/feuillet/Node")) (by decide) rfl rfl (g := (mkF m 25 #[.val (.ref a1), .val (.ref v1)] [(.ref v1), (.ref l1)])) rfl rfl (hb hby own_d9_25)
  have f14_0 : Fld Z h14 v1 "com/example/feuillet/feuillet/Node" "nextSibling" "Lcom/example/feuillet/feuillet/Node;" u3 := f11_1.other W14 (Or.inl ne_v1_l1)
  have f14_1 : Exa Z h14 v1 "com/example/feuillet/feuillet/ProcessingInstruction" := f11_2.wr W14
  have f14_2 : Fld Z h14 a1 "com/example/feuillet/feuillet/Node$Parent" "firstChild" "Lcom/example/feuillet/feuillet/Node;" u2 := f11_3.other W14 (Or.inl (ne_exa f11_5 f11_8 (by decide)))
  have f14_3 : Fld Z h14 a1 "com/example/feuillet/feuillet/Node$Parent" "lastChild" "Lcom/example/feuillet/feuillet/Node;" (.ref l1) := f11_4.other W14 (Or.inl (ne_exa f11_5 f11_8 (by decide)))
  have f14_4 : Exa Z h14 a1 "com/example/feuillet/feuillet/Document" := f11_5.wr W14
  have f14_5 : Fld Z h14 l1 "com/example/feuillet/feuillet/Node" "parent" "Lcom/example/feuillet/feuillet/Node$Parent;" u5 := f11_6.other W14 (Or.inr (slot_ne (Or.inl (hw _ (List.mem_of_getElem? (i := 66) rfl))) (Or.inl (hw _ (List.mem_of_getElem? (i := 58) rfl))) (by decide) (t := (.object "com/example/feuillet/feuillet/Node$Parent")) (t' := (.object "com/example/feuillet/feuillet/Node")) (by decide) (by decide)))
  have f14_7 : Exa Z h14 l1 "com/example/feuillet/feuillet/ProcessingInstruction" := f11_8.wr W14
  have f14_8 : Fld Z h14 v1 "com/example/feuillet/feuillet/Node" "parent" "Lcom/example/feuillet/feuillet/Node$Parent;" (.ref a1) := F11.other W14 (Or.inl ne_v1_l1)
  have F14 := f11_7.same W14
  have N14 := Fr.snoc X14 N11 g_l1
  have K14 : Keep h0 h14 [v1, l1, a1] := K11.wr W14 (Or.inl (by simp))
  refine own_step (U' := (T14.setTop (mkF m 28 #[.val (.ref a1), .val (.ref v1)] []))) (fun t ht => st14 _ ht) ?_
  refine own_step (U' := (T14.setTop (mkF m 29 #[.val (.ref a1), .val (.ref v1)] [(.ref a1)]))) (fun t ht => XS.aloadN X14.here hx rfl (hb hby own_d9_28) rfl rfl ht) ?_
  refine own_step (U' := (T14.setTop (mkF m 30 #[.val (.ref a1), .val (.ref v1)] [(.ref v1), (.ref a1)]))) (fun t ht => XS.aloadN X14.here hx rfl (hb hby own_d9_29) rfl rfl ht) ?_
  obtain ⟨T15, h15, X15, e15, W15, st15⟩ := putF X14 hx hZ hown (host := "") (Or.inl (hw _ (List.mem_of_getElem? (i := 74) rfl))) Via.refl e14 f14_3 f14_4 (Or.inl (hw _ (List.mem_of_getElem? (i := 75) rfl))) (hw _ (List.mem_of_getElem? (i := 1) rfl)) (ty := (.object "com/example/feuillet/feuillet/Node")) (by decide) rfl rfl (g := (mkF m 30 #[.val (.ref a1), .val (.ref v1)] [(.ref v1), (.ref a1)])) rfl rfl (hb hby own_d9_30)
  have f15_0 : Fld Z h15 v1 "com/example/feuillet/feuillet/Node" "nextSibling" "Lcom/example/feuillet/feuillet/Node;" u3 := f14_0.other W15 (Or.inl (ne_exa f14_1 f14_4 (by decide)))
  have f15_1 : Exa Z h15 v1 "com/example/feuillet/feuillet/ProcessingInstruction" := f14_1.wr W15
  have f15_2 : Fld Z h15 a1 "com/example/feuillet/feuillet/Node$Parent" "firstChild" "Lcom/example/feuillet/feuillet/Node;" u2 := f14_2.other W15 (Or.inr (slot_ne (Or.inl (hw _ (List.mem_of_getElem? (i := 50) rfl))) (Or.inl (hw _ (List.mem_of_getElem? (i := 75) rfl))) (by decide) (t := (.object "com/example/feuillet/feuillet/Node")) (t' := (.object "com/example/feuillet/feuillet/Node")) (by decide) (by decide)))
  have f15_4 : Exa Z h15 a1 "com/example/feuillet/feuillet/Document" := f14_4.wr W15
  have f15_5 : Fld Z h15 l1 "com/example/feuillet/feuillet/Node" "parent" "Lcom/example/feuillet/feuillet/Node$Parent;" u5 := f14_5.other W15 (Or.inl (ne_exa f14_7 f14_4 (by decide)))
  have f15_6 : Exa Z h15 l1 "com/example/feuillet/feuillet/ProcessingInstruction" := f14_7.wr W15
  have f15_7 : Fld Z h15 v1 "com/example/feuillet/feuillet/Node" "parent" "Lcom/example/feuillet/feuillet/Node$Parent;" (.ref a1) := f14_8.other W15 (Or.inl (ne_exa f14_1 f14_4 (by decide)))
  have f15_8 : Fld Z h15 l1 "com/example/feuillet/feuillet/Node" "nextSibling" "Lcom/example/feuillet/feuillet/Node;" (.ref v1) := F14.other W15 (Or.inl (ne_exa f14_7 f14_4 (by decide)))
  have F15 := f14_3.same W15
  have N15 := Fr.snoc X15 N14 g_a1
  have K15 : Keep h0 h15 [v1, l1, a1] := K14.wr W15 (Or.inl (by simp))
  refine own_step (U' := (T15.setTop (mkF m 33 #[.val (.ref a1), .val (.ref v1)] []))) (fun t ht => st15 _ ht) ?_
  refine own_ret X15 (v := none) (fun _ => rfl) Bd.notSynchronized (by decide) (by decide) ?_ (fun fs hr => X15.returnOut hx Bd.returns (hb hby own_d9_33) hr)
  show own_Q_apB Z a1 v1 l1 u1 u2 u3 u4 u5 h0 n0 _ T15.heap _
  rw [e15]
  exact ⟨rfl, N15, K15, f15_7, f15_0, f15_1, f15_5, f15_8, f15_6, f15_2, F15, f15_4⟩
theorem own_d6_0 : decode prog_87_method_2_code 0 = .ok (.aload_n 0, 1) := by decide +kernel
theorem own_d6_1 : decode prog_87_method_2_code 1 = .ok (.getfield 7, 3) := by decide +kernel
theorem own_d6_4 : decode prog_87_method_2_code 4 = .ok (.areturn, 1) := by decide +kernel
def own_Q_gfc (Z : State) (a1 : Addr) (u1 : Value) (h0 : Heap) (n0 : Nat) (v : Option Value) (h : Heap) (L : List Loc) : Prop := v = some u1 ∧ Fr n0 L ∧ h = h0
set_option maxRecDepth 65536 in
set_option maxHeartbeats 40000000 in
theorem own_m_gfc (l : Launch) (Z : State) (a0 : Array Value) (hw : ∀ d ∈ tables_1, d.before a0 Z = true) (ws : List Jvm.Cond) (a1 : Addr) (u1 : Value) (h0 : Heap) (n0 : Nat) (Z0 : n0 ≤ h0.size) (F1 : Fld Z h0 a1 "com/example/feuillet/feuillet/Node$Parent" "firstChild" "Lcom/example/feuillet/feuillet/Node;" u1) (hu : u1.isRef = true) :
    MetFree l (⟨"com/example/feuillet/feuillet/Node$Parent", "getFirstChild", "()Lcom/example/feuillet/feuillet/Node;"⟩ : MethodName) (head1 (Jvm.Cond.code (⟨"com/example/feuillet/feuillet/Node$Parent", "getFirstChild", "()Lcom/example/feuillet/feuillet/Node;"⟩ : MethodName) prog_87_method_2_code 1 (some (.object "com/example/feuillet/feuillet/Node")) :: ws) ({ frames := 0, cells := 0, slots := 0, locals := 0 } : Room)) (fun a U => a = #[(.ref a1)] ∧ Z.Warmed39 U.vm ∧ U.heap = h0) (fun _ _ _ _ _ => True) (fun _ U o U' => ∃ v L, o = .returned v ∧ own_Q_gfc Z a1 u1 h0 n0 v U'.heap L ∧ FrameEnd U o U' L ({ frames := 0, cells := 0, slots := 0, locals := 0 } : Room).cells ({ frames := 0, cells := 0, slots := 0, locals := 0 } : Room).slots) := by
  refine MetFree.of_bodySF (plainFor_of_name own_pn1) hisR ?_
  intro p e s m args below meth c s₁ Bd hml0 hP hK
  obtain ⟨rfl, hZ, hh⟩ := hP
  have hx := Bd.exec
  have hby := Bd.bytes
  have hml : c.maxLocals = 1 := hml0
  have hown : s.vm.findClass "com/example/feuillet/feuillet/Node$Parent" = some m.cls := findClass_of_methodNamed Bd.named
  have hnm := (name_of_methodNamed Bd.named Bd.method).1
  have X0 : Stand p l e ({ frames := 0, cells := 0, slots := 0, locals := 0 } : Room) s m #[(.ref a1)] below meth c s₁ [] 0 0 := Stand.of_body Bd
  have e0 : s₁.heap = h0 := by rw [← hh, Bd.state]; rfl
  have N0 := Fr.nil n0
  have K0 : Keep h0 h0 [] := Keep.refl _ _
  show own_Go p e below s ({ frames := 0, cells := 0, slots := 0, locals := 0 } : Room).cells ({ frames := 0, cells := 0, slots := 0, locals := 0 } : Room).slots (own_Q_gfc Z a1 u1 h0 n0) (s₁.setTop (entryFrame m #[(.ref a1)] 1))
  have ef : entryFrame m #[(.ref a1)] 1 = (mkF m 0 #[.val (.ref a1)] []) := by first | rfl | (simp [entryFrame, mkF, argsToLocals, Value.category, maxLocals]; done)
  rw [ef]
  show own_Go p e below s _ _ _ (s₁.setTop (mkF m 0 #[.val (.ref a1)] []))
  refine own_step (U' := (s₁.setTop (mkF m 1 #[.val (.ref a1)] [(.ref a1)]))) (fun t ht => XS.aloadN X0.here hx rfl (hb hby own_d6_0) rfl rfl ht) ?_
  obtain ⟨T16, X16, e16, st16⟩ := getF X0 hx hZ hown (host := "") (Or.inl (hw _ (List.mem_of_getElem? (i := 49) rfl))) Via.refl e0 F1 (g := (mkF m 1 #[.val (.ref a1)] [(.ref a1)])) rfl rfl (hb hby own_d6_1)
  refine own_step (U' := (T16.setTop (mkF m 4 #[.val (.ref a1)] [u1]))) (fun t ht => st16 _ ht) ?_
  refine own_ret X16 (v := (some u1)) (fun h => by rw [Bd.returns] at h; cases h) Bd.notSynchronized (by decide) (by decide) ?_ (fun fs hr => retOut X16 hx Bd.returns (own_narR hu) (Or.inr (Or.inr (Or.inr (Or.inr ⟨rfl, rfl, hu⟩)))) (hb hby own_d6_4) hr)
  show own_Q_gfc Z a1 u1 h0 n0 _ T16.heap _
  rw [e16]
  exact ⟨rfl, N0, rfl⟩
theorem own_d7_0 : decode prog_86_method_3_code 0 = .ok (.aload_n 0, 1) := by decide +kernel
theorem own_d7_1 : decode prog_86_method_3_code 1 = .ok (.getfield 13, 3) := by decide +kernel
theorem own_d7_4 : decode prog_86_method_3_code 4 = .ok (.areturn, 1) := by decide +kernel
def own_Q_gns (Z : State) (a1 : Addr) (u1 : Value) (h0 : Heap) (n0 : Nat) (v : Option Value) (h : Heap) (L : List Loc) : Prop := v = some u1 ∧ Fr n0 L ∧ h = h0
set_option maxRecDepth 65536 in
set_option maxHeartbeats 40000000 in
theorem own_m_gns (l : Launch) (Z : State) (a0 : Array Value) (hw : ∀ d ∈ tables_1, d.before a0 Z = true) (ws : List Jvm.Cond) (a1 : Addr) (u1 : Value) (h0 : Heap) (n0 : Nat) (Z0 : n0 ≤ h0.size) (F1 : Fld Z h0 a1 "com/example/feuillet/feuillet/Node" "nextSibling" "Lcom/example/feuillet/feuillet/Node;" u1) (hu : u1.isRef = true) :
    MetFree l (⟨"com/example/feuillet/feuillet/Node", "getNextSibling", "()Lcom/example/feuillet/feuillet/Node;"⟩ : MethodName) (head1 (Jvm.Cond.code (⟨"com/example/feuillet/feuillet/Node", "getNextSibling", "()Lcom/example/feuillet/feuillet/Node;"⟩ : MethodName) prog_86_method_3_code 1 (some (.object "com/example/feuillet/feuillet/Node")) :: ws) ({ frames := 0, cells := 0, slots := 0, locals := 0 } : Room)) (fun a U => a = #[(.ref a1)] ∧ Z.Warmed39 U.vm ∧ U.heap = h0) (fun _ _ _ _ _ => True) (fun _ U o U' => ∃ v L, o = .returned v ∧ own_Q_gns Z a1 u1 h0 n0 v U'.heap L ∧ FrameEnd U o U' L ({ frames := 0, cells := 0, slots := 0, locals := 0 } : Room).cells ({ frames := 0, cells := 0, slots := 0, locals := 0 } : Room).slots) := by
  refine MetFree.of_bodySF (plainFor_of_name own_pn0) hisR ?_
  intro p e s m args below meth c s₁ Bd hml0 hP hK
  obtain ⟨rfl, hZ, hh⟩ := hP
  have hx := Bd.exec
  have hby := Bd.bytes
  have hml : c.maxLocals = 1 := hml0
  have hown : s.vm.findClass "com/example/feuillet/feuillet/Node" = some m.cls := findClass_of_methodNamed Bd.named
  have hnm := (name_of_methodNamed Bd.named Bd.method).1
  have X0 : Stand p l e ({ frames := 0, cells := 0, slots := 0, locals := 0 } : Room) s m #[(.ref a1)] below meth c s₁ [] 0 0 := Stand.of_body Bd
  have e0 : s₁.heap = h0 := by rw [← hh, Bd.state]; rfl
  have N0 := Fr.nil n0
  have K0 : Keep h0 h0 [] := Keep.refl _ _
  show own_Go p e below s ({ frames := 0, cells := 0, slots := 0, locals := 0 } : Room).cells ({ frames := 0, cells := 0, slots := 0, locals := 0 } : Room).slots (own_Q_gns Z a1 u1 h0 n0) (s₁.setTop (entryFrame m #[(.ref a1)] 1))
  have ef : entryFrame m #[(.ref a1)] 1 = (mkF m 0 #[.val (.ref a1)] []) := by first | rfl | (simp [entryFrame, mkF, argsToLocals, Value.category, maxLocals]; done)
  rw [ef]
  show own_Go p e below s _ _ _ (s₁.setTop (mkF m 0 #[.val (.ref a1)] []))
  refine own_step (U' := (s₁.setTop (mkF m 1 #[.val (.ref a1)] [(.ref a1)]))) (fun t ht => XS.aloadN X0.here hx rfl (hb hby own_d7_0) rfl rfl ht) ?_
  obtain ⟨T17, X17, e17, st17⟩ := getF X0 hx hZ hown (host := "") (Or.inl (hw _ (List.mem_of_getElem? (i := 57) rfl))) Via.refl e0 F1 (g := (mkF m 1 #[.val (.ref a1)] [(.ref a1)])) rfl rfl (hb hby own_d7_1)
  refine own_step (U' := (T17.setTop (mkF m 4 #[.val (.ref a1)] [u1]))) (fun t ht => st17 _ ht) ?_
  refine own_ret X17 (v := (some u1)) (fun h => by rw [Bd.returns] at h; cases h) Bd.notSynchronized (by decide) (by decide) ?_ (fun fs hr => retOut X17 hx Bd.returns (own_narR hu) (Or.inr (Or.inr (Or.inr (Or.inr ⟨rfl, rfl, hu⟩)))) (hb hby own_d7_4) hr)
  show own_Q_gns Z a1 u1 h0 n0 _ T17.heap _
  rw [e17]
  exact ⟨rfl, N0, rfl⟩
theorem own_d8_0 : decode prog_86_method_2_code 0 = .ok (.aload_n 0, 1) := by decide +kernel
theorem own_d8_1 : decode prog_86_method_2_code 1 = .ok (.getfield 7, 3) := by decide +kernel
theorem own_d8_4 : decode prog_86_method_2_code 4 = .ok (.areturn, 1) := by decide +kernel
def own_Q_gpn (Z : State) (a1 : Addr) (u1 : Value) (h0 : Heap) (n0 : Nat) (v : Option Value) (h : Heap) (L : List Loc) : Prop := v = some u1 ∧ Fr n0 L ∧ h = h0
set_option maxRecDepth 65536 in
set_option maxHeartbeats 40000000 in
theorem own_m_gpn (l : Launch) (Z : State) (a0 : Array Value) (hw : ∀ d ∈ tables_1, d.before a0 Z = true) (ws : List Jvm.Cond) (a1 : Addr) (u1 : Value) (h0 : Heap) (n0 : Nat) (Z0 : n0 ≤ h0.size) (F1 : Fld Z h0 a1 "com/example/feuillet/feuillet/Node" "parent" "Lcom/example/feuillet/feuillet/Node$Parent;" u1) (hu : u1.isRef = true) :
    MetFree l (⟨"com/example/feuillet/feuillet/Node", "getParentNode", "()Lcom/example/feuillet/feuillet/Node$Parent;"⟩ : MethodName) (head1 (Jvm.Cond.code (⟨"com/example/feuillet/feuillet/Node", "getParentNode", "()Lcom/example/feuillet/feuillet/Node$Parent;"⟩ : MethodName) prog_86_method_2_code 1 (some (.object "com/example/feuillet/feuillet/Node$Parent")) :: ws) ({ frames := 0, cells := 0, slots := 0, locals := 0 } : Room)) (fun a U => a = #[(.ref a1)] ∧ Z.Warmed39 U.vm ∧ U.heap = h0) (fun _ _ _ _ _ => True) (fun _ U o U' => ∃ v L, o = .returned v ∧ own_Q_gpn Z a1 u1 h0 n0 v U'.heap L ∧ FrameEnd U o U' L ({ frames := 0, cells := 0, slots := 0, locals := 0 } : Room).cells ({ frames := 0, cells := 0, slots := 0, locals := 0 } : Room).slots) := by
  refine MetFree.of_bodySF (plainFor_of_name own_pn0) hisR ?_
  intro p e s m args below meth c s₁ Bd hml0 hP hK
  obtain ⟨rfl, hZ, hh⟩ := hP
  have hx := Bd.exec
  have hby := Bd.bytes
  have hml : c.maxLocals = 1 := hml0
  have hown : s.vm.findClass "com/example/feuillet/feuillet/Node" = some m.cls := findClass_of_methodNamed Bd.named
  have hnm := (name_of_methodNamed Bd.named Bd.method).1
  have X0 : Stand p l e ({ frames := 0, cells := 0, slots := 0, locals := 0 } : Room) s m #[(.ref a1)] below meth c s₁ [] 0 0 := Stand.of_body Bd
  have e0 : s₁.heap = h0 := by rw [← hh, Bd.state]; rfl
  have N0 := Fr.nil n0
  have K0 : Keep h0 h0 [] := Keep.refl _ _
  show own_Go p e below s ({ frames := 0, cells := 0, slots := 0, locals := 0 } : Room).cells ({ frames := 0, cells := 0, slots := 0, locals := 0 } : Room).slots (own_Q_gpn Z a1 u1 h0 n0) (s₁.setTop (entryFrame m #[(.ref a1)] 1))
  have ef : entryFrame m #[(.ref a1)] 1 = (mkF m 0 #[.val (.ref a1)] []) := by first | rfl | (simp [entryFrame, mkF, argsToLocals, Value.category, maxLocals]; done)
  rw [ef]
  show own_Go p e below s _ _ _ (s₁.setTop (mkF m 0 #[.val (.ref a1)] []))
  refine own_step (U' := (s₁.setTop (mkF m 1 #[.val (.ref a1)] [(.ref a1)]))) (fun t ht => XS.aloadN X0.here hx rfl (hb hby own_d8_0) rfl rfl ht) ?_
  obtain ⟨T18, X18, e18, st18⟩ := getF X0 hx hZ hown (host := "") (Or.inl (hw _ (List.mem_of_getElem? (i := 65) rfl))) Via.refl e0 F1 (g := (mkF m 1 #[.val (.ref a1)] [(.ref a1)])) rfl rfl (hb hby own_d8_1)
  refine own_step (U' := (T18.setTop (mkF m 4 #[.val (.ref a1)] [u1]))) (fun t ht => st18 _ ht) ?_
  refine own_ret X18 (v := (some u1)) (fun h => by rw [Bd.returns] at h; cases h) Bd.notSynchronized (by decide) (by decide) ?_ (fun fs hr => retOut X18 hx Bd.returns (own_narR hu) (Or.inr (Or.inr (Or.inr (Or.inr ⟨rfl, rfl, hu⟩)))) (hb hby own_d8_4) hr)
  show own_Q_gpn Z a1 u1 h0 n0 _ T18.heap _
  rw [e18]
  exact ⟨rfl, N0, rfl⟩
theorem own_pn4 : plainName "com/example/feuillet/feuillet/ParentAppendPinLaw" = true := by first | (simp [plainName, overriddenIn]; done) | decide +kernel
theorem own_pd1 : parseMethodDescriptor "(Ljava/lang/String;Ljava/lang/String;)V" = some ⟨[(.object "java/lang/String"), (.object "java/lang/String")], none⟩ := by decide +kernel
theorem own_pd2 : parseMethodDescriptor "()Lcom/example/feuillet/feuillet/Node;" = some ⟨[], some (.object "com/example/feuillet/feuillet/Node")⟩ := by decide +kernel
theorem own_pd3 : parseMethodDescriptor "()Lcom/example/feuillet/feuillet/Node$Parent;" = some ⟨[], some (.object "com/example/feuillet/feuillet/Node$Parent")⟩ := by decide +kernel
theorem own_pd4 : parseMethodDescriptor "(Lcom/example/feuillet/feuillet/Node;)V" = some ⟨[(.object "com/example/feuillet/feuillet/Node")], none⟩ := by decide +kernel
def own_Q_law (Z : State) (p1 : Int32) (h0 : Heap) (n0 : Nat) (v : Option Value) (h : Heap) (L : List Loc) : Prop := v = some (.int 1) ∧ Fr n0 L
set_option maxRecDepth 65536 in
set_option maxHeartbeats 40000000 in
theorem own_m_law (l : Launch) (Z : State) (a0 : Array Value) (hw : ∀ d ∈ tables_1, d.before a0 Z = true) (ws : List Jvm.Cond) (p1 : Int32) (h0 : Heap) (n0 : Nat) (Z0 : n0 ≤ h0.size)  :
    MetFree l x (head1 (Jvm.Cond.code x code maxLocals ret :: ws) room_1) (fun a U => a = #[(.int p1)] ∧ Z.Warmed39 U.vm ∧ U.heap = h0) (fun _ _ _ _ _ => True) (fun _ U o U' => ∃ v L, o = .returned v ∧ own_Q_law Z p1 h0 n0 v U'.heap L ∧ ReturnedEndW U o U' L 16 64) := by
  refine MetFree.of_bodySF (plainFor_of_name own_pn4) hisR ?_
  intro p e s m args below meth c s₁ Bd hml0 hP hK
  obtain ⟨rfl, hZ, hh⟩ := hP
  have hx := Bd.exec
  have hby := Bd.bytes
  have hml : c.maxLocals = 8 := hml0
  have hown : s.vm.findClass "com/example/feuillet/feuillet/ParentAppendPinLaw" = some m.cls := findClass_of_methodNamed Bd.named
  have hnm := (name_of_methodNamed Bd.named Bd.method).1
  have X0 : Stand p l e room_1 (s.setVm s.vm) m #[(.int p1)] below meth c s₁ [] 0 0 := Stand.of_body Bd
  have e0 : s₁.heap = h0 := by rw [← hh, Bd.state]; rfl
  have N0 := Fr.nil n0
  have K0 : Keep h0 h0 [] := Keep.refl _ _
  have hS0 : s.Since s.vm 0 := (State.WarmedH.refl _).since 0
  have hk0 : 0 ≤ (h0).size := Nat.zero_le _
  show own_GoW p e below s 16 64 (own_Q_law Z p1 h0 n0) (s₁.setTop (entryFrame m #[(.int p1)] maxLocals))
  have ef : entryFrame m #[(.int p1)] maxLocals = (mkF m 0 #[.val (.int p1), .unset, .unset, .unset, .unset, .unset, .unset, .unset] []) := by first | rfl | (simp [entryFrame, mkF, argsToLocals, Value.category, maxLocals]; done)
  rw [ef]
  have own_wS : ∀ d ∈ Bundle.stringAtoms, d.before a0 Z = true := by
    intro d hd
    simp only [Bundle.stringAtoms, List.mem_cons, List.not_mem_nil, or_false] at hd
    rcases hd with rfl | rfl | rfl | rfl | rfl | rfl | rfl
    · exact (hw _ (List.mem_of_getElem? (i := 23) rfl))
    · exact (hw _ (List.mem_of_getElem? (i := 24) rfl))
    · exact (hw _ (List.mem_of_getElem? (i := 25) rfl))
    · exact (hw _ (List.mem_of_getElem? (i := 26) rfl))
    · exact (hw _ (List.mem_of_getElem? (i := 27) rfl))
    · exact (hw _ (List.mem_of_getElem? (i := 28) rfl))
    · exact (hw _ (List.mem_of_getElem? (i := 29) rfl))
  show own_GoW p e below s _ _ _ (s₁.setTop (mkF m 0 #[.val (.int p1), .unset, .unset, .unset, .unset, .unset, .unset, .unset] []))
  refine own_stepW (U' := (s₁.setTop (mkF m 1 #[.val (.int p1), .unset, .unset, .unset, .unset, .unset, .unset, .unset] [(.int p1)]))) (fun t ht => XS.iloadN X0.here hx rfl (hb hby at_0) rfl ht) ?_
  refine own_stepW (U' := (s₁.setTop (mkF m 2 #[.val (.int p1), .unset, .unset, .unset, .unset, .unset, .unset, .unset] [(.int (3 : Int32)), (.int p1)]))) (fun t ht => XS.iconst X0.here hx rfl (hb hby at_1) ht) ?_
  refine own_stepW (U' := (s₁.setTop (mkF m 3 #[.val (.int p1), .unset, .unset, .unset, .unset, .unset, .unset, .unset] [(.int (p1 &&& (3 : Int32)))]))) (fun t ht => XS.iand X0.here hx rfl (hb hby at_2) rfl ht) ?_
  refine own_stepW (U' := (s₁.setTop (mkF m 4 #[.val (.int p1), .val (.int (p1 &&& (3 : Int32))), .unset, .unset, .unset, .unset, .unset, .unset] []))) (fun t ht => XS.istoreN X0.here hx rfl (hb hby at_3) rfl (l' := #[.val (.int p1), .val (.int (p1 &&& (3 : Int32))), .unset, .unset, .unset, .unset, .unset, .unset]) rfl ht) ?_
  generalize h_nn : (p1 &&& (3 : Int32)) = nn
  obtain ⟨T19, h19, X19, e19, E19, A19, D19, -, st19⟩ := newO X0 hx hZ hown (hw _ (List.mem_of_getElem? (i := 0) rfl)) (hw _ (List.mem_of_getElem? (i := 1) rfl)) (hw _ (List.mem_of_getElem? (i := 2) rfl)) e0 (g := (mkF m 4 #[.val (.int p1), .val (.int nn), .unset, .unset, .unset, .unset, .unset, .unset] [])) rfl (hb hby at_4) (by decide) (by decide)
  obtain ⟨b19, g19⟩ : ∃ z, z = (h0).size := ⟨_, rfl⟩
  rw [← g19] at A19 D19 st19
  have g_b19 : n0 ≤ b19 := Nat.le_trans (Nat.le_trans Z0 K0.1) (Nat.le_of_eq g19.symm)
  have sz_b19 : h0.size ≤ b19 := Nat.le_trans K0.1 (Nat.le_of_eq g19.symm)
  have f19_0 : 0 ≤ (h19).size := Nat.le_trans hk0 E19.1
  have K19 : Keep h0 h19 [] := K0.ext E19
  have F19_50 : Fld Z h19 b19 "com/example/feuillet/feuillet/Node$Parent" "firstChild" "Lcom/example/feuillet/feuillet/Node;" .null := D19 (Or.inl (hw _ (List.mem_of_getElem? (i := 50) rfl))) (ty := (.object "com/example/feuillet/feuillet/Node")) (by decide)
  have F19_75 : Fld Z h19 b19 "com/example/feuillet/feuillet/Node$Parent" "lastChild" "Lcom/example/feuillet/feuillet/Node;" .null := D19 (Or.inl (hw _ (List.mem_of_getElem? (i := 75) rfl))) (ty := (.object "com/example/feuillet/feuillet/Node")) (by decide)
  refine own_stepW (U' := (T19.setTop (mkF m 7 #[.val (.int p1), .val (.int nn), .unset, .unset, .unset, .unset, .unset, .unset] [(.ref b19)]))) (fun t ht => st19 _ ht) ?_
  refine own_stepW (U' := (T19.setTop (mkF m 8 #[.val (.int p1), .val (.int nn), .unset, .unset, .unset, .unset, .unset, .unset] [(.ref b19), (.ref b19)]))) (fun t ht => XS.dup X19.here hx rfl (hb hby at_7) rfl rfl ht) ?_
  obtain ⟨_, _, ⟨T20, L20, k20, n20⟩, -, X20, ⟨Lc20, hQ20, l20, y20, z20⟩, st20⟩ := X19.specialBack hx (y := (⟨"com/example/feuillet/feuillet/Document", "<init>", "()V"⟩ : MethodName)) rfl hown (mvT hZ (hw _ (List.mem_of_getElem? (i := 3) rfl))) (mvT hZ (hw _ (List.mem_of_getElem? (i := 4) rfl))) (mvT hZ (hw _ (List.mem_of_getElem? (i := 5) rfl))) (by decide) (backOf (W := 1) (own_m_doi l Z a0 hw [] (b19) h19 n0 (Nat.le_trans Z0 K19.1) ) hZ (hw _ (List.mem_of_getElem? (i := 5) rfl)) (hw _ (List.mem_of_getElem? (i := 2) rfl)) (by decide) (by decide)) (g := (mkF m 8 #[.val (.int p1), .val (.int nn), .unset, .unset, .unset, .unset, .unset, .unset] [(.ref b19), (.ref b19)])) rfl (by rw [hml]; rfl) (Steps.refl _) (a := b19) (argsL := []) (rest := [(.ref b19)]) (lenOf own_pd0 rfl) rfl (by show 2 * 0 + _ ≤ _; exact Nat.le_of_eq rfl) (hb hby at_8) (fun _ _ => ⟨rfl, e19, (by decide : 1 + 0 ≤ _), (by decide : 4 + 0 ≤ _)⟩)
  dsimp only [Pt.U, Pt.locs, Pt.cells, Pt.slots] at X20 l20 y20 z20 st20 hQ20
  subst l20 y20 z20
  obtain ⟨rfl, Nq20, Kq20⟩ := hQ20
  have N20 := Fr.app N0 Nq20
  have e20 : T20.heap = h19 := Kq20
  refine own_stepW (U' := (T20.setTop (mkF m 11 #[.val (.int p1), .val (.int nn), .unset, .unset, .unset, .unset, .unset, .unset] [(.ref b19)]))) (fun t ht => st20.trans ht) ?_
  refine own_stepW (U' := (T20.setTop (mkF m 12 #[.val (.int p1), .val (.int nn), .val (.ref b19), .unset, .unset, .unset, .unset, .unset] []))) (fun t ht => XS.astoreN X20.here hx rfl (hb hby at_11) rfl rfl (l' := #[.val (.int p1), .val (.int nn), .val (.ref b19), .unset, .unset, .unset, .unset, .unset]) rfl ht) ?_
  obtain ⟨T21, h21, X21, e21, E21, A21, D21, -, st21⟩ := newO X20 hx hZ hown (hw _ (List.mem_of_getElem? (i := 19) rfl)) (hw _ (List.mem_of_getElem? (i := 20) rfl)) (hw _ (List.mem_of_getElem? (i := 21) rfl)) e20 (g := (mkF m 12 #[.val (.int p1), .val (.int nn), .val (.ref b19), .unset, .unset, .unset, .unset, .unset] [])) rfl (hb hby at_12) (by decide) (by decide)
  obtain ⟨b21, g21⟩ : ∃ z, z = (h19).size := ⟨_, rfl⟩
  rw [← g21] at A21 D21 st21
  have ne_b19_b21 : b19 ≠ b21 := Nat.ne_of_lt (Nat.lt_of_lt_of_le A19.lt (Nat.le_of_eq g21.symm))
  have g_b21 : n0 ≤ b21 := Nat.le_trans (Nat.le_trans Z0 K19.1) (Nat.le_of_eq g21.symm)
  have sz_b21 : h0.size ≤ b21 := Nat.le_trans K19.1 (Nat.le_of_eq g21.symm)
  have f21_0 : 0 ≤ (h21).size := Nat.le_trans f19_0 E21.1
  have f21_1 : Exa Z h21 b19 "com/example/feuillet/feuillet/Document" := A19.ext E21
  have f21_2 : Fld Z h21 b19 "com/example/feuillet/feuillet/Node$Parent" "firstChild" "Lcom/example/feuillet/feuillet/Node;" .null := F19_50.ext E21
  have f21_3 : Fld Z h21 b19 "com/example/feuillet/feuillet/Node$Parent" "lastChild" "Lcom/example/feuillet/feuillet/Node;" .null := F19_75.ext E21
  have K21 : Keep h0 h21 [] := K19.ext E21
  have F21_36 : Fld Z h21 b21 "com/example/feuillet/feuillet/ProcessingInstruction" "target" "Ljava/lang/String;" .null := D21 (Or.inr (hw _ (List.mem_of_getElem? (i := 36) rfl))) (ty := (.object "java/lang/String")) (by decide)
  have F21_38 : Fld Z h21 b21 "com/example/feuillet/feuillet/ProcessingInstruction" "data" "Ljava/lang/String;" .null := D21 (Or.inr (hw _ (List.mem_of_getElem? (i := 38) rfl))) (ty := (.object "java/lang/String")) (by decide)
  have F21_58 : Fld Z h21 b21 "com/example/feuillet/feuillet/Node" "nextSibling" "Lcom/example/feuillet/feuillet/Node;" .null := D21 (Or.inl (hw _ (List.mem_of_getElem? (i := 58) rfl))) (ty := (.object "com/example/feuillet/feuillet/Node")) (by decide)
  have F21_66 : Fld Z h21 b21 "com/example/feuillet/feuillet/Node" "parent" "Lcom/example/feuillet/feuillet/Node$Parent;" .null := D21 (Or.inl (hw _ (List.mem_of_getElem? (i := 66) rfl))) (ty := (.object "com/example/feuillet/feuillet/Node$Parent")) (by decide)
  refine own_stepW (U' := (T21.setTop (mkF m 15 #[.val (.int p1), .val (.int nn), .val (.ref b19), .unset, .unset, .unset, .unset, .unset] [(.ref b21)]))) (fun t ht => st21 _ ht) ?_
  refine own_stepW (U' := (T21.setTop (mkF m 16 #[.val (.int p1), .val (.int nn), .val (.ref b19), .unset, .unset, .unset, .unset, .unset] [(.ref b21), (.ref b21)]))) (fun t ht => XS.dup X21.here hx rfl (hb hby at_15) rfl rfl ht) ?_
  obtain ⟨a22, T22, h22, k22, X22, e22, E22, hS22, hk22, hZ, hown, st22⟩ := ldcS X21 hx hZ hown (hw _ (List.mem_of_getElem? (i := 22) rfl)) own_wS e21 hS0 f21_0 (g := (mkF m 16 #[.val (.int p1), .val (.int nn), .val (.ref b19), .unset, .unset, .unset, .unset, .unset] [(.ref b21), (.ref b21)])) rfl (hb hby at_16) (n := 4) (by decide) (by decide) (by decide) (by decide)
  have f22_0 : Exa Z h22 b19 "com/example/feuillet/feuillet/Document" := f21_1.ext E22
  have f22_1 : Fld Z h22 b19 "com/example/feuillet/feuillet/Node$Parent" "firstChild" "Lcom/example/feuillet/feuillet/Node;" .null := f21_2.ext E22
  have f22_2 : Fld Z h22 b19 "com/example/feuillet/feuillet/Node$Parent" "lastChild" "Lcom/example/feuillet/feuillet/Node;" .null := f21_3.ext E22
  have f22_3 : Exa Z h22 b21 "com/example/feuillet/feuillet/ProcessingInstruction" := A21.ext E22
  have f22_4 : Fld Z h22 b21 "com/example/feuillet/feuillet/ProcessingInstruction" "target" "Ljava/lang/String;" .null := F21_36.ext E22
  have f22_5 : Fld Z h22 b21 "com/example/feuillet/feuillet/ProcessingInstruction" "data" "Ljava/lang/String;" .null := F21_38.ext E22
  have f22_6 : Fld Z h22 b21 "com/example/feuillet/feuillet/Node" "nextSibling" "Lcom/example/feuillet/feuillet/Node;" .null := F21_58.ext E22
  have f22_7 : Fld Z h22 b21 "com/example/feuillet/feuillet/Node" "parent" "Lcom/example/feuillet/feuillet/Node$Parent;" .null := F21_66.ext E22
  have K22 : Keep h0 h22 [] := K21.ext E22
  refine own_stepW (U' := (T22.setTop (mkF m 18 #[.val (.int p1), .val (.int nn), .val (.ref b19), .unset, .unset, .unset, .unset, .unset] [(.ref a22), (.ref b21), (.ref b21)]))) (fun t ht => st22 _ ht) ?_
  obtain ⟨a23, T23, h23, k23, X23, e23, E23, hS23, hk23, hZ, hown, st23⟩ := ldcS X22 hx hZ hown (hw _ (List.mem_of_getElem? (i := 30) rfl)) own_wS e22 hS22 hk22 (g := (mkF m 18 #[.val (.int p1), .val (.int nn), .val (.ref b19), .unset, .unset, .unset, .unset, .unset] [(.ref a22), (.ref b21), (.ref b21)])) rfl (hb hby at_18) (n := 4) (by decide) (by decide) (by decide) (by decide)
  have f23_0 : Exa Z h23 b19 "com/example/feuillet/feuillet/Document" := f22_0.ext E23
  have f23_1 : Fld Z h23 b19 "com/example/feuillet/feuillet/Node$Parent" "firstChild" "Lcom/example/feuillet/feuillet/Node;" .null := f22_1.ext E23
  have f23_2 : Fld Z h23 b19 "com/example/feuillet/feuillet/Node$Parent" "lastChild" "Lcom/example/feuillet/feuillet/Node;" .null := f22_2.ext E23
  have f23_3 : Exa Z h23 b21 "com/example/feuillet/feuillet/ProcessingInstruction" := f22_3.ext E23
  have f23_4 : Fld Z h23 b21 "com/example/feuillet/feuillet/ProcessingInstruction" "target" "Ljava/lang/String;" .null := f22_4.ext E23
  have f23_5 : Fld Z h23 b21 "com/example/feuillet/feuillet/ProcessingInstruction" "data" "Ljava/lang/String;" .null := f22_5.ext E23
  have f23_6 : Fld Z h23 b21 "com/example/feuillet/feuillet/Node" "nextSibling" "Lcom/example/feuillet/feuillet/Node;" .null := f22_6.ext E23
  have f23_7 : Fld Z h23 b21 "com/example/feuillet/feuillet/Node" "parent" "Lcom/example/feuillet/feuillet/Node$Parent;" .null := f22_7.ext E23
  have K23 : Keep h0 h23 [] := K22.ext E23
  refine own_stepW (U' := (T23.setTop (mkF m 20 #[.val (.int p1), .val (.int nn), .val (.ref b19), .unset, .unset, .unset, .unset, .unset] [(.ref a23), (.ref a22), (.ref b21), (.ref b21)]))) (fun t ht => st23 _ ht) ?_
  obtain ⟨_, _, ⟨T24, L24, k24, n24⟩, -, X24, ⟨Lc24, hQ24, l24, y24, z24⟩, st24⟩ := X23.specialBack hx (y := (⟨"com/example/feuillet/feuillet/ProcessingInstruction", "<init>", "(Ljava/lang/String;Ljava/lang/String;)V"⟩ : MethodName)) rfl hown (mvT hZ (hw _ (List.mem_of_getElem? (i := 31) rfl))) (mvT hZ (hw _ (List.mem_of_getElem? (i := 32) rfl))) (mvT hZ (hw _ (List.mem_of_getElem? (i := 33) rfl))) (by decide) (backOf (W := 1) (own_m_pii l Z a0 hw [] (b21) (a22) (a23) (.null) (.null) (.null) (.null) h23 n0 (Nat.le_trans Z0 K23.1) g_b21 f23_4 f23_5 f23_7 f23_6 f23_3) hZ (hw _ (List.mem_of_getElem? (i := 33) rfl)) (hw _ (List.mem_of_getElem? (i := 21) rfl)) (by decide) (by decide)) (g := (mkF m 20 #[.val (.int p1), .val (.int nn), .val (.ref b19), .unset, .unset, .unset, .unset, .unset] [(.ref a23), (.ref a22), (.ref b21), (.ref b21)])) rfl (by rw [hml]; rfl) (Steps.refl _) (a := b21) (argsL := [(.ref a22), (.ref a23)]) (rest := [(.ref b21)]) (lenOf own_pd1 rfl) rfl (by show 2 * 0 + _ ≤ _; exact Nat.le_of_eq rfl) (hb hby at_20) (fun _ _ => ⟨rfl, e23, (by decide : 6 + 0 ≤ _), (by decide : 24 + 0 ≤ _)⟩)
  dsimp only [Pt.U, Pt.locs, Pt.cells, Pt.slots] at X24 l24 y24 z24 st24 hQ24
  subst l24 y24 z24
  obtain ⟨rfl, Nq24, Kq24, Fq24_0, Fq24_1, Fq24_2⟩ := hQ24
  have N24 := Fr.app N20 Nq24
  have f24_0 : Exa Z T24.heap b19 "com/example/feuillet/feuillet/Document" := f23_0.keep Kq24
  have f24_1 : Fld Z T24.heap b19 "com/example/feuillet/feuillet/Node$Parent" "firstChild" "Lcom/example/feuillet/feuillet/Node;" .null := f23_1.keep Kq24 (ninS ne_b19_b21 nin0)
  have f24_2 : Fld Z T24.heap b19 "com/example/feuillet/feuillet/Node$Parent" "lastChild" "Lcom/example/feuillet/feuillet/Node;" .null := f23_2.keep Kq24 (ninS ne_b19_b21 nin0)
  have f24_3 : Exa Z T24.heap b21 "com/example/feuillet/feuillet/ProcessingInstruction" := f23_3.keep Kq24
  have f24_8 : k23 ≤ (T24.heap).size := Nat.le_trans hk23 Kq24.1
  have K24 : Keep h0 T24.heap [] := K23.trans Kq24 (allS (Or.inr sz_b21) all0)
  refine own_stepW (U' := (T24.setTop (mkF m 23 #[.val (.int p1), .val (.int nn), .val (.ref b19), .unset, .unset, .unset, .unset, .unset] [(.ref b21)]))) (fun t ht => st24.trans ht) ?_
  refine own_stepW (U' := (T24.setTop (mkF m 24 #[.val (.int p1), .val (.int nn), .val (.ref b19), .val (.ref b21), .unset, .unset, .unset, .unset] []))) (fun t ht => XS.astoreN X24.here hx rfl (hb hby at_23) rfl rfl (l' := #[.val (.int p1), .val (.int nn), .val (.ref b19), .val (.ref b21), .unset, .unset, .unset, .unset]) rfl ht) ?_
  obtain ⟨T25, h25, X25, e25, E25, A25, D25, -, st25⟩ := newO X24 hx hZ hown (hw _ (List.mem_of_getElem? (i := 19) rfl)) (hw _ (List.mem_of_getElem? (i := 20) rfl)) (hw _ (List.mem_of_getElem? (i := 21) rfl)) rfl (g := (mkF m 24 #[.val (.int p1), .val (.int nn), .val (.ref b19), .val (.ref b21), .unset, .unset, .unset, .unset] [])) rfl (hb hby at_24) (by decide) (by decide)
  obtain ⟨b25, g25⟩ : ∃ z, z = (T24.heap).size := ⟨_, rfl⟩
  rw [← g25] at A25 D25 st25
  have ne_b19_b25 : b19 ≠ b25 := Nat.ne_of_lt (Nat.lt_of_lt_of_le f24_0.lt (Nat.le_of_eq g25.symm))
  have ne_b21_b25 : b21 ≠ b25 := Nat.ne_of_lt (Nat.lt_of_lt_of_le Fq24_0.lt (Nat.le_of_eq g25.symm))
  have g_b25 : n0 ≤ b25 := Nat.le_trans (Nat.le_trans Z0 K24.1) (Nat.le_of_eq g25.symm)
  have sz_b25 : h0.size ≤ b25 := Nat.le_trans K24.1 (Nat.le_of_eq g25.symm)
  have f25_0 : Exa Z h25 b19 "com/example/feuillet/feuillet/Document" := f24_0.ext E25
  have f25_1 : Fld Z h25 b19 "com/example/feuillet/feuillet/Node$Parent" "firstChild" "Lcom/example/feuillet/feuillet/Node;" .null := f24_1.ext E25
  have f25_2 : Fld Z h25 b19 "com/example/feuillet/feuillet/Node$Parent" "lastChild" "Lcom/example/feuillet/feuillet/Node;" .null := f24_2.ext E25
  have f25_3 : k23 ≤ (h25).size := Nat.le_trans f24_8 E25.1
  have f25_4 : Fld Z h25 b21 "com/example/feuillet/feuillet/Node" "parent" "Lcom/example/feuillet/feuillet/Node$Parent;" .null := Fq24_0.ext E25
  have f25_5 : Fld Z h25 b21 "com/example/feuillet/feuillet/Node" "nextSibling" "Lcom/example/feuillet/feuillet/Node;" .null := Fq24_1.ext E25
  have f25_6 : Exa Z h25 b21 "com/example/feuillet/feuillet/ProcessingInstruction" := Fq24_2.ext E25
  have K25 : Keep h0 h25 [] := K24.ext E25
  have F25_36 : Fld Z h25 b25 "com/example/feuillet/feuillet/ProcessingInstruction" "target" "Ljava/lang/String;" .null := D25 (Or.inr (hw _ (List.mem_of_getElem? (i := 36) rfl))) (ty := (.object "java/lang/String")) (by decide)
  have F25_38 : Fld Z h25 b25 "com/example/feuillet/feuillet/ProcessingInstruction" "data" "Ljava/lang/String;" .null := D25 (Or.inr (hw _ (List.mem_of_getElem? (i := 38) rfl))) (ty := (.object "java/lang/String")) (by decide)
  have F25_58 : Fld Z h25 b25 "com/example/feuillet/feuillet/Node" "nextSibling" "Lcom/example/feuillet/feuillet/Node;" .null := D25 (Or.inl (hw _ (List.mem_of_getElem? (i := 58) rfl))) (ty := (.object "com/example/feuillet/feuillet/Node")) (by decide)
  have F25_66 : Fld Z h25 b25 "com/example/feuillet/feuillet/Node" "parent" "Lcom/example/feuillet/feuillet/Node$Parent;" .null := D25 (Or.inl (hw _ (List.mem_of_getElem? (i := 66) rfl))) (ty := (.object "com/example/feuillet/feuillet/Node$Parent")) (by decide)
  refine own_stepW (U' := (T25.setTop (mkF m 27 #[.val (.int p1), .val (.int nn), .val (.ref b19), .val (.ref b21), .unset, .unset, .unset, .unset] [(.ref b25)]))) (fun t ht => st25 _ ht) ?_
  refine own_stepW (U' := (T25.setTop (mkF m 28 #[.val (.int p1), .val (.int nn), .val (.ref b19), .val (.ref b21), .unset, .unset, .unset, .unset] [(.ref b25), (.ref b25)]))) (fun t ht => XS.dup X25.here hx rfl (hb hby at_27) rfl rfl ht) ?_
  obtain ⟨a26, T26, h26, k26, X26, e26, E26, hS26, hk26, hZ, hown, st26⟩ := ldcS X25 hx hZ hown (hw _ (List.mem_of_getElem? (i := 39) rfl)) own_wS e25 hS23 f25_3 (g := (mkF m 28 #[.val (.int p1), .val (.int nn), .val (.ref b19), .val (.ref b21), .unset, .unset, .unset, .unset] [(.ref b25), (.ref b25)])) rfl (hb hby at_28) (n := 4) (by decide) (by decide) (by decide) (by decide)
  have f26_0 : Exa Z h26 b19 "com/example/feuillet/feuillet/Document" := f25_0.ext E26
  have f26_1 : Fld Z h26 b19 "com/example/feuillet/feuillet/Node$Parent" "firstChild" "Lcom/example/feuillet/feuillet/Node;" .null := f25_1.ext E26
  have f26_2 : Fld Z h26 b19 "com/example/feuillet/feuillet/Node$Parent" "lastChild" "Lcom/example/feuillet/feuillet/Node;" .null := f25_2.ext E26
  have f26_3 : Fld Z h26 b21 "com/example/feuillet/feuillet/Node" "parent" "Lcom/example/feuillet/feuillet/Node$Parent;" .null := f25_4.ext E26
  have f26_4 : Fld Z h26 b21 "com/example/feuillet/feuillet/Node" "nextSibling" "Lcom/example/feuillet/feuillet/Node;" .null := f25_5.ext E26
  have f26_5 : Exa Z h26 b21 "com/example/feuillet/feuillet/ProcessingInstruction" := f25_6.ext E26
  have f26_6 : Exa Z h26 b25 "com/example/feuillet/feuillet/ProcessingInstruction" := A25.ext E26
  have f26_7 : Fld Z h26 b25 "com/example/feuillet/feuillet/ProcessingInstruction" "target" "Ljava/lang/String;" .null := F25_36.ext E26
  have f26_8 : Fld Z h26 b25 "com/example/feuillet/feuillet/ProcessingInstruction" "data" "Ljava/lang/String;" .null := F25_38.ext E26
  have f26_9 : Fld Z h26 b25 "com/example/feuillet/feuillet/Node" "nextSibling" "Lcom/example/feuillet/feuillet/Node;" .null := F25_58.ext E26
  have f26_10 : Fld Z h26 b25 "com/example/feuillet/feuillet/Node" "parent" "Lcom/example/feuillet/feuillet/Node$Parent;" .null := F25_66.ext E26
  have K26 : Keep h0 h26 [] := K25.ext E26
  refine own_stepW (U' := (T26.setTop (mkF m 30 #[.val (.int p1), .val (.int nn), .val (.ref b19), .val (.ref b21), .unset, .unset, .unset, .unset] [(.ref a26), (.ref b25), (.ref b25)]))) (fun t ht => st26 _ ht) ?_
  obtain ⟨a27, T27, h27, k27, X27, e27, E27, hS27, hk27, hZ, hown, st27⟩ := ldcS X26 hx hZ hown (hw _ (List.mem_of_getElem? (i := 40) rfl)) own_wS e26 hS26 hk26 (g := (mkF m 30 #[.val (.int p1), .val (.int nn), .val (.ref b19), .val (.ref b21), .unset, .unset, .unset, .unset] [(.ref a26), (.ref b25), (.ref b25)])) rfl (hb hby at_30) (n := 4) (by decide) (by decide) (by decide) (by decide)
  have f27_0 : Exa Z h27 b19 "com/example/feuillet/feuillet/Document" := f26_0.ext E27
  have f27_1 : Fld Z h27 b19 "com/example/feuillet/feuillet/Node$Parent" "firstChild" "Lcom/example/feuillet/feuillet/Node;" .null := f26_1.ext E27
  have f27_2 : Fld Z h27 b19 "com/example/feuillet/feuillet/Node$Parent" "lastChild" "Lcom/example/feuillet/feuillet/Node;" .null := f26_2.ext E27
  have f27_3 : Fld Z h27 b21 "com/example/feuillet/feuillet/Node" "parent" "Lcom/example/feuillet/feuillet/Node$Parent;" .null := f26_3.ext E27
  have f27_4 : Fld Z h27 b21 "com/example/feuillet/feuillet/Node" "nextSibling" "Lcom/example/feuillet/feuillet/Node;" .null := f26_4.ext E27
  have f27_5 : Exa Z h27 b21 "com/example/feuillet/feuillet/ProcessingInstruction" := f26_5.ext E27
  have f27_6 : Exa Z h27 b25 "com/example/feuillet/feuillet/ProcessingInstruction" := f26_6.ext E27
  have f27_7 : Fld Z h27 b25 "com/example/feuillet/feuillet/ProcessingInstruction" "target" "Ljava/lang/String;" .null := f26_7.ext E27
  have f27_8 : Fld Z h27 b25 "com/example/feuillet/feuillet/ProcessingInstruction" "data" "Ljava/lang/String;" .null := f26_8.ext E27
  have f27_9 : Fld Z h27 b25 "com/example/feuillet/feuillet/Node" "nextSibling" "Lcom/example/feuillet/feuillet/Node;" .null := f26_9.ext E27
  have f27_10 : Fld Z h27 b25 "com/example/feuillet/feuillet/Node" "parent" "Lcom/example/feuillet/feuillet/Node$Parent;" .null := f26_10.ext E27
  have K27 : Keep h0 h27 [] := K26.ext E27
  refine own_stepW (U' := (T27.setTop (mkF m 32 #[.val (.int p1), .val (.int nn), .val (.ref b19), .val (.ref b21), .unset, .unset, .unset, .unset] [(.ref a27), (.ref a26), (.ref b25), (.ref b25)]))) (fun t ht => st27 _ ht) ?_
  obtain ⟨_, _, ⟨T28, L28, k28, n28⟩, -, X28, ⟨Lc28, hQ28, l28, y28, z28⟩, st28⟩ := X27.specialBack hx (y := (⟨"com/example/feuillet/feuillet/ProcessingInstruction", "<init>", "(Ljava/lang/String;Ljava/lang/String;)V"⟩ : MethodName)) rfl hown (mvT hZ (hw _ (List.mem_of_getElem? (i := 31) rfl))) (mvT hZ (hw _ (List.mem_of_getElem? (i := 32) rfl))) (mvT hZ (hw _ (List.mem_of_getElem? (i := 33) rfl))) (by decide) (backOf (W := 1) (own_m_pii l Z a0 hw [] (b25) (a26) (a27) (.null) (.null) (.null) (.null) h27 n0 (Nat.le_trans Z0 K27.1) g_b25 f27_7 f27_8 f27_10 f27_9 f27_6) hZ (hw _ (List.mem_of_getElem? (i := 33) rfl)) (hw _ (List.mem_of_getElem? (i := 21) rfl)) (by decide) (by decide)) (g := (mkF m 32 #[.val (.int p1), .val (.int nn), .val (.ref b19), .val (.ref b21), .unset, .unset, .unset, .unset] [(.ref a27), (.ref a26), (.ref b25), (.ref b25)])) rfl (by rw [hml]; rfl) (Steps.refl _) (a := b25) (argsL := [(.ref a26), (.ref a27)]) (rest := [(.ref b25)]) (lenOf own_pd1 rfl) rfl (by show 2 * 0 + _ ≤ _; exact Nat.le_of_eq rfl) (hb hby at_32) (fun _ _ => ⟨rfl, e27, (by decide : 11 + 0 ≤ _), (by decide : 44 + 0 ≤ _)⟩)
  dsimp only [Pt.U, Pt.locs, Pt.cells, Pt.slots] at X28 l28 y28 z28 st28 hQ28
  subst l28 y28 z28
  obtain ⟨rfl, Nq28, Kq28, Fq28_0, Fq28_1, Fq28_2⟩ := hQ28
  have N28 := Fr.app N24 Nq28
  have f28_0 : Exa Z T28.heap b19 "com/example/feuillet/feuillet/Document" := f27_0.keep Kq28
  have f28_1 : Fld Z T28.heap b19 "com/example/feuillet/feuillet/Node$Parent" "firstChild" "Lcom/example/feuillet/feuillet/Node;" .null := f27_1.keep Kq28 (ninS ne_b19_b25 nin0)
  have f28_2 : Fld Z T28.heap b19 "com/example/feuillet/feuillet/Node$Parent" "lastChild" "Lcom/example/feuillet/feuillet/Node;" .null := f27_2.keep Kq28 (ninS ne_b19_b25 nin0)
  have f28_3 : Fld Z T28.heap b21 "com/example/feuillet/feuillet/Node" "parent" "Lcom/example/feuillet/feuillet/Node$Parent;" .null := f27_3.keep Kq28 (ninS ne_b21_b25 nin0)
  have f28_4 : Fld Z T28.heap b21 "com/example/feuillet/feuillet/Node" "nextSibling" "Lcom/example/feuillet/feuillet/Node;" .null := f27_4.keep Kq28 (ninS ne_b21_b25 nin0)
  have f28_5 : Exa Z T28.heap b21 "com/example/feuillet/feuillet/ProcessingInstruction" := f27_5.keep Kq28
  have f28_6 : Exa Z T28.heap b25 "com/example/feuillet/feuillet/ProcessingInstruction" := f27_6.keep Kq28
  have f28_11 : k27 ≤ (T28.heap).size := Nat.le_trans hk27 Kq28.1
  have K28 : Keep h0 T28.heap [] := K27.trans Kq28 (allS (Or.inr sz_b25) all0)
  refine own_stepW (U' := (T28.setTop (mkF m 35 #[.val (.int p1), .val (.int nn), .val (.ref b19), .val (.ref b21), .unset, .unset, .unset, .unset] [(.ref b25)]))) (fun t ht => st28.trans ht) ?_
  refine own_stepW (U' := (T28.setTop (mkF m 37 #[.val (.int p1), .val (.int nn), .val (.ref b19), .val (.ref b21), .val (.ref b25), .unset, .unset, .unset] []))) (fun t ht => XS.astore X28.here hx rfl (hb hby at_35) rfl rfl (l' := #[.val (.int p1), .val (.int nn), .val (.ref b19), .val (.ref b21), .val (.ref b25), .unset, .unset, .unset]) rfl ht) ?_
  obtain ⟨T29, h29, X29, e29, E29, A29, D29, -, st29⟩ := newO X28 hx hZ hown (hw _ (List.mem_of_getElem? (i := 19) rfl)) (hw _ (List.mem_of_getElem? (i := 20) rfl)) (hw _ (List.mem_of_getElem? (i := 21) rfl)) rfl (g := (mkF m 37 #[.val (.int p1), .val (.int nn), .val (.ref b19), .val (.ref b21), .val (.ref b25), .unset, .unset, .unset] [])) rfl (hb hby at_37) (by decide) (by decide)
  obtain ⟨b29, g29⟩ : ∃ z, z = (T28.heap).size := ⟨_, rfl⟩
  rw [← g29] at A29 D29 st29
  have ne_b19_b29 : b19 ≠ b29 := Nat.ne_of_lt (Nat.lt_of_lt_of_le f28_0.lt (Nat.le_of_eq g29.symm))
  have ne_b21_b29 : b21 ≠ b29 := Nat.ne_of_lt (Nat.lt_of_lt_of_le f28_3.lt (Nat.le_of_eq g29.symm))
  have ne_b25_b29 : b25 ≠ b29 := Nat.ne_of_lt (Nat.lt_of_lt_of_le Fq28_0.lt (Nat.le_of_eq g29.symm))
  have g_b29 : n0 ≤ b29 := Nat.le_trans (Nat.le_trans Z0 K28.1) (Nat.le_of_eq g29.symm)
  have sz_b29 : h0.size ≤ b29 := Nat.le_trans K28.1 (Nat.le_of_eq g29.symm)
  have f29_0 : Exa Z h29 b19 "com/example/feuillet/feuillet/Document" := f28_0.ext E29
  have f29_1 : Fld Z h29 b19 "com/example/feuillet/feuillet/Node$Parent" "firstChild" "Lcom/example/feuillet/feuillet/Node;" .null := f28_1.ext E29
  have f29_2 : Fld Z h29 b19 "com/example/feuillet/feuillet/Node$Parent" "lastChild" "Lcom/example/feuillet/feuillet/Node;" .null := f28_2.ext E29
  have f29_3 : Fld Z h29 b21 "com/example/feuillet/feuillet/Node" "parent" "Lcom/example/feuillet/feuillet/Node$Parent;" .null := f28_3.ext E29
  have f29_4 : Fld Z h29 b21 "com/example/feuillet/feuillet/Node" "nextSibling" "Lcom/example/feuillet/feuillet/Node;" .null := f28_4.ext E29
  have f29_5 : Exa Z h29 b21 "com/example/feuillet/feuillet/ProcessingInstruction" := f28_5.ext E29
  have f29_6 : k27 ≤ (h29).size := Nat.le_trans f28_11 E29.1
  have f29_7 : Fld Z h29 b25 "com/example/feuillet/feuillet/Node" "parent" "Lcom/example/feuillet/feuillet/Node$Parent;" .null := Fq28_0.ext E29
  have f29_8 : Fld Z h29 b25 "com/example/feuillet/feuillet/Node" "nextSibling" "Lcom/example/feuillet/feuillet/Node;" .null := Fq28_1.ext E29
  have f29_9 : Exa Z h29 b25 "com/example/feuillet/feuillet/ProcessingInstruction" := Fq28_2.ext E29
  have K29 : Keep h0 h29 [] := K28.ext E29
  have F29_36 : Fld Z h29 b29 "com/example/feuillet/feuillet/ProcessingInstruction" "target" "Ljava/lang/String;" .null := D29 (Or.inr (hw _ (List.mem_of_getElem? (i := 36) rfl))) (ty := (.object "java/lang/String")) (by decide)
  have F29_38 : Fld Z h29 b29 "com/example/feuillet/feuillet/ProcessingInstruction" "data" "Ljava/lang/String;" .null := D29 (Or.inr (hw _ (List.mem_of_getElem? (i := 38) rfl))) (ty := (.object "java/lang/String")) (by decide)
  have F29_58 : Fld Z h29 b29 "com/example/feuillet/feuillet/Node" "nextSibling" "Lcom/example/feuillet/feuillet/Node;" .null := D29 (Or.inl (hw _ (List.mem_of_getElem? (i := 58) rfl))) (ty := (.object "com/example/feuillet/feuillet/Node")) (by decide)
  have F29_66 : Fld Z h29 b29 "com/example/feuillet/feuillet/Node" "parent" "Lcom/example/feuillet/feuillet/Node$Parent;" .null := D29 (Or.inl (hw _ (List.mem_of_getElem? (i := 66) rfl))) (ty := (.object "com/example/feuillet/feuillet/Node$Parent")) (by decide)
  refine own_stepW (U' := (T29.setTop (mkF m 40 #[.val (.int p1), .val (.int nn), .val (.ref b19), .val (.ref b21), .val (.ref b25), .unset, .unset, .unset] [(.ref b29)]))) (fun t ht => st29 _ ht) ?_
  refine own_stepW (U' := (T29.setTop (mkF m 41 #[.val (.int p1), .val (.int nn), .val (.ref b19), .val (.ref b21), .val (.ref b25), .unset, .unset, .unset] [(.ref b29), (.ref b29)]))) (fun t ht => XS.dup X29.here hx rfl (hb hby at_40) rfl rfl ht) ?_
  obtain ⟨a30, T30, h30, k30, X30, e30, E30, hS30, hk30, hZ, hown, st30⟩ := ldcS X29 hx hZ hown (hw _ (List.mem_of_getElem? (i := 41) rfl)) own_wS e29 hS27 f29_6 (g := (mkF m 41 #[.val (.int p1), .val (.int nn), .val (.ref b19), .val (.ref b21), .val (.ref b25), .unset, .unset, .unset] [(.ref b29), (.ref b29)])) rfl (hb hby at_41) (n := 4) (by decide) (by decide) (by decide) (by decide)
  have f30_0 : Exa Z h30 b19 "com/example/feuillet/feuillet/Document" := f29_0.ext E30
  have f30_1 : Fld Z h30 b19 "com/example/feuillet/feuillet/Node$Parent" "firstChild" "Lcom/example/feuillet/feuillet/Node;" .null := f29_1.ext E30
  have f30_2 : Fld Z h30 b19 "com/example/feuillet/feuillet/Node$Parent" "lastChild" "Lcom/example/feuillet/feuillet/Node;" .null := f29_2.ext E30
  have f30_3 : Fld Z h30 b21 "com/example/feuillet/feuillet/Node" "parent" "Lcom/example/feuillet/feuillet/Node$Parent;" .null := f29_3.ext E30
  have f30_4 : Fld Z h30 b21 "com/example/feuillet/feuillet/Node" "nextSibling" "Lcom/example/feuillet/feuillet/Node;" .null := f29_4.ext E30
  have f30_5 : Exa Z h30 b21 "com/example/feuillet/feuillet/ProcessingInstruction" := f29_5.ext E30
  have f30_6 : Fld Z h30 b25 "com/example/feuillet/feuillet/Node" "parent" "Lcom/example/feuillet/feuillet/Node$Parent;" .null := f29_7.ext E30
  have f30_7 : Fld Z h30 b25 "com/example/feuillet/feuillet/Node" "nextSibling" "Lcom/example/feuillet/feuillet/Node;" .null := f29_8.ext E30
  have f30_8 : Exa Z h30 b25 "com/example/feuillet/feuillet/ProcessingInstruction" := f29_9.ext E30
  have f30_9 : Exa Z h30 b29 "com/example/feuillet/feuillet/ProcessingInstruction" := A29.ext E30
  have f30_10 : Fld Z h30 b29 "com/example/feuillet/feuillet/ProcessingInstruction" "target" "Ljava/lang/String;" .null := F29_36.ext E30
  have f30_11 : Fld Z h30 b29 "com/example/feuillet/feuillet/ProcessingInstruction" "data" "Ljava/lang/String;" .null := F29_38.ext E30
  have f30_12 : Fld Z h30 b29 "com/example/feuillet/feuillet/Node" "nextSibling" "Lcom/example/feuillet/feuillet/Node;" .null := F29_58.ext E30
  have f30_13 : Fld Z h30 b29 "com/example/feuillet/feuillet/Node" "parent" "Lcom/example/feuillet/feuillet/Node$Parent;" .null := F29_66.ext E30
  have K30 : Keep h0 h30 [] := K29.ext E30
  refine own_stepW (U' := (T30.setTop (mkF m 43 #[.val (.int p1), .val (.int nn), .val (.ref b19), .val (.ref b21), .val (.ref b25), .unset, .unset, .unset] [(.ref a30), (.ref b29), (.ref b29)]))) (fun t ht => st30 _ ht) ?_
  obtain ⟨a31, T31, h31, k31, X31, e31, E31, hS31, hk31, hZ, hown, st31⟩ := ldcS X30 hx hZ hown (hw _ (List.mem_of_getElem? (i := 42) rfl)) own_wS e30 hS30 hk30 (g := (mkF m 43 #[.val (.int p1), .val (.int nn), .val (.ref b19), .val (.ref b21), .val (.ref b25), .unset, .unset, .unset] [(.ref a30), (.ref b29), (.ref b29)])) rfl (hb hby at_43) (n := 4) (by decide) (by decide) (by decide) (by decide)
  have f31_0 : Exa Z h31 b19 "com/example/feuillet/feuillet/Document" := f30_0.ext E31
  have f31_1 : Fld Z h31 b19 "com/example/feuillet/feuillet/Node$Parent" "firstChild" "Lcom/example/feuillet/feuillet/Node;" .null := f30_1.ext E31
  have f31_2 : Fld Z h31 b19 "com/example/feuillet/feuillet/Node$Parent" "lastChild" "Lcom/example/feuillet/feuillet/Node;" .null := f30_2.ext E31
  have f31_3 : Fld Z h31 b21 "com/example/feuillet/feuillet/Node" "parent" "Lcom/example/feuillet/feuillet/Node$Parent;" .null := f30_3.ext E31
  have f31_4 : Fld Z h31 b21 "com/example/feuillet/feuillet/Node" "nextSibling" "Lcom/example/feuillet/feuillet/Node;" .null := f30_4.ext E31
  have f31_5 : Exa Z h31 b21 "com/example/feuillet/feuillet/ProcessingInstruction" := f30_5.ext E31
  have f31_6 : Fld Z h31 b25 "com/example/feuillet/feuillet/Node" "parent" "Lcom/example/feuillet/feuillet/Node$Parent;" .null := f30_6.ext E31
  have f31_7 : Fld Z h31 b25 "com/example/feuillet/feuillet/Node" "nextSibling" "Lcom/example/feuillet/feuillet/Node;" .null := f30_7.ext E31
  have f31_8 : Exa Z h31 b25 "com/example/feuillet/feuillet/ProcessingInstruction" := f30_8.ext E31
  have f31_9 : Exa Z h31 b29 "com/example/feuillet/feuillet/ProcessingInstruction" := f30_9.ext E31
  have f31_10 : Fld Z h31 b29 "com/example/feuillet/feuillet/ProcessingInstruction" "target" "Ljava/lang/String;" .null := f30_10.ext E31
  have f31_11 : Fld Z h31 b29 "com/example/feuillet/feuillet/ProcessingInstruction" "data" "Ljava/lang/String;" .null := f30_11.ext E31
  have f31_12 : Fld Z h31 b29 "com/example/feuillet/feuillet/Node" "nextSibling" "Lcom/example/feuillet/feuillet/Node;" .null := f30_12.ext E31
  have f31_13 : Fld Z h31 b29 "com/example/feuillet/feuillet/Node" "parent" "Lcom/example/feuillet/feuillet/Node$Parent;" .null := f30_13.ext E31
  have K31 : Keep h0 h31 [] := K30.ext E31
  refine own_stepW (U' := (T31.setTop (mkF m 45 #[.val (.int p1), .val (.int nn), .val (.ref b19), .val (.ref b21), .val (.ref b25), .unset, .unset, .unset] [(.ref a31), (.ref a30), (.ref b29), (.ref b29)]))) (fun t ht => st31 _ ht) ?_
  obtain ⟨_, _, ⟨T32, L32, k32, n32⟩, -, X32, ⟨Lc32, hQ32, l32, y32, z32⟩, st32⟩ := X31.specialBack hx (y := (⟨"com/example/feuillet/feuillet/ProcessingInstruction", "<init>", "(Ljava/lang/String;Ljava/lang/String;)V"⟩ : MethodName)) rfl hown (mvT hZ (hw _ (List.mem_of_getElem? (i := 31) rfl))) (mvT hZ (hw _ (List.mem_of_getElem? (i := 32) rfl))) (mvT hZ (hw _ (List.mem_of_getElem? (i := 33) rfl))) (by decide) (backOf (W := 1) (own_m_pii l Z a0 hw [] (b29) (a30) (a31) (.null) (.null) (.null) (.null) h31 n0 (Nat.le_trans Z0 K31.1) g_b29 f31_10 f31_11 f31_13 f31_12 f31_9) hZ (hw _ (List.mem_of_getElem? (i := 33) rfl)) (hw _ (List.mem_of_getElem? (i := 21) rfl)) (by decide) (by decide)) (g := (mkF m 45 #[.val (.int p1), .val (.int nn), .val (.ref b19), .val (.ref b21), .val (.ref b25), .unset, .unset, .unset] [(.ref a31), (.ref a30), (.ref b29), (.ref b29)])) rfl (by rw [hml]; rfl) (Steps.refl _) (a := b29) (argsL := [(.ref a30), (.ref a31)]) (rest := [(.ref b29)]) (lenOf own_pd1 rfl) rfl (by show 2 * 0 + _ ≤ _; exact Nat.le_of_eq rfl) (hb hby at_45) (fun _ _ => ⟨rfl, e31, (by decide : 16 + 0 ≤ _), (by decide : 64 + 0 ≤ _)⟩)
  dsimp only [Pt.U, Pt.locs, Pt.cells, Pt.slots] at X32 l32 y32 z32 st32 hQ32
  subst l32 y32 z32
  obtain ⟨rfl, Nq32, Kq32, Fq32_0, Fq32_1, Fq32_2⟩ := hQ32
  have N32 := Fr.app N28 Nq32
  have f32_0 : Exa Z T32.heap b19 "com/example/feuillet/feuillet/Document" := f31_0.keep Kq32
  have f32_1 : Fld Z T32.heap b19 "com/example/feuillet/feuillet/Node$Parent" "firstChild" "Lcom/example/feuillet/feuillet/Node;" .null := f31_1.keep Kq32 (ninS ne_b19_b29 nin0)
  have f32_2 : Fld Z T32.heap b19 "com/example/feuillet/feuillet/Node$Parent" "lastChild" "Lcom/example/feuillet/feuillet/Node;" .null := f31_2.keep Kq32 (ninS ne_b19_b29 nin0)
  have f32_3 : Fld Z T32.heap b21 "com/example/feuillet/feuillet/Node" "parent" "Lcom/example/feuillet/feuillet/Node$Parent;" .null := f31_3.keep Kq32 (ninS ne_b21_b29 nin0)
  have f32_4 : Fld Z T32.heap b21 "com/example/feuillet/feuillet/Node" "nextSibling" "Lcom/example/feuillet/feuillet/Node;" .null := f31_4.keep Kq32 (ninS ne_b21_b29 nin0)
  have f32_5 : Exa Z T32.heap b21 "com/example/feuillet/feuillet/ProcessingInstruction" := f31_5.keep Kq32
  have f32_6 : Fld Z T32.heap b25 "com/example/feuillet/feuillet/Node" "parent" "Lcom/example/feuillet/feuillet/Node$Parent;" .null := f31_6.keep Kq32 (ninS ne_b25_b29 nin0)
  have f32_7 : Fld Z T32.heap b25 "com/example/feuillet/feuillet/Node" "nextSibling" "Lcom/example/feuillet/feuillet/Node;" .null := f31_7.keep Kq32 (ninS ne_b25_b29 nin0)
  have f32_8 : Exa Z T32.heap b25 "com/example/feuillet/feuillet/ProcessingInstruction" := f31_8.keep Kq32
  have f32_9 : Exa Z T32.heap b29 "com/example/feuillet/feuillet/ProcessingInstruction" := f31_9.keep Kq32
  have f32_14 : k31 ≤ (T32.heap).size := Nat.le_trans hk31 Kq32.1
  have K32 : Keep h0 T32.heap [] := K31.trans Kq32 (allS (Or.inr sz_b29) all0)
  refine own_stepW (U' := (T32.setTop (mkF m 48 #[.val (.int p1), .val (.int nn), .val (.ref b19), .val (.ref b21), .val (.ref b25), .unset, .unset, .unset] [(.ref b29)]))) (fun t ht => st32.trans ht) ?_
  refine own_stepW (U' := (T32.setTop (mkF m 50 #[.val (.int p1), .val (.int nn), .val (.ref b19), .val (.ref b21), .val (.ref b25), .val (.ref b29), .unset, .unset] []))) (fun t ht => XS.astore X32.here hx rfl (hb hby at_48) rfl rfl (l' := #[.val (.int p1), .val (.int nn), .val (.ref b19), .val (.ref b21), .val (.ref b25), .val (.ref b29), .unset, .unset]) rfl ht) ?_
  rcases own_four h_nn with rfl | rfl | rfl | rfl
  ·
    refine own_stepW (U' := (T32.setTop (mkF m 51 #[.val (.int p1), .val (.int (0 : Int32)), .val (.ref b19), .val (.ref b21), .val (.ref b25), .val (.ref b29), .unset, .unset] [(.int (0 : Int32))]))) (fun t ht => XS.iloadN X32.here hx rfl (hb hby at_50) rfl ht) ?_
    refine own_stepW (U' := (T32.setTop (mkF m 59 #[.val (.int p1), .val (.int (0 : Int32)), .val (.ref b19), .val (.ref b21), .val (.ref b25), .val (.ref b29), .unset, .unset] []))) (fun t ht => XS.ifYes X32.here hx rfl (pc0 := 51) (pc' := 59) rfl (hb hby at_51) rfl (XT.i0_le_t ((by decide) : ¬ (0 < (0 : Int32)))) (by decide) (by decide) ht) ?_
    refine own_stepW (U' := (T32.setTop (mkF m 60 #[.val (.int p1), .val (.int (0 : Int32)), .val (.ref b19), .val (.ref b21), .val (.ref b25), .val (.ref b29), .unset, .unset] [(.int (0 : Int32))]))) (fun t ht => XS.iloadN X32.here hx rfl (hb hby at_59) rfl ht) ?_
    refine own_stepW (U' := (T32.setTop (mkF m 61 #[.val (.int p1), .val (.int (0 : Int32)), .val (.ref b19), .val (.ref b21), .val (.ref b25), .val (.ref b29), .unset, .unset] [(.int (1 : Int32)), (.int (0 : Int32))]))) (fun t ht => XS.iconst X32.here hx rfl (hb hby at_60) ht) ?_
    refine own_stepW (U' := (T32.setTop (mkF m 70 #[.val (.int p1), .val (.int (0 : Int32)), .val (.ref b19), .val (.ref b21), .val (.ref b25), .val (.ref b29), .unset, .unset] []))) (fun t ht => XS.icmpYes X32.here hx rfl (pc0 := 61) (pc' := 70) rfl (hb hby at_61) rfl (XT.ii_le_t ((by decide) : ¬ ((1 : Int32) < (0 : Int32)))) (by decide) (by decide) ht) ?_
    refine own_stepW (U' := (T32.setTop (mkF m 71 #[.val (.int p1), .val (.int (0 : Int32)), .val (.ref b19), .val (.ref b21), .val (.ref b25), .val (.ref b29), .unset, .unset] [(.int (0 : Int32))]))) (fun t ht => XS.iloadN X32.here hx rfl (hb hby at_70) rfl ht) ?_
    refine own_stepW (U' := (T32.setTop (mkF m 72 #[.val (.int p1), .val (.int (0 : Int32)), .val (.ref b19), .val (.ref b21), .val (.ref b25), .val (.ref b29), .unset, .unset] [(.int (2 : Int32)), (.int (0 : Int32))]))) (fun t ht => XS.iconst X32.here hx rfl (hb hby at_71) ht) ?_
    refine own_stepW (U' := (T32.setTop (mkF m 81 #[.val (.int p1), .val (.int (0 : Int32)), .val (.ref b19), .val (.ref b21), .val (.ref b25), .val (.ref b29), .unset, .unset] []))) (fun t ht => XS.icmpYes X32.here hx rfl (pc0 := 72) (pc' := 81) rfl (hb hby at_72) rfl (XT.ii_le_t ((by decide) : ¬ ((2 : Int32) < (0 : Int32)))) (by decide) (by decide) ht) ?_
    refine own_stepW (U' := (T32.setTop (mkF m 82 #[.val (.int p1), .val (.int (0 : Int32)), .val (.ref b19), .val (.ref b21), .val (.ref b25), .val (.ref b29), .unset, .unset] [(.ref b19)]))) (fun t ht => XS.aloadN X32.here hx rfl (hb hby at_81) rfl rfl ht) ?_
    obtain ⟨cq33, kq33, q33a, q33b, q33c⟩ := isOf hZ rfl f32_0
    obtain ⟨_, _, ⟨T33, L33, k33, n33⟩, -, X33, ⟨Lc33, hQ33, l33, y33, z33⟩, st33⟩ := X32.virtualBackUp hx (x := (⟨"com/example/feuillet/feuillet/Document", "getFirstChild", "()Lcom/example/feuillet/feuillet/Node;"⟩ : MethodName)) (y := (⟨"com/example/feuillet/feuillet/Node$Parent", "getFirstChild", "()Lcom/example/feuillet/feuillet/Node;"⟩ : MethodName)) hown (mvT hZ (hw _ (List.mem_of_getElem? (i := 43) rfl))) (mvT hZ (hw _ (List.mem_of_getElem? (i := 44) rfl))) (mvT hZ (hw _ (List.mem_of_getElem? (i := 45) rfl))) (by decide) (mvT hZ (hw _ (List.mem_of_getElem? (i := 47) rfl))) (mvT hZ (hw _ (List.mem_of_getElem? (i := 46) rfl))) (backOf (W := 0) (own_m_gfc l Z a0 hw [] (b19) (.null) T32.heap n0 (Nat.le_trans Z0 K32.1) f32_1 rfl) hZ (hw _ (List.mem_of_getElem? (i := 48) rfl)) (hw _ (List.mem_of_getElem? (i := 9) rfl)) (by decide) (by decide)) q33a q33c (g := (mkF m 82 #[.val (.int p1), .val (.int (0 : Int32)), .val (.ref b19), .val (.ref b21), .val (.ref b25), .val (.ref b29), .unset, .unset] [(.ref b19)])) rfl (by rw [hml]; rfl) (Steps.refl _) (argsL := []) (rest := []) (lenOf own_pd2 rfl) rfl (by show 2 * 0 + _ ≤ _; exact Nat.le_of_eq rfl) (hb hby at_82) (fun _ _ => ⟨rfl, rfl, (by decide : 16 + 0 ≤ _), (by decide : 64 + 0 ≤ _)⟩)
    dsimp only [Pt.U, Pt.locs, Pt.cells, Pt.slots] at X33 l33 y33 z33 st33 hQ33
    subst l33 y33 z33
    obtain ⟨rfl, Nq33, Kq33⟩ := hQ33
    have N33 := Fr.app N32 Nq33
    have e33 : T33.heap = T32.heap := Kq33
    refine own_stepW (U' := (T33.setTop (mkF m 85 #[.val (.int p1), .val (.int (0 : Int32)), .val (.ref b19), .val (.ref b21), .val (.ref b25), .val (.ref b29), .unset, .unset] [.null]))) (fun t ht => st33.trans ht) ?_
    refine own_stepW (U' := (T33.setTop (mkF m 87 #[.val (.int p1), .val (.int (0 : Int32)), .val (.ref b19), .val (.ref b21), .val (.ref b25), .val (.ref b29), .val .null, .unset] []))) (fun t ht => XS.astore X33.here hx rfl (hb hby at_85) rfl rfl (l' := #[.val (.int p1), .val (.int (0 : Int32)), .val (.ref b19), .val (.ref b21), .val (.ref b25), .val (.ref b29), .val .null, .unset]) rfl ht) ?_
    refine own_stepW (U' := (T33.setTop (mkF m 89 #[.val (.int p1), .val (.int (0 : Int32)), .val (.ref b19), .val (.ref b21), .val (.ref b25), .val (.ref b29), .val .null, .unset] [.null]))) (fun t ht => XS.aload X33.here hx rfl (hb hby at_87) rfl rfl ht) ?_
    refine own_stepW (U' := (T33.setTop (mkF m 90 #[.val (.int p1), .val (.int (0 : Int32)), .val (.ref b19), .val (.ref b21), .val (.ref b25), .val (.ref b29), .val .null, .unset] [(.int (0 : Int32)), .null]))) (fun t ht => XS.iloadN X33.here hx rfl (hb hby at_89) rfl ht) ?_
    refine own_stepW (U' := (T33.setTop (mkF m 97 #[.val (.int p1), .val (.int (0 : Int32)), .val (.ref b19), .val (.ref b21), .val (.ref b25), .val (.ref b29), .val .null, .unset] [.null]))) (fun t ht => XS.ifYes X33.here hx rfl (pc0 := 90) (pc' := 97) rfl (hb hby at_90) rfl (XT.i0_le_t ((by decide) : ¬ (0 < (0 : Int32)))) (by decide) (by decide) ht) ?_
    refine own_stepW (U' := (T33.setTop (mkF m 98 #[.val (.int p1), .val (.int (0 : Int32)), .val (.ref b19), .val (.ref b21), .val (.ref b25), .val (.ref b29), .val .null, .unset] [.null, .null]))) (fun t ht => XS.aconstNull X33.here hx rfl (hb hby at_97) ht) ?_
    refine own_stepW (U' := (T33.setTop (mkF m 101 #[.val (.int p1), .val (.int (0 : Int32)), .val (.ref b19), .val (.ref b21), .val (.ref b25), .val (.ref b29), .val .null, .unset] []))) (fun t ht => Jvm.RoadKit.acmp (g := (mkF m 98 #[.val (.int p1), .val (.int (0 : Int32)), .val (.ref b19), .val (.ref b21), .val (.ref b25), .val (.ref b29), .val .null, .unset] [.null, .null])) X33 hx rfl rfl rfl (pc0 := 98) (pc' := 101) (same := true) rfl (hb hby at_98) rfl (decide_eq_true (rfl : (.null : Value) = (.null : Value))) (by decide) (by decide) ht) ?_
    refine own_stepW (U' := (T33.setTop (mkF m 102 #[.val (.int p1), .val (.int (0 : Int32)), .val (.ref b19), .val (.ref b21), .val (.ref b25), .val (.ref b29), .val .null, .unset] [(.int (1 : Int32))]))) (fun t ht => XS.iconst X33.here hx rfl (hb hby at_101) ht) ?_
    refine own_stepW (U' := (T33.setTop (mkF m 106 #[.val (.int p1), .val (.int (0 : Int32)), .val (.ref b19), .val (.ref b21), .val (.ref b25), .val (.ref b29), .val .null, .unset] [(.int (1 : Int32))]))) (fun t ht => XS.goto X33.here hx rfl (pc0 := 102) (pc' := 106) rfl (hb hby at_102) (by decide) (by decide) ht) ?_
    refine own_stepW (U' := (T33.setTop (mkF m 108 #[.val (.int p1), .val (.int (0 : Int32)), .val (.ref b19), .val (.ref b21), .val (.ref b25), .val (.ref b29), .val .null, .val (.int (1 : Int32))] []))) (fun t ht => XS.istore X33.here hx rfl (hb hby at_106) rfl (l' := #[.val (.int p1), .val (.int (0 : Int32)), .val (.ref b19), .val (.ref b21), .val (.ref b25), .val (.ref b29), .val .null, .val (.int (1 : Int32))]) rfl ht) ?_
    refine own_stepW (U' := (T33.setTop (mkF m 110 #[.val (.int p1), .val (.int (0 : Int32)), .val (.ref b19), .val (.ref b21), .val (.ref b25), .val (.ref b29), .val .null, .val (.int (1 : Int32))] [(.int (1 : Int32))]))) (fun t ht => XS.iload X33.here hx rfl (hb hby at_108) rfl ht) ?_
    refine own_stepW (U' := (T33.setTop (mkF m 113 #[.val (.int p1), .val (.int (0 : Int32)), .val (.ref b19), .val (.ref b21), .val (.ref b25), .val (.ref b29), .val .null, .val (.int (1 : Int32))] []))) (fun t ht => XS.ifNo X33.here hx rfl (hb hby at_110) rfl (XT.i0_eq_f ((by decide) : ¬ ((1 : Int32) = 0))) ht) ?_
    refine own_stepW (U' := (T33.setTop (mkF m 114 #[.val (.int p1), .val (.int (0 : Int32)), .val (.ref b19), .val (.ref b21), .val (.ref b25), .val (.ref b29), .val .null, .val (.int (1 : Int32))] [(.ref b21)]))) (fun t ht => XS.aloadN X33.here hx rfl (hb hby at_113) rfl rfl ht) ?_
    obtain ⟨cq34, kq34, q34a, q34b, q34c⟩ := isOf hZ e33 f32_5
    obtain ⟨_, _, ⟨T34, L34, k34, n34⟩, -, X34, ⟨Lc34, hQ34, l34, y34, z34⟩, st34⟩ := X33.virtualBackUp hx (x := (⟨"com/example/feuillet/feuillet/ProcessingInstruction", "getNextSibling", "()Lcom/example/feuillet/feuillet/Node;"⟩ : MethodName)) (y := (⟨"com/example/feuillet/feuillet/Node", "getNextSibling", "()Lcom/example/feuillet/feuillet/Node;"⟩ : MethodName)) hown (mvT hZ (hw _ (List.mem_of_getElem? (i := 51) rfl))) (mvT hZ (hw _ (List.mem_of_getElem? (i := 52) rfl))) (mvT hZ (hw _ (List.mem_of_getElem? (i := 53) rfl))) (by decide) (mvT hZ (hw _ (List.mem_of_getElem? (i := 55) rfl))) (mvT hZ (hw _ (List.mem_of_getElem? (i := 54) rfl))) (backOf (W := 0) (own_m_gns l Z a0 hw [] (b21) (.null) T32.heap n0 (Nat.le_trans Z0 K32.1) f32_4 rfl) hZ (hw _ (List.mem_of_getElem? (i := 56) rfl)) (hw _ (List.mem_of_getElem? (i := 14) rfl)) (by decide) (by decide)) q34a q34c (g := (mkF m 114 #[.val (.int p1), .val (.int (0 : Int32)), .val (.ref b19), .val (.ref b21), .val (.ref b25), .val (.ref b29), .val .null, .val (.int (1 : Int32))] [(.ref b21)])) rfl (by rw [hml]; rfl) (Steps.refl _) (argsL := []) (rest := []) (lenOf own_pd2 rfl) rfl (by show 2 * 0 + _ ≤ _; exact Nat.le_of_eq rfl) (hb hby at_114) (fun _ _ => ⟨rfl, e33, (by decide : 16 + 0 ≤ _), (by decide : 64 + 0 ≤ _)⟩)
    dsimp only [Pt.U, Pt.locs, Pt.cells, Pt.slots] at X34 l34 y34 z34 st34 hQ34
    subst l34 y34 z34
    obtain ⟨rfl, Nq34, Kq34⟩ := hQ34
    have N34 := Fr.app N33 Nq34
    have e34 : T34.heap = T32.heap := Kq34
    refine own_stepW (U' := (T34.setTop (mkF m 117 #[.val (.int p1), .val (.int (0 : Int32)), .val (.ref b19), .val (.ref b21), .val (.ref b25), .val (.ref b29), .val .null, .val (.int (1 : Int32))] [.null]))) (fun t ht => st34.trans ht) ?_
    refine own_stepW (U' := (T34.setTop (mkF m 118 #[.val (.int p1), .val (.int (0 : Int32)), .val (.ref b19), .val (.ref b21), .val (.ref b25), .val (.ref b29), .val .null, .val (.int (1 : Int32))] [(.int (0 : Int32)), .null]))) (fun t ht => XS.iloadN X34.here hx rfl (hb hby at_117) rfl ht) ?_
    refine own_stepW (U' := (T34.setTop (mkF m 119 #[.val (.int p1), .val (.int (0 : Int32)), .val (.ref b19), .val (.ref b21), .val (.ref b25), .val (.ref b29), .val .null, .val (.int (1 : Int32))] [(.int (1 : Int32)), (.int (0 : Int32)), .null]))) (fun t ht => XS.iconst X34.here hx rfl (hb hby at_118) ht) ?_
    refine own_stepW (U' := (T34.setTop (mkF m 127 #[.val (.int p1), .val (.int (0 : Int32)), .val (.ref b19), .val (.ref b21), .val (.ref b25), .val (.ref b29), .val .null, .val (.int (1 : Int32))] [.null]))) (fun t ht => XS.icmpYes X34.here hx rfl (pc0 := 119) (pc' := 127) rfl (hb hby at_119) rfl (XT.ii_le_t ((by decide) : ¬ ((1 : Int32) < (0 : Int32)))) (by decide) (by decide) ht) ?_
    refine own_stepW (U' := (T34.setTop (mkF m 128 #[.val (.int p1), .val (.int (0 : Int32)), .val (.ref b19), .val (.ref b21), .val (.ref b25), .val (.ref b29), .val .null, .val (.int (1 : Int32))] [.null, .null]))) (fun t ht => XS.aconstNull X34.here hx rfl (hb hby at_127) ht) ?_
    refine own_stepW (U' := (T34.setTop (mkF m 131 #[.val (.int p1), .val (.int (0 : Int32)), .val (.ref b19), .val (.ref b21), .val (.ref b25), .val (.ref b29), .val .null, .val (.int (1 : Int32))] []))) (fun t ht => Jvm.RoadKit.acmp (g := (mkF m 128 #[.val (.int p1), .val (.int (0 : Int32)), .val (.ref b19), .val (.ref b21), .val (.ref b25), .val (.ref b29), .val .null, .val (.int (1 : Int32))] [.null, .null])) X34 hx rfl rfl rfl (pc0 := 128) (pc' := 131) (same := true) rfl (hb hby at_128) rfl (decide_eq_true (rfl : (.null : Value) = (.null : Value))) (by decide) (by decide) ht) ?_
    refine own_stepW (U' := (T34.setTop (mkF m 132 #[.val (.int p1), .val (.int (0 : Int32)), .val (.ref b19), .val (.ref b21), .val (.ref b25), .val (.ref b29), .val .null, .val (.int (1 : Int32))] [(.int (1 : Int32))]))) (fun t ht => XS.iconst X34.here hx rfl (hb hby at_131) ht) ?_
    refine own_stepW (U' := (T34.setTop (mkF m 136 #[.val (.int p1), .val (.int (0 : Int32)), .val (.ref b19), .val (.ref b21), .val (.ref b25), .val (.ref b29), .val .null, .val (.int (1 : Int32))] [(.int (1 : Int32))]))) (fun t ht => XS.goto X34.here hx rfl (pc0 := 132) (pc' := 136) rfl (hb hby at_132) (by decide) (by decide) ht) ?_
    refine own_stepW (U' := (T34.setTop (mkF m 138 #[.val (.int p1), .val (.int (0 : Int32)), .val (.ref b19), .val (.ref b21), .val (.ref b25), .val (.ref b29), .val .null, .val (.int (1 : Int32))] []))) (fun t ht => XS.istore X34.here hx rfl (hb hby at_136) rfl (l' := #[.val (.int p1), .val (.int (0 : Int32)), .val (.ref b19), .val (.ref b21), .val (.ref b25), .val (.ref b29), .val .null, .val (.int (1 : Int32))]) rfl ht) ?_
    refine own_stepW (U' := (T34.setTop (mkF m 140 #[.val (.int p1), .val (.int (0 : Int32)), .val (.ref b19), .val (.ref b21), .val (.ref b25), .val (.ref b29), .val .null, .val (.int (1 : Int32))] [(.int (1 : Int32))]))) (fun t ht => XS.iload X34.here hx rfl (hb hby at_138) rfl ht) ?_
    refine own_stepW (U' := (T34.setTop (mkF m 143 #[.val (.int p1), .val (.int (0 : Int32)), .val (.ref b19), .val (.ref b21), .val (.ref b25), .val (.ref b29), .val .null, .val (.int (1 : Int32))] []))) (fun t ht => XS.ifNo X34.here hx rfl (hb hby at_140) rfl (XT.i0_eq_f ((by decide) : ¬ ((1 : Int32) = 0))) ht) ?_
    refine own_stepW (U' := (T34.setTop (mkF m 145 #[.val (.int p1), .val (.int (0 : Int32)), .val (.ref b19), .val (.ref b21), .val (.ref b25), .val (.ref b29), .val .null, .val (.int (1 : Int32))] [(.ref b25)]))) (fun t ht => XS.aload X34.here hx rfl (hb hby at_143) rfl rfl ht) ?_
    obtain ⟨cq35, kq35, q35a, q35b, q35c⟩ := isOf hZ e34 f32_8
    obtain ⟨_, _, ⟨T35, L35, k35, n35⟩, -, X35, ⟨Lc35, hQ35, l35, y35, z35⟩, st35⟩ := X34.virtualBackUp hx (x := (⟨"com/example/feuillet/feuillet/ProcessingInstruction", "getNextSibling", "()Lcom/example/feuillet/feuillet/Node;"⟩ : MethodName)) (y := (⟨"com/example/feuillet/feuillet/Node", "getNextSibling", "()Lcom/example/feuillet/feuillet/Node;"⟩ : MethodName)) hown (mvT hZ (hw _ (List.mem_of_getElem? (i := 51) rfl))) (mvT hZ (hw _ (List.mem_of_getElem? (i := 52) rfl))) (mvT hZ (hw _ (List.mem_of_getElem? (i := 53) rfl))) (by decide) (mvT hZ (hw _ (List.mem_of_getElem? (i := 55) rfl))) (mvT hZ (hw _ (List.mem_of_getElem? (i := 54) rfl))) (backOf (W := 0) (own_m_gns l Z a0 hw [] (b25) (.null) T32.heap n0 (Nat.le_trans Z0 K32.1) f32_7 rfl) hZ (hw _ (List.mem_of_getElem? (i := 56) rfl)) (hw _ (List.mem_of_getElem? (i := 14) rfl)) (by decide) (by decide)) q35a q35c (g := (mkF m 145 #[.val (.int p1), .val (.int (0 : Int32)), .val (.ref b19), .val (.ref b21), .val (.ref b25), .val (.ref b29), .val .null, .val (.int (1 : Int32))] [(.ref b25)])) rfl (by rw [hml]; rfl) (Steps.refl _) (argsL := []) (rest := []) (lenOf own_pd2 rfl) rfl (by show 2 * 0 + _ ≤ _; exact Nat.le_of_eq rfl) (hb hby at_145) (fun _ _ => ⟨rfl, e34, (by decide : 16 + 0 ≤ _), (by decide : 64 + 0 ≤ _)⟩)
    dsimp only [Pt.U, Pt.locs, Pt.cells, Pt.slots] at X35 l35 y35 z35 st35 hQ35
    subst l35 y35 z35
    obtain ⟨rfl, Nq35, Kq35⟩ := hQ35
    have N35 := Fr.app N34 Nq35
    have e35 : T35.heap = T32.heap := Kq35
    refine own_stepW (U' := (T35.setTop (mkF m 148 #[.val (.int p1), .val (.int (0 : Int32)), .val (.ref b19), .val (.ref b21), .val (.ref b25), .val (.ref b29), .val .null, .val (.int (1 : Int32))] [.null]))) (fun t ht => st35.trans ht) ?_
    refine own_stepW (U' := (T35.setTop (mkF m 149 #[.val (.int p1), .val (.int (0 : Int32)), .val (.ref b19), .val (.ref b21), .val (.ref b25), .val (.ref b29), .val .null, .val (.int (1 : Int32))] [(.int (0 : Int32)), .null]))) (fun t ht => XS.iloadN X35.here hx rfl (hb hby at_148) rfl ht) ?_
    refine own_stepW (U' := (T35.setTop (mkF m 150 #[.val (.int p1), .val (.int (0 : Int32)), .val (.ref b19), .val (.ref b21), .val (.ref b25), .val (.ref b29), .val .null, .val (.int (1 : Int32))] [(.int (2 : Int32)), (.int (0 : Int32)), .null]))) (fun t ht => XS.iconst X35.here hx rfl (hb hby at_149) ht) ?_
    refine own_stepW (U' := (T35.setTop (mkF m 158 #[.val (.int p1), .val (.int (0 : Int32)), .val (.ref b19), .val (.ref b21), .val (.ref b25), .val (.ref b29), .val .null, .val (.int (1 : Int32))] [.null]))) (fun t ht => XS.icmpYes X35.here hx rfl (pc0 := 150) (pc' := 158) rfl (hb hby at_150) rfl (XT.ii_le_t ((by decide) : ¬ ((2 : Int32) < (0 : Int32)))) (by decide) (by decide) ht) ?_
    refine own_stepW (U' := (T35.setTop (mkF m 159 #[.val (.int p1), .val (.int (0 : Int32)), .val (.ref b19), .val (.ref b21), .val (.ref b25), .val (.ref b29), .val .null, .val (.int (1 : Int32))] [.null, .null]))) (fun t ht => XS.aconstNull X35.here hx rfl (hb hby at_158) ht) ?_
    refine own_stepW (U' := (T35.setTop (mkF m 162 #[.val (.int p1), .val (.int (0 : Int32)), .val (.ref b19), .val (.ref b21), .val (.ref b25), .val (.ref b29), .val .null, .val (.int (1 : Int32))] []))) (fun t ht => Jvm.RoadKit.acmp (g := (mkF m 159 #[.val (.int p1), .val (.int (0 : Int32)), .val (.ref b19), .val (.ref b21), .val (.ref b25), .val (.ref b29), .val .null, .val (.int (1 : Int32))] [.null, .null])) X35 hx rfl rfl rfl (pc0 := 159) (pc' := 162) (same := true) rfl (hb hby at_159) rfl (decide_eq_true (rfl : (.null : Value) = (.null : Value))) (by decide) (by decide) ht) ?_
    refine own_stepW (U' := (T35.setTop (mkF m 163 #[.val (.int p1), .val (.int (0 : Int32)), .val (.ref b19), .val (.ref b21), .val (.ref b25), .val (.ref b29), .val .null, .val (.int (1 : Int32))] [(.int (1 : Int32))]))) (fun t ht => XS.iconst X35.here hx rfl (hb hby at_162) ht) ?_
    refine own_stepW (U' := (T35.setTop (mkF m 167 #[.val (.int p1), .val (.int (0 : Int32)), .val (.ref b19), .val (.ref b21), .val (.ref b25), .val (.ref b29), .val .null, .val (.int (1 : Int32))] [(.int (1 : Int32))]))) (fun t ht => XS.goto X35.here hx rfl (pc0 := 163) (pc' := 167) rfl (hb hby at_163) (by decide) (by decide) ht) ?_
    refine own_stepW (U' := (T35.setTop (mkF m 169 #[.val (.int p1), .val (.int (0 : Int32)), .val (.ref b19), .val (.ref b21), .val (.ref b25), .val (.ref b29), .val .null, .val (.int (1 : Int32))] []))) (fun t ht => XS.istore X35.here hx rfl (hb hby at_167) rfl (l' := #[.val (.int p1), .val (.int (0 : Int32)), .val (.ref b19), .val (.ref b21), .val (.ref b25), .val (.ref b29), .val .null, .val (.int (1 : Int32))]) rfl ht) ?_
    refine own_stepW (U' := (T35.setTop (mkF m 171 #[.val (.int p1), .val (.int (0 : Int32)), .val (.ref b19), .val (.ref b21), .val (.ref b25), .val (.ref b29), .val .null, .val (.int (1 : Int32))] [(.int (1 : Int32))]))) (fun t ht => XS.iload X35.here hx rfl (hb hby at_169) rfl ht) ?_
    refine own_stepW (U' := (T35.setTop (mkF m 174 #[.val (.int p1), .val (.int (0 : Int32)), .val (.ref b19), .val (.ref b21), .val (.ref b25), .val (.ref b29), .val .null, .val (.int (1 : Int32))] []))) (fun t ht => XS.ifNo X35.here hx rfl (hb hby at_171) rfl (XT.i0_eq_f ((by decide) : ¬ ((1 : Int32) = 0))) ht) ?_
    refine own_stepW (U' := (T35.setTop (mkF m 176 #[.val (.int p1), .val (.int (0 : Int32)), .val (.ref b19), .val (.ref b21), .val (.ref b25), .val (.ref b29), .val .null, .val (.int (1 : Int32))] [(.ref b29)]))) (fun t ht => XS.aload X35.here hx rfl (hb hby at_174) rfl rfl ht) ?_
    obtain ⟨cq36, kq36, q36a, q36b, q36c⟩ := isOf hZ e35 Fq32_2
    obtain ⟨_, _, ⟨T36, L36, k36, n36⟩, -, X36, ⟨Lc36, hQ36, l36, y36, z36⟩, st36⟩ := X35.virtualBackUp hx (x := (⟨"com/example/feuillet/feuillet/ProcessingInstruction", "getNextSibling", "()Lcom/example/feuillet/feuillet/Node;"⟩ : MethodName)) (y := (⟨"com/example/feuillet/feuillet/Node", "getNextSibling", "()Lcom/example/feuillet/feuillet/Node;"⟩ : MethodName)) hown (mvT hZ (hw _ (List.mem_of_getElem? (i := 51) rfl))) (mvT hZ (hw _ (List.mem_of_getElem? (i := 52) rfl))) (mvT hZ (hw _ (List.mem_of_getElem? (i := 53) rfl))) (by decide) (mvT hZ (hw _ (List.mem_of_getElem? (i := 55) rfl))) (mvT hZ (hw _ (List.mem_of_getElem? (i := 54) rfl))) (backOf (W := 0) (own_m_gns l Z a0 hw [] (b29) (.null) T32.heap n0 (Nat.le_trans Z0 K32.1) Fq32_1 rfl) hZ (hw _ (List.mem_of_getElem? (i := 56) rfl)) (hw _ (List.mem_of_getElem? (i := 14) rfl)) (by decide) (by decide)) q36a q36c (g := (mkF m 176 #[.val (.int p1), .val (.int (0 : Int32)), .val (.ref b19), .val (.ref b21), .val (.ref b25), .val (.ref b29), .val .null, .val (.int (1 : Int32))] [(.ref b29)])) rfl (by rw [hml]; rfl) (Steps.refl _) (argsL := []) (rest := []) (lenOf own_pd2 rfl) rfl (by show 2 * 0 + _ ≤ _; exact Nat.le_of_eq rfl) (hb hby at_176) (fun _ _ => ⟨rfl, e35, (by decide : 16 + 0 ≤ _), (by decide : 64 + 0 ≤ _)⟩)
    dsimp only [Pt.U, Pt.locs, Pt.cells, Pt.slots] at X36 l36 y36 z36 st36 hQ36
    subst l36 y36 z36
    obtain ⟨rfl, Nq36, Kq36⟩ := hQ36
    have N36 := Fr.app N35 Nq36
    have e36 : T36.heap = T32.heap := Kq36
    refine own_stepW (U' := (T36.setTop (mkF m 179 #[.val (.int p1), .val (.int (0 : Int32)), .val (.ref b19), .val (.ref b21), .val (.ref b25), .val (.ref b29), .val .null, .val (.int (1 : Int32))] [.null]))) (fun t ht => st36.trans ht) ?_
    refine own_stepW (U' := (T36.setTop (mkF m 182 #[.val (.int p1), .val (.int (0 : Int32)), .val (.ref b19), .val (.ref b21), .val (.ref b25), .val (.ref b29), .val .null, .val (.int (1 : Int32))] []))) (fun t ht => XT.nonnullNo X36.here hx rfl (hb hby at_179) rfl rfl ht) ?_
    refine own_stepW (U' := (T36.setTop (mkF m 183 #[.val (.int p1), .val (.int (0 : Int32)), .val (.ref b19), .val (.ref b21), .val (.ref b25), .val (.ref b29), .val .null, .val (.int (1 : Int32))] [(.int (1 : Int32))]))) (fun t ht => XS.iconst X36.here hx rfl (hb hby at_182) ht) ?_
    refine own_stepW (U' := (T36.setTop (mkF m 187 #[.val (.int p1), .val (.int (0 : Int32)), .val (.ref b19), .val (.ref b21), .val (.ref b25), .val (.ref b29), .val .null, .val (.int (1 : Int32))] [(.int (1 : Int32))]))) (fun t ht => XS.goto X36.here hx rfl (pc0 := 183) (pc' := 187) rfl (hb hby at_183) (by decide) (by decide) ht) ?_
    refine own_stepW (U' := (T36.setTop (mkF m 189 #[.val (.int p1), .val (.int (0 : Int32)), .val (.ref b19), .val (.ref b21), .val (.ref b25), .val (.ref b29), .val .null, .val (.int (1 : Int32))] []))) (fun t ht => XS.istore X36.here hx rfl (hb hby at_187) rfl (l' := #[.val (.int p1), .val (.int (0 : Int32)), .val (.ref b19), .val (.ref b21), .val (.ref b25), .val (.ref b29), .val .null, .val (.int (1 : Int32))]) rfl ht) ?_
    refine own_stepW (U' := (T36.setTop (mkF m 191 #[.val (.int p1), .val (.int (0 : Int32)), .val (.ref b19), .val (.ref b21), .val (.ref b25), .val (.ref b29), .val .null, .val (.int (1 : Int32))] [(.int (1 : Int32))]))) (fun t ht => XS.iload X36.here hx rfl (hb hby at_189) rfl ht) ?_
    refine own_stepW (U' := (T36.setTop (mkF m 194 #[.val (.int p1), .val (.int (0 : Int32)), .val (.ref b19), .val (.ref b21), .val (.ref b25), .val (.ref b29), .val .null, .val (.int (1 : Int32))] []))) (fun t ht => XS.ifNo X36.here hx rfl (hb hby at_191) rfl (XT.i0_eq_f ((by decide) : ¬ ((1 : Int32) = 0))) ht) ?_
    refine own_stepW (U' := (T36.setTop (mkF m 195 #[.val (.int p1), .val (.int (0 : Int32)), .val (.ref b19), .val (.ref b21), .val (.ref b25), .val (.ref b29), .val .null, .val (.int (1 : Int32))] [(.ref b21)]))) (fun t ht => XS.aloadN X36.here hx rfl (hb hby at_194) rfl rfl ht) ?_
    obtain ⟨cq37, kq37, q37a, q37b, q37c⟩ := isOf hZ e36 f32_5
    obtain ⟨_, _, ⟨T37, L37, k37, n37⟩, -, X37, ⟨Lc37, hQ37, l37, y37, z37⟩, st37⟩ := X36.virtualBackUp hx (x := (⟨"com/example/feuillet/feuillet/ProcessingInstruction", "getParentNode", "()Lcom/example/feuillet/feuillet/Node$Parent;"⟩ : MethodName)) (y := (⟨"com/example/feuillet/feuillet/Node", "getParentNode", "()Lcom/example/feuillet/feuillet/Node$Parent;"⟩ : MethodName)) hown (mvT hZ (hw _ (List.mem_of_getElem? (i := 59) rfl))) (mvT hZ (hw _ (List.mem_of_getElem? (i := 60) rfl))) (mvT hZ (hw _ (List.mem_of_getElem? (i := 61) rfl))) (by decide) (mvT hZ (hw _ (List.mem_of_getElem? (i := 63) rfl))) (mvT hZ (hw _ (List.mem_of_getElem? (i := 62) rfl))) (backOf (W := 0) (own_m_gpn l Z a0 hw [] (b21) (.null) T32.heap n0 (Nat.le_trans Z0 K32.1) f32_3 rfl) hZ (hw _ (List.mem_of_getElem? (i := 64) rfl)) (hw _ (List.mem_of_getElem? (i := 14) rfl)) (by decide) (by decide)) q37a q37c (g := (mkF m 195 #[.val (.int p1), .val (.int (0 : Int32)), .val (.ref b19), .val (.ref b21), .val (.ref b25), .val (.ref b29), .val .null, .val (.int (1 : Int32))] [(.ref b21)])) rfl (by rw [hml]; rfl) (Steps.refl _) (argsL := []) (rest := []) (lenOf own_pd3 rfl) rfl (by show 2 * 0 + _ ≤ _; exact Nat.le_of_eq rfl) (hb hby at_195) (fun _ _ => ⟨rfl, e36, (by decide : 16 + 0 ≤ _), (by decide : 64 + 0 ≤ _)⟩)
    dsimp only [Pt.U, Pt.locs, Pt.cells, Pt.slots] at X37 l37 y37 z37 st37 hQ37
    subst l37 y37 z37
    obtain ⟨rfl, Nq37, Kq37⟩ := hQ37
    have N37 := Fr.app N36 Nq37
    have e37 : T37.heap = T32.heap := Kq37
    refine own_stepW (U' := (T37.setTop (mkF m 198 #[.val (.int p1), .val (.int (0 : Int32)), .val (.ref b19), .val (.ref b21), .val (.ref b25), .val (.ref b29), .val .null, .val (.int (1 : Int32))] [.null]))) (fun t ht => st37.trans ht) ?_
    refine own_stepW (U' := (T37.setTop (mkF m 199 #[.val (.int p1), .val (.int (0 : Int32)), .val (.ref b19), .val (.ref b21), .val (.ref b25), .val (.ref b29), .val .null, .val (.int (1 : Int32))] [(.int (0 : Int32)), .null]))) (fun t ht => XS.iloadN X37.here hx rfl (hb hby at_198) rfl ht) ?_
    refine own_stepW (U' := (T37.setTop (mkF m 206 #[.val (.int p1), .val (.int (0 : Int32)), .val (.ref b19), .val (.ref b21), .val (.ref b25), .val (.ref b29), .val .null, .val (.int (1 : Int32))] [.null]))) (fun t ht => XS.ifYes X37.here hx rfl (pc0 := 199) (pc' := 206) rfl (hb hby at_199) rfl (XT.i0_le_t ((by decide) : ¬ (0 < (0 : Int32)))) (by decide) (by decide) ht) ?_
    refine own_stepW (U' := (T37.setTop (mkF m 207 #[.val (.int p1), .val (.int (0 : Int32)), .val (.ref b19), .val (.ref b21), .val (.ref b25), .val (.ref b29), .val .null, .val (.int (1 : Int32))] [.null, .null]))) (fun t ht => XS.aconstNull X37.here hx rfl (hb hby at_206) ht) ?_
    refine own_stepW (U' := (T37.setTop (mkF m 210 #[.val (.int p1), .val (.int (0 : Int32)), .val (.ref b19), .val (.ref b21), .val (.ref b25), .val (.ref b29), .val .null, .val (.int (1 : Int32))] []))) (fun t ht => Jvm.RoadKit.acmp (g := (mkF m 207 #[.val (.int p1), .val (.int (0 : Int32)), .val (.ref b19), .val (.ref b21), .val (.ref b25), .val (.ref b29), .val .null, .val (.int (1 : Int32))] [.null, .null])) X37 hx rfl rfl rfl (pc0 := 207) (pc' := 210) (same := true) rfl (hb hby at_207) rfl (decide_eq_true (rfl : (.null : Value) = (.null : Value))) (by decide) (by decide) ht) ?_
    refine own_stepW (U' := (T37.setTop (mkF m 211 #[.val (.int p1), .val (.int (0 : Int32)), .val (.ref b19), .val (.ref b21), .val (.ref b25), .val (.ref b29), .val .null, .val (.int (1 : Int32))] [(.int (1 : Int32))]))) (fun t ht => XS.iconst X37.here hx rfl (hb hby at_210) ht) ?_
    refine own_stepW (U' := (T37.setTop (mkF m 215 #[.val (.int p1), .val (.int (0 : Int32)), .val (.ref b19), .val (.ref b21), .val (.ref b25), .val (.ref b29), .val .null, .val (.int (1 : Int32))] [(.int (1 : Int32))]))) (fun t ht => XS.goto X37.here hx rfl (pc0 := 211) (pc' := 215) rfl (hb hby at_211) (by decide) (by decide) ht) ?_
    refine own_stepW (U' := (T37.setTop (mkF m 217 #[.val (.int p1), .val (.int (0 : Int32)), .val (.ref b19), .val (.ref b21), .val (.ref b25), .val (.ref b29), .val .null, .val (.int (1 : Int32))] []))) (fun t ht => XS.istore X37.here hx rfl (hb hby at_215) rfl (l' := #[.val (.int p1), .val (.int (0 : Int32)), .val (.ref b19), .val (.ref b21), .val (.ref b25), .val (.ref b29), .val .null, .val (.int (1 : Int32))]) rfl ht) ?_
    refine own_stepW (U' := (T37.setTop (mkF m 219 #[.val (.int p1), .val (.int (0 : Int32)), .val (.ref b19), .val (.ref b21), .val (.ref b25), .val (.ref b29), .val .null, .val (.int (1 : Int32))] [(.int (1 : Int32))]))) (fun t ht => XS.iload X37.here hx rfl (hb hby at_217) rfl ht) ?_
    refine own_stepW (U' := (T37.setTop (mkF m 222 #[.val (.int p1), .val (.int (0 : Int32)), .val (.ref b19), .val (.ref b21), .val (.ref b25), .val (.ref b29), .val .null, .val (.int (1 : Int32))] []))) (fun t ht => XS.ifNo X37.here hx rfl (hb hby at_219) rfl (XT.i0_eq_f ((by decide) : ¬ ((1 : Int32) = 0))) ht) ?_
    refine own_stepW (U' := (T37.setTop (mkF m 224 #[.val (.int p1), .val (.int (0 : Int32)), .val (.ref b19), .val (.ref b21), .val (.ref b25), .val (.ref b29), .val .null, .val (.int (1 : Int32))] [(.ref b25)]))) (fun t ht => XS.aload X37.here hx rfl (hb hby at_222) rfl rfl ht) ?_
    obtain ⟨cq38, kq38, q38a, q38b, q38c⟩ := isOf hZ e37 f32_8
    obtain ⟨_, _, ⟨T38, L38, k38, n38⟩, -, X38, ⟨Lc38, hQ38, l38, y38, z38⟩, st38⟩ := X37.virtualBackUp hx (x := (⟨"com/example/feuillet/feuillet/ProcessingInstruction", "getParentNode", "()Lcom/example/feuillet/feuillet/Node$Parent;"⟩ : MethodName)) (y := (⟨"com/example/feuillet/feuillet/Node", "getParentNode", "()Lcom/example/feuillet/feuillet/Node$Parent;"⟩ : MethodName)) hown (mvT hZ (hw _ (List.mem_of_getElem? (i := 59) rfl))) (mvT hZ (hw _ (List.mem_of_getElem? (i := 60) rfl))) (mvT hZ (hw _ (List.mem_of_getElem? (i := 61) rfl))) (by decide) (mvT hZ (hw _ (List.mem_of_getElem? (i := 63) rfl))) (mvT hZ (hw _ (List.mem_of_getElem? (i := 62) rfl))) (backOf (W := 0) (own_m_gpn l Z a0 hw [] (b25) (.null) T32.heap n0 (Nat.le_trans Z0 K32.1) f32_6 rfl) hZ (hw _ (List.mem_of_getElem? (i := 64) rfl)) (hw _ (List.mem_of_getElem? (i := 14) rfl)) (by decide) (by decide)) q38a q38c (g := (mkF m 224 #[.val (.int p1), .val (.int (0 : Int32)), .val (.ref b19), .val (.ref b21), .val (.ref b25), .val (.ref b29), .val .null, .val (.int (1 : Int32))] [(.ref b25)])) rfl (by rw [hml]; rfl) (Steps.refl _) (argsL := []) (rest := []) (lenOf own_pd3 rfl) rfl (by show 2 * 0 + _ ≤ _; exact Nat.le_of_eq rfl) (hb hby at_224) (fun _ _ => ⟨rfl, e37, (by decide : 16 + 0 ≤ _), (by decide : 64 + 0 ≤ _)⟩)
    dsimp only [Pt.U, Pt.locs, Pt.cells, Pt.slots] at X38 l38 y38 z38 st38 hQ38
    subst l38 y38 z38
    obtain ⟨rfl, Nq38, Kq38⟩ := hQ38
    have N38 := Fr.app N37 Nq38
    have e38 : T38.heap = T32.heap := Kq38
    refine own_stepW (U' := (T38.setTop (mkF m 227 #[.val (.int p1), .val (.int (0 : Int32)), .val (.ref b19), .val (.ref b21), .val (.ref b25), .val (.ref b29), .val .null, .val (.int (1 : Int32))] [.null]))) (fun t ht => st38.trans ht) ?_
    refine own_stepW (U' := (T38.setTop (mkF m 228 #[.val (.int p1), .val (.int (0 : Int32)), .val (.ref b19), .val (.ref b21), .val (.ref b25), .val (.ref b29), .val .null, .val (.int (1 : Int32))] [(.int (0 : Int32)), .null]))) (fun t ht => XS.iloadN X38.here hx rfl (hb hby at_227) rfl ht) ?_
    refine own_stepW (U' := (T38.setTop (mkF m 229 #[.val (.int p1), .val (.int (0 : Int32)), .val (.ref b19), .val (.ref b21), .val (.ref b25), .val (.ref b29), .val .null, .val (.int (1 : Int32))] [(.int (1 : Int32)), (.int (0 : Int32)), .null]))) (fun t ht => XS.iconst X38.here hx rfl (hb hby at_228) ht) ?_
    refine own_stepW (U' := (T38.setTop (mkF m 236 #[.val (.int p1), .val (.int (0 : Int32)), .val (.ref b19), .val (.ref b21), .val (.ref b25), .val (.ref b29), .val .null, .val (.int (1 : Int32))] [.null]))) (fun t ht => XS.icmpYes X38.here hx rfl (pc0 := 229) (pc' := 236) rfl (hb hby at_229) rfl (XT.ii_le_t ((by decide) : ¬ ((1 : Int32) < (0 : Int32)))) (by decide) (by decide) ht) ?_
    refine own_stepW (U' := (T38.setTop (mkF m 237 #[.val (.int p1), .val (.int (0 : Int32)), .val (.ref b19), .val (.ref b21), .val (.ref b25), .val (.ref b29), .val .null, .val (.int (1 : Int32))] [.null, .null]))) (fun t ht => XS.aconstNull X38.here hx rfl (hb hby at_236) ht) ?_
    refine own_stepW (U' := (T38.setTop (mkF m 240 #[.val (.int p1), .val (.int (0 : Int32)), .val (.ref b19), .val (.ref b21), .val (.ref b25), .val (.ref b29), .val .null, .val (.int (1 : Int32))] []))) (fun t ht => Jvm.RoadKit.acmp (g := (mkF m 237 #[.val (.int p1), .val (.int (0 : Int32)), .val (.ref b19), .val (.ref b21), .val (.ref b25), .val (.ref b29), .val .null, .val (.int (1 : Int32))] [.null, .null])) X38 hx rfl rfl rfl (pc0 := 237) (pc' := 240) (same := true) rfl (hb hby at_237) rfl (decide_eq_true (rfl : (.null : Value) = (.null : Value))) (by decide) (by decide) ht) ?_
    refine own_stepW (U' := (T38.setTop (mkF m 241 #[.val (.int p1), .val (.int (0 : Int32)), .val (.ref b19), .val (.ref b21), .val (.ref b25), .val (.ref b29), .val .null, .val (.int (1 : Int32))] [(.int (1 : Int32))]))) (fun t ht => XS.iconst X38.here hx rfl (hb hby at_240) ht) ?_
    refine own_stepW (U' := (T38.setTop (mkF m 245 #[.val (.int p1), .val (.int (0 : Int32)), .val (.ref b19), .val (.ref b21), .val (.ref b25), .val (.ref b29), .val .null, .val (.int (1 : Int32))] [(.int (1 : Int32))]))) (fun t ht => XS.goto X38.here hx rfl (pc0 := 241) (pc' := 245) rfl (hb hby at_241) (by decide) (by decide) ht) ?_
    refine own_stepW (U' := (T38.setTop (mkF m 247 #[.val (.int p1), .val (.int (0 : Int32)), .val (.ref b19), .val (.ref b21), .val (.ref b25), .val (.ref b29), .val .null, .val (.int (1 : Int32))] []))) (fun t ht => XS.istore X38.here hx rfl (hb hby at_245) rfl (l' := #[.val (.int p1), .val (.int (0 : Int32)), .val (.ref b19), .val (.ref b21), .val (.ref b25), .val (.ref b29), .val .null, .val (.int (1 : Int32))]) rfl ht) ?_
    refine own_stepW (U' := (T38.setTop (mkF m 249 #[.val (.int p1), .val (.int (0 : Int32)), .val (.ref b19), .val (.ref b21), .val (.ref b25), .val (.ref b29), .val .null, .val (.int (1 : Int32))] [(.int (1 : Int32))]))) (fun t ht => XS.iload X38.here hx rfl (hb hby at_247) rfl ht) ?_
    refine own_stepW (U' := (T38.setTop (mkF m 252 #[.val (.int p1), .val (.int (0 : Int32)), .val (.ref b19), .val (.ref b21), .val (.ref b25), .val (.ref b29), .val .null, .val (.int (1 : Int32))] []))) (fun t ht => XS.ifNo X38.here hx rfl (hb hby at_249) rfl (XT.i0_eq_f ((by decide) : ¬ ((1 : Int32) = 0))) ht) ?_
    refine own_stepW (U' := (T38.setTop (mkF m 254 #[.val (.int p1), .val (.int (0 : Int32)), .val (.ref b19), .val (.ref b21), .val (.ref b25), .val (.ref b29), .val .null, .val (.int (1 : Int32))] [(.ref b29)]))) (fun t ht => XS.aload X38.here hx rfl (hb hby at_252) rfl rfl ht) ?_
    obtain ⟨cq39, kq39, q39a, q39b, q39c⟩ := isOf hZ e38 Fq32_2
    obtain ⟨_, _, ⟨T39, L39, k39, n39⟩, -, X39, ⟨Lc39, hQ39, l39, y39, z39⟩, st39⟩ := X38.virtualBackUp hx (x := (⟨"com/example/feuillet/feuillet/ProcessingInstruction", "getParentNode", "()Lcom/example/feuillet/feuillet/Node$Parent;"⟩ : MethodName)) (y := (⟨"com/example/feuillet/feuillet/Node", "getParentNode", "()Lcom/example/feuillet/feuillet/Node$Parent;"⟩ : MethodName)) hown (mvT hZ (hw _ (List.mem_of_getElem? (i := 59) rfl))) (mvT hZ (hw _ (List.mem_of_getElem? (i := 60) rfl))) (mvT hZ (hw _ (List.mem_of_getElem? (i := 61) rfl))) (by decide) (mvT hZ (hw _ (List.mem_of_getElem? (i := 63) rfl))) (mvT hZ (hw _ (List.mem_of_getElem? (i := 62) rfl))) (backOf (W := 0) (own_m_gpn l Z a0 hw [] (b29) (.null) T32.heap n0 (Nat.le_trans Z0 K32.1) Fq32_0 rfl) hZ (hw _ (List.mem_of_getElem? (i := 64) rfl)) (hw _ (List.mem_of_getElem? (i := 14) rfl)) (by decide) (by decide)) q39a q39c (g := (mkF m 254 #[.val (.int p1), .val (.int (0 : Int32)), .val (.ref b19), .val (.ref b21), .val (.ref b25), .val (.ref b29), .val .null, .val (.int (1 : Int32))] [(.ref b29)])) rfl (by rw [hml]; rfl) (Steps.refl _) (argsL := []) (rest := []) (lenOf own_pd3 rfl) rfl (by show 2 * 0 + _ ≤ _; exact Nat.le_of_eq rfl) (hb hby at_254) (fun _ _ => ⟨rfl, e38, (by decide : 16 + 0 ≤ _), (by decide : 64 + 0 ≤ _)⟩)
    dsimp only [Pt.U, Pt.locs, Pt.cells, Pt.slots] at X39 l39 y39 z39 st39 hQ39
    subst l39 y39 z39
    obtain ⟨rfl, Nq39, Kq39⟩ := hQ39
    have N39 := Fr.app N38 Nq39
    have e39 : T39.heap = T32.heap := Kq39
    refine own_stepW (U' := (T39.setTop (mkF m 257 #[.val (.int p1), .val (.int (0 : Int32)), .val (.ref b19), .val (.ref b21), .val (.ref b25), .val (.ref b29), .val .null, .val (.int (1 : Int32))] [.null]))) (fun t ht => st39.trans ht) ?_
    refine own_stepW (U' := (T39.setTop (mkF m 258 #[.val (.int p1), .val (.int (0 : Int32)), .val (.ref b19), .val (.ref b21), .val (.ref b25), .val (.ref b29), .val .null, .val (.int (1 : Int32))] [(.int (0 : Int32)), .null]))) (fun t ht => XS.iloadN X39.here hx rfl (hb hby at_257) rfl ht) ?_
    refine own_stepW (U' := (T39.setTop (mkF m 259 #[.val (.int p1), .val (.int (0 : Int32)), .val (.ref b19), .val (.ref b21), .val (.ref b25), .val (.ref b29), .val .null, .val (.int (1 : Int32))] [(.int (2 : Int32)), (.int (0 : Int32)), .null]))) (fun t ht => XS.iconst X39.here hx rfl (hb hby at_258) ht) ?_
    refine own_stepW (U' := (T39.setTop (mkF m 266 #[.val (.int p1), .val (.int (0 : Int32)), .val (.ref b19), .val (.ref b21), .val (.ref b25), .val (.ref b29), .val .null, .val (.int (1 : Int32))] [.null]))) (fun t ht => XS.icmpYes X39.here hx rfl (pc0 := 259) (pc' := 266) rfl (hb hby at_259) rfl (XT.ii_le_t ((by decide) : ¬ ((2 : Int32) < (0 : Int32)))) (by decide) (by decide) ht) ?_
    refine own_stepW (U' := (T39.setTop (mkF m 267 #[.val (.int p1), .val (.int (0 : Int32)), .val (.ref b19), .val (.ref b21), .val (.ref b25), .val (.ref b29), .val .null, .val (.int (1 : Int32))] [.null, .null]))) (fun t ht => XS.aconstNull X39.here hx rfl (hb hby at_266) ht) ?_
    refine own_stepW (U' := (T39.setTop (mkF m 270 #[.val (.int p1), .val (.int (0 : Int32)), .val (.ref b19), .val (.ref b21), .val (.ref b25), .val (.ref b29), .val .null, .val (.int (1 : Int32))] []))) (fun t ht => Jvm.RoadKit.acmp (g := (mkF m 267 #[.val (.int p1), .val (.int (0 : Int32)), .val (.ref b19), .val (.ref b21), .val (.ref b25), .val (.ref b29), .val .null, .val (.int (1 : Int32))] [.null, .null])) X39 hx rfl rfl rfl (pc0 := 267) (pc' := 270) (same := true) rfl (hb hby at_267) rfl (decide_eq_true (rfl : (.null : Value) = (.null : Value))) (by decide) (by decide) ht) ?_
    refine own_stepW (U' := (T39.setTop (mkF m 271 #[.val (.int p1), .val (.int (0 : Int32)), .val (.ref b19), .val (.ref b21), .val (.ref b25), .val (.ref b29), .val .null, .val (.int (1 : Int32))] [(.int (1 : Int32))]))) (fun t ht => XS.iconst X39.here hx rfl (hb hby at_270) ht) ?_
    refine own_stepW (U' := (T39.setTop (mkF m 275 #[.val (.int p1), .val (.int (0 : Int32)), .val (.ref b19), .val (.ref b21), .val (.ref b25), .val (.ref b29), .val .null, .val (.int (1 : Int32))] [(.int (1 : Int32))]))) (fun t ht => XS.goto X39.here hx rfl (pc0 := 271) (pc' := 275) rfl (hb hby at_271) (by decide) (by decide) ht) ?_
    refine own_stepW (U' := (T39.setTop (mkF m 277 #[.val (.int p1), .val (.int (0 : Int32)), .val (.ref b19), .val (.ref b21), .val (.ref b25), .val (.ref b29), .val .null, .val (.int (1 : Int32))] []))) (fun t ht => XS.istore X39.here hx rfl (hb hby at_275) rfl (l' := #[.val (.int p1), .val (.int (0 : Int32)), .val (.ref b19), .val (.ref b21), .val (.ref b25), .val (.ref b29), .val .null, .val (.int (1 : Int32))]) rfl ht) ?_
    refine own_stepW (U' := (T39.setTop (mkF m 279 #[.val (.int p1), .val (.int (0 : Int32)), .val (.ref b19), .val (.ref b21), .val (.ref b25), .val (.ref b29), .val .null, .val (.int (1 : Int32))] [(.int (1 : Int32))]))) (fun t ht => XS.iload X39.here hx rfl (hb hby at_277) rfl ht) ?_
    refine own_retW X39 hS31 (by rw [e39]; exact f32_14) (v := (some (.int (nar .boolean (1 : Int32))))) (fun h => by rw [Bd.returns] at h; cases h) Bd.notSynchronized (by decide) (by decide) ?_ (fun fs hr => retN X39 hx (t := .boolean) Bd.returns (by simp) (hb hby at_279) hr)
    show own_Q_law Z p1 h0 n0 _ T39.heap _
    rw [e39]
    exact ⟨rfl, N39⟩
  ·
    refine own_stepW (U' := (T32.setTop (mkF m 51 #[.val (.int p1), .val (.int (1 : Int32)), .val (.ref b19), .val (.ref b21), .val (.ref b25), .val (.ref b29), .unset, .unset] [(.int (1 : Int32))]))) (fun t ht => XS.iloadN X32.here hx rfl (hb hby at_50) rfl ht) ?_
    refine own_stepW (U' := (T32.setTop (mkF m 54 #[.val (.int p1), .val (.int (1 : Int32)), .val (.ref b19), .val (.ref b21), .val (.ref b25), .val (.ref b29), .unset, .unset] []))) (fun t ht => XS.ifNo X32.here hx rfl (hb hby at_51) rfl (XT.i0_le_f ((by decide) : 0 < (1 : Int32))) ht) ?_
    refine own_stepW (U' := (T32.setTop (mkF m 55 #[.val (.int p1), .val (.int (1 : Int32)), .val (.ref b19), .val (.ref b21), .val (.ref b25), .val (.ref b29), .unset, .unset] [(.ref b19)]))) (fun t ht => XS.aloadN X32.here hx rfl (hb hby at_54) rfl rfl ht) ?_
    refine own_stepW (U' := (T32.setTop (mkF m 56 #[.val (.int p1), .val (.int (1 : Int32)), .val (.ref b19), .val (.ref b21), .val (.ref b25), .val (.ref b29), .unset, .unset] [(.ref b21), (.ref b19)]))) (fun t ht => XS.aloadN X32.here hx rfl (hb hby at_55) rfl rfl ht) ?_
    obtain ⟨cq40, kq40, q40a, q40b, q40c⟩ := isOf hZ rfl f32_0
    obtain ⟨_, _, ⟨T40, L40, k40, n40⟩, -, X40, ⟨Lc40, hQ40, l40, y40, z40⟩, st40⟩ := X32.virtualBackUp hx (x := (⟨"com/example/feuillet/feuillet/Document", "append", "(Lcom/example/feuillet/feuillet/Node;)V"⟩ : MethodName)) (y := (⟨"com/example/feuillet/feuillet/Node$Parent", "append", "(Lcom/example/feuillet/feuillet/Node;)V"⟩ : MethodName)) hown (mvT hZ (hw _ (List.mem_of_getElem? (i := 67) rfl))) (mvT hZ (hw _ (List.mem_of_getElem? (i := 68) rfl))) (mvT hZ (hw _ (List.mem_of_getElem? (i := 69) rfl))) (by decide) (mvT hZ (hw _ (List.mem_of_getElem? (i := 71) rfl))) (mvT hZ (hw _ (List.mem_of_getElem? (i := 70) rfl))) (backOf (W := 0) (own_m_apA l Z a0 hw [] (b19) (b21) (.null) (.null) (.null) T32.heap n0 (Nat.le_trans Z0 K32.1) g_b19 g_b21 f32_3 f32_4 f32_5 f32_1 f32_2 f32_0) hZ (hw _ (List.mem_of_getElem? (i := 72) rfl)) (hw _ (List.mem_of_getElem? (i := 9) rfl)) (by decide) (by decide)) q40a q40c (g := (mkF m 56 #[.val (.int p1), .val (.int (1 : Int32)), .val (.ref b19), .val (.ref b21), .val (.ref b25), .val (.ref b29), .unset, .unset] [(.ref b21), (.ref b19)])) rfl (by rw [hml]; rfl) (Steps.refl _) (argsL := [(.ref b21)]) (rest := []) (lenOf own_pd4 rfl) rfl (by show 2 * 0 + _ ≤ _; exact Nat.le_of_eq rfl) (hb hby at_56) (fun _ _ => ⟨rfl, rfl, (by decide : 16 + 0 ≤ _), (by decide : 64 + 0 ≤ _)⟩)
    dsimp only [Pt.U, Pt.locs, Pt.cells, Pt.slots] at X40 l40 y40 z40 st40 hQ40
    subst l40 y40 z40
    obtain ⟨rfl, Nq40, Kq40, Fq40_0, Fq40_1, Fq40_2, Fq40_3, Fq40_4, Fq40_5⟩ := hQ40
    have N40 := Fr.app N32 Nq40
    have f40_0 : Exa Z T40.heap b19 "com/example/feuillet/feuillet/Document" := f32_0.keep Kq40
    have f40_5 : Exa Z T40.heap b21 "com/example/feuillet/feuillet/ProcessingInstruction" := f32_5.keep Kq40
    have f40_6 : Fld Z T40.heap b25 "com/example/feuillet/feuillet/Node" "parent" "Lcom/example/feuillet/feuillet/Node$Parent;" .null := f32_6.keep Kq40 (ninS (Ne.symm ne_b21_b25) (ninS (Ne.symm ne_b19_b25) nin0))
    have f40_7 : Fld Z T40.heap b25 "com/example/feuillet/feuillet/Node" "nextSibling" "Lcom/example/feuillet/feuillet/Node;" .null := f32_7.keep Kq40 (ninS (Ne.symm ne_b21_b25) (ninS (Ne.symm ne_b19_b25) nin0))
    have f40_8 : Exa Z T40.heap b25 "com/example/feuillet/feuillet/ProcessingInstruction" := f32_8.keep Kq40
    have f40_9 : k31 ≤ (T40.heap).size := Nat.le_trans f32_14 Kq40.1
    have f40_10 : Fld Z T40.heap b29 "com/example/feuillet/feuillet/Node" "parent" "Lcom/example/feuillet/feuillet/Node$Parent;" .null := Fq32_0.keep Kq40 (ninS (Ne.symm ne_b21_b29) (ninS (Ne.symm ne_b19_b29) nin0))
    have f40_11 : Fld Z T40.heap b29 "com/example/feuillet/feuillet/Node" "nextSibling" "Lcom/example/feuillet/feuillet/Node;" .null := Fq32_1.keep Kq40 (ninS (Ne.symm ne_b21_b29) (ninS (Ne.symm ne_b19_b29) nin0))
    have f40_12 : Exa Z T40.heap b29 "com/example/feuillet/feuillet/ProcessingInstruction" := Fq32_2.keep Kq40
    have K40 : Keep h0 T40.heap [] := K32.trans Kq40 (allS (Or.inr sz_b21) (allS (Or.inr sz_b19) all0))
    refine own_stepW (U' := (T40.setTop (mkF m 59 #[.val (.int p1), .val (.int (1 : Int32)), .val (.ref b19), .val (.ref b21), .val (.ref b25), .val (.ref b29), .unset, .unset] []))) (fun t ht => st40.trans ht) ?_
    refine own_stepW (U' := (T40.setTop (mkF m 60 #[.val (.int p1), .val (.int (1 : Int32)), .val (.ref b19), .val (.ref b21), .val (.ref b25), .val (.ref b29), .unset, .unset] [(.int (1 : Int32))]))) (fun t ht => XS.iloadN X40.here hx rfl (hb hby at_59) rfl ht) ?_
    refine own_stepW (U' := (T40.setTop (mkF m 61 #[.val (.int p1), .val (.int (1 : Int32)), .val (.ref b19), .val (.ref b21), .val (.ref b25), .val (.ref b29), .unset, .unset] [(.int (1 : Int32)), (.int (1 : Int32))]))) (fun t ht => XS.iconst X40.here hx rfl (hb hby at_60) ht) ?_
    refine own_stepW (U' := (T40.setTop (mkF m 70 #[.val (.int p1), .val (.int (1 : Int32)), .val (.ref b19), .val (.ref b21), .val (.ref b25), .val (.ref b29), .unset, .unset] []))) (fun t ht => XS.icmpYes X40.here hx rfl (pc0 := 61) (pc' := 70) rfl (hb hby at_61) rfl (XT.ii_le_t ((by decide) : ¬ ((1 : Int32) < (1 : Int32)))) (by decide) (by decide) ht) ?_
    refine own_stepW (U' := (T40.setTop (mkF m 71 #[.val (.int p1), .val (.int (1 : Int32)), .val (.ref b19), .val (.ref b21), .val (.ref b25), .val (.ref b29), .unset, .unset] [(.int (1 : Int32))]))) (fun t ht => XS.iloadN X40.here hx rfl (hb hby at_70) rfl ht) ?_
    refine own_stepW (U' := (T40.setTop (mkF m 72 #[.val (.int p1), .val (.int (1 : Int32)), .val (.ref b19), .val (.ref b21), .val (.ref b25), .val (.ref b29), .unset, .unset] [(.int (2 : Int32)), (.int (1 : Int32))]))) (fun t ht => XS.iconst X40.here hx rfl (hb hby at_71) ht) ?_
    refine own_stepW (U' := (T40.setTop (mkF m 81 #[.val (.int p1), .val (.int (1 : Int32)), .val (.ref b19), .val (.ref b21), .val (.ref b25), .val (.ref b29), .unset, .unset] []))) (fun t ht => XS.icmpYes X40.here hx rfl (pc0 := 72) (pc' := 81) rfl (hb hby at_72) rfl (XT.ii_le_t ((by decide) : ¬ ((2 : Int32) < (1 : Int32)))) (by decide) (by decide) ht) ?_
    refine own_stepW (U' := (T40.setTop (mkF m 82 #[.val (.int p1), .val (.int (1 : Int32)), .val (.ref b19), .val (.ref b21), .val (.ref b25), .val (.ref b29), .unset, .unset] [(.ref b19)]))) (fun t ht => XS.aloadN X40.here hx rfl (hb hby at_81) rfl rfl ht) ?_
    obtain ⟨cq41, kq41, q41a, q41b, q41c⟩ := isOf hZ rfl Fq40_5
    obtain ⟨_, _, ⟨T41, L41, k41, n41⟩, -, X41, ⟨Lc41, hQ41, l41, y41, z41⟩, st41⟩ := X40.virtualBackUp hx (x := (⟨"com/example/feuillet/feuillet/Document", "getFirstChild", "()Lcom/example/feuillet/feuillet/Node;"⟩ : MethodName)) (y := (⟨"com/example/feuillet/feuillet/Node$Parent", "getFirstChild", "()Lcom/example/feuillet/feuillet/Node;"⟩ : MethodName)) hown (mvT hZ (hw _ (List.mem_of_getElem? (i := 43) rfl))) (mvT hZ (hw _ (List.mem_of_getElem? (i := 44) rfl))) (mvT hZ (hw _ (List.mem_of_getElem? (i := 45) rfl))) (by decide) (mvT hZ (hw _ (List.mem_of_getElem? (i := 47) rfl))) (mvT hZ (hw _ (List.mem_of_getElem? (i := 46) rfl))) (backOf (W := 0) (own_m_gfc l Z a0 hw [] (b19) ((.ref b21)) T40.heap n0 (Nat.le_trans Z0 K40.1) Fq40_3 rfl) hZ (hw _ (List.mem_of_getElem? (i := 48) rfl)) (hw _ (List.mem_of_getElem? (i := 9) rfl)) (by decide) (by decide)) q41a q41c (g := (mkF m 82 #[.val (.int p1), .val (.int (1 : Int32)), .val (.ref b19), .val (.ref b21), .val (.ref b25), .val (.ref b29), .unset, .unset] [(.ref b19)])) rfl (by rw [hml]; rfl) (Steps.refl _) (argsL := []) (rest := []) (lenOf own_pd2 rfl) rfl (by show 2 * 0 + _ ≤ _; exact Nat.le_of_eq rfl) (hb hby at_82) (fun _ _ => ⟨rfl, rfl, (by decide : 16 + 0 ≤ _), (by decide : 64 + 0 ≤ _)⟩)
    dsimp only [Pt.U, Pt.locs, Pt.cells, Pt.slots] at X41 l41 y41 z41 st41 hQ41
    subst l41 y41 z41
    obtain ⟨rfl, Nq41, Kq41⟩ := hQ41
    have N41 := Fr.app N40 Nq41
    have e41 : T41.heap = T40.heap := Kq41
    refine own_stepW (U' := (T41.setTop (mkF m 85 #[.val (.int p1), .val (.int (1 : Int32)), .val (.ref b19), .val (.ref b21), .val (.ref b25), .val (.ref b29), .unset, .unset] [(.ref b21)]))) (fun t ht => st41.trans ht) ?_
    refine own_stepW (U' := (T41.setTop (mkF m 87 #[.val (.int p1), .val (.int (1 : Int32)), .val (.ref b19), .val (.ref b21), .val (.ref b25), .val (.ref b29), .val (.ref b21), .unset] []))) (fun t ht => XS.astore X41.here hx rfl (hb hby at_85) rfl rfl (l' := #[.val (.int p1), .val (.int (1 : Int32)), .val (.ref b19), .val (.ref b21), .val (.ref b25), .val (.ref b29), .val (.ref b21), .unset]) rfl ht) ?_
    refine own_stepW (U' := (T41.setTop (mkF m 89 #[.val (.int p1), .val (.int (1 : Int32)), .val (.ref b19), .val (.ref b21), .val (.ref b25), .val (.ref b29), .val (.ref b21), .unset] [(.ref b21)]))) (fun t ht => XS.aload X41.here hx rfl (hb hby at_87) rfl rfl ht) ?_
    refine own_stepW (U' := (T41.setTop (mkF m 90 #[.val (.int p1), .val (.int (1 : Int32)), .val (.ref b19), .val (.ref b21), .val (.ref b25), .val (.ref b29), .val (.ref b21), .unset] [(.int (1 : Int32)), (.ref b21)]))) (fun t ht => XS.iloadN X41.here hx rfl (hb hby at_89) rfl ht) ?_
    refine own_stepW (U' := (T41.setTop (mkF m 93 #[.val (.int p1), .val (.int (1 : Int32)), .val (.ref b19), .val (.ref b21), .val (.ref b25), .val (.ref b29), .val (.ref b21), .unset] [(.ref b21)]))) (fun t ht => XS.ifNo X41.here hx rfl (hb hby at_90) rfl (XT.i0_le_f ((by decide) : 0 < (1 : Int32))) ht) ?_
    refine own_stepW (U' := (T41.setTop (mkF m 94 #[.val (.int p1), .val (.int (1 : Int32)), .val (.ref b19), .val (.ref b21), .val (.ref b25), .val (.ref b29), .val (.ref b21), .unset] [(.ref b21), (.ref b21)]))) (fun t ht => XS.aloadN X41.here hx rfl (hb hby at_93) rfl rfl ht) ?_
    refine own_stepW (U' := (T41.setTop (mkF m 98 #[.val (.int p1), .val (.int (1 : Int32)), .val (.ref b19), .val (.ref b21), .val (.ref b25), .val (.ref b29), .val (.ref b21), .unset] [(.ref b21), (.ref b21)]))) (fun t ht => XS.goto X41.here hx rfl (pc0 := 94) (pc' := 98) rfl (hb hby at_94) (by decide) (by decide) ht) ?_
    refine own_stepW (U' := (T41.setTop (mkF m 101 #[.val (.int p1), .val (.int (1 : Int32)), .val (.ref b19), .val (.ref b21), .val (.ref b25), .val (.ref b29), .val (.ref b21), .unset] []))) (fun t ht => Jvm.RoadKit.acmp (g := (mkF m 98 #[.val (.int p1), .val (.int (1 : Int32)), .val (.ref b19), .val (.ref b21), .val (.ref b25), .val (.ref b29), .val (.ref b21), .unset] [(.ref b21), (.ref b21)])) X41 hx rfl rfl rfl (pc0 := 98) (pc' := 101) (same := true) rfl (hb hby at_98) rfl (decide_eq_true (rfl : (.ref b21 : Value) = (.ref b21 : Value))) (by decide) (by decide) ht) ?_
    refine own_stepW (U' := (T41.setTop (mkF m 102 #[.val (.int p1), .val (.int (1 : Int32)), .val (.ref b19), .val (.ref b21), .val (.ref b25), .val (.ref b29), .val (.ref b21), .unset] [(.int (1 : Int32))]))) (fun t ht => XS.iconst X41.here hx rfl (hb hby at_101) ht) ?_
    refine own_stepW (U' := (T41.setTop (mkF m 106 #[.val (.int p1), .val (.int (1 : Int32)), .val (.ref b19), .val (.ref b21), .val (.ref b25), .val (.ref b29), .val (.ref b21), .unset] [(.int (1 : Int32))]))) (fun t ht => XS.goto X41.here hx rfl (pc0 := 102) (pc' := 106) rfl (hb hby at_102) (by decide) (by decide) ht) ?_
    refine own_stepW (U' := (T41.setTop (mkF m 108 #[.val (.int p1), .val (.int (1 : Int32)), .val (.ref b19), .val (.ref b21), .val (.ref b25), .val (.ref b29), .val (.ref b21), .val (.int (1 : Int32))] []))) (fun t ht => XS.istore X41.here hx rfl (hb hby at_106) rfl (l' := #[.val (.int p1), .val (.int (1 : Int32)), .val (.ref b19), .val (.ref b21), .val (.ref b25), .val (.ref b29), .val (.ref b21), .val (.int (1 : Int32))]) rfl ht) ?_
    refine own_stepW (U' := (T41.setTop (mkF m 110 #[.val (.int p1), .val (.int (1 : Int32)), .val (.ref b19), .val (.ref b21), .val (.ref b25), .val (.ref b29), .val (.ref b21), .val (.int (1 : Int32))] [(.int (1 : Int32))]))) (fun t ht => XS.iload X41.here hx rfl (hb hby at_108) rfl ht) ?_
    refine own_stepW (U' := (T41.setTop (mkF m 113 #[.val (.int p1), .val (.int (1 : Int32)), .val (.ref b19), .val (.ref b21), .val (.ref b25), .val (.ref b29), .val (.ref b21), .val (.int (1 : Int32))] []))) (fun t ht => XS.ifNo X41.here hx rfl (hb hby at_110) rfl (XT.i0_eq_f ((by decide) : ¬ ((1 : Int32) = 0))) ht) ?_
    refine own_stepW (U' := (T41.setTop (mkF m 114 #[.val (.int p1), .val (.int (1 : Int32)), .val (.ref b19), .val (.ref b21), .val (.ref b25), .val (.ref b29), .val (.ref b21), .val (.int (1 : Int32))] [(.ref b21)]))) (fun t ht => XS.aloadN X41.here hx rfl (hb hby at_113) rfl rfl ht) ?_
    obtain ⟨cq42, kq42, q42a, q42b, q42c⟩ := isOf hZ e41 Fq40_2
    obtain ⟨_, _, ⟨T42, L42, k42, n42⟩, -, X42, ⟨Lc42, hQ42, l42, y42, z42⟩, st42⟩ := X41.virtualBackUp hx (x := (⟨"com/example/feuillet/feuillet/ProcessingInstruction", "getNextSibling", "()Lcom/example/feuillet/feuillet/Node;"⟩ : MethodName)) (y := (⟨"com/example/feuillet/feuillet/Node", "getNextSibling", "()Lcom/example/feuillet/feuillet/Node;"⟩ : MethodName)) hown (mvT hZ (hw _ (List.mem_of_getElem? (i := 51) rfl))) (mvT hZ (hw _ (List.mem_of_getElem? (i := 52) rfl))) (mvT hZ (hw _ (List.mem_of_getElem? (i := 53) rfl))) (by decide) (mvT hZ (hw _ (List.mem_of_getElem? (i := 55) rfl))) (mvT hZ (hw _ (List.mem_of_getElem? (i := 54) rfl))) (backOf (W := 0) (own_m_gns l Z a0 hw [] (b21) (.null) T40.heap n0 (Nat.le_trans Z0 K40.1) Fq40_1 rfl) hZ (hw _ (List.mem_of_getElem? (i := 56) rfl)) (hw _ (List.mem_of_getElem? (i := 14) rfl)) (by decide) (by decide)) q42a q42c (g := (mkF m 114 #[.val (.int p1), .val (.int (1 : Int32)), .val (.ref b19), .val (.ref b21), .val (.ref b25), .val (.ref b29), .val (.ref b21), .val (.int (1 : Int32))] [(.ref b21)])) rfl (by rw [hml]; rfl) (Steps.refl _) (argsL := []) (rest := []) (lenOf own_pd2 rfl) rfl (by show 2 * 0 + _ ≤ _; exact Nat.le_of_eq rfl) (hb hby at_114) (fun _ _ => ⟨rfl, e41, (by decide : 16 + 0 ≤ _), (by decide : 64 + 0 ≤ _)⟩)
    dsimp only [Pt.U, Pt.locs, Pt.cells, Pt.slots] at X42 l42 y42 z42 st42 hQ42
    subst l42 y42 z42
    obtain ⟨rfl, Nq42, Kq42⟩ := hQ42
    have N42 := Fr.app N41 Nq42
    have e42 : T42.heap = T40.heap := Kq42
    refine own_stepW (U' := (T42.setTop (mkF m 117 #[.val (.int p1), .val (.int (1 : Int32)), .val (.ref b19), .val (.ref b21), .val (.ref b25), .val (.ref b29), .val (.ref b21), .val (.int (1 : Int32))] [.null]))) (fun t ht => st42.trans ht) ?_
    refine own_stepW (U' := (T42.setTop (mkF m 118 #[.val (.int p1), .val (.int (1 : Int32)), .val (.ref b19), .val (.ref b21), .val (.ref b25), .val (.ref b29), .val (.ref b21), .val (.int (1 : Int32))] [(.int (1 : Int32)), .null]))) (fun t ht => XS.iloadN X42.here hx rfl (hb hby at_117) rfl ht) ?_
    refine own_stepW (U' := (T42.setTop (mkF m 119 #[.val (.int p1), .val (.int (1 : Int32)), .val (.ref b19), .val (.ref b21), .val (.ref b25), .val (.ref b29), .val (.ref b21), .val (.int (1 : Int32))] [(.int (1 : Int32)), (.int (1 : Int32)), .null]))) (fun t ht => XS.iconst X42.here hx rfl (hb hby at_118) ht) ?_
    refine own_stepW (U' := (T42.setTop (mkF m 127 #[.val (.int p1), .val (.int (1 : Int32)), .val (.ref b19), .val (.ref b21), .val (.ref b25), .val (.ref b29), .val (.ref b21), .val (.int (1 : Int32))] [.null]))) (fun t ht => XS.icmpYes X42.here hx rfl (pc0 := 119) (pc' := 127) rfl (hb hby at_119) rfl (XT.ii_le_t ((by decide) : ¬ ((1 : Int32) < (1 : Int32)))) (by decide) (by decide) ht) ?_
    refine own_stepW (U' := (T42.setTop (mkF m 128 #[.val (.int p1), .val (.int (1 : Int32)), .val (.ref b19), .val (.ref b21), .val (.ref b25), .val (.ref b29), .val (.ref b21), .val (.int (1 : Int32))] [.null, .null]))) (fun t ht => XS.aconstNull X42.here hx rfl (hb hby at_127) ht) ?_
    refine own_stepW (U' := (T42.setTop (mkF m 131 #[.val (.int p1), .val (.int (1 : Int32)), .val (.ref b19), .val (.ref b21), .val (.ref b25), .val (.ref b29), .val (.ref b21), .val (.int (1 : Int32))] []))) (fun t ht => Jvm.RoadKit.acmp (g := (mkF m 128 #[.val (.int p1), .val (.int (1 : Int32)), .val (.ref b19), .val (.ref b21), .val (.ref b25), .val (.ref b29), .val (.ref b21), .val (.int (1 : Int32))] [.null, .null])) X42 hx rfl rfl rfl (pc0 := 128) (pc' := 131) (same := true) rfl (hb hby at_128) rfl (decide_eq_true (rfl : (.null : Value) = (.null : Value))) (by decide) (by decide) ht) ?_
    refine own_stepW (U' := (T42.setTop (mkF m 132 #[.val (.int p1), .val (.int (1 : Int32)), .val (.ref b19), .val (.ref b21), .val (.ref b25), .val (.ref b29), .val (.ref b21), .val (.int (1 : Int32))] [(.int (1 : Int32))]))) (fun t ht => XS.iconst X42.here hx rfl (hb hby at_131) ht) ?_
    refine own_stepW (U' := (T42.setTop (mkF m 136 #[.val (.int p1), .val (.int (1 : Int32)), .val (.ref b19), .val (.ref b21), .val (.ref b25), .val (.ref b29), .val (.ref b21), .val (.int (1 : Int32))] [(.int (1 : Int32))]))) (fun t ht => XS.goto X42.here hx rfl (pc0 := 132) (pc' := 136) rfl (hb hby at_132) (by decide) (by decide) ht) ?_
    refine own_stepW (U' := (T42.setTop (mkF m 138 #[.val (.int p1), .val (.int (1 : Int32)), .val (.ref b19), .val (.ref b21), .val (.ref b25), .val (.ref b29), .val (.ref b21), .val (.int (1 : Int32))] []))) (fun t ht => XS.istore X42.here hx rfl (hb hby at_136) rfl (l' := #[.val (.int p1), .val (.int (1 : Int32)), .val (.ref b19), .val (.ref b21), .val (.ref b25), .val (.ref b29), .val (.ref b21), .val (.int (1 : Int32))]) rfl ht) ?_
    refine own_stepW (U' := (T42.setTop (mkF m 140 #[.val (.int p1), .val (.int (1 : Int32)), .val (.ref b19), .val (.ref b21), .val (.ref b25), .val (.ref b29), .val (.ref b21), .val (.int (1 : Int32))] [(.int (1 : Int32))]))) (fun t ht => XS.iload X42.here hx rfl (hb hby at_138) rfl ht) ?_
    refine own_stepW (U' := (T42.setTop (mkF m 143 #[.val (.int p1), .val (.int (1 : Int32)), .val (.ref b19), .val (.ref b21), .val (.ref b25), .val (.ref b29), .val (.ref b21), .val (.int (1 : Int32))] []))) (fun t ht => XS.ifNo X42.here hx rfl (hb hby at_140) rfl (XT.i0_eq_f ((by decide) : ¬ ((1 : Int32) = 0))) ht) ?_
    refine own_stepW (U' := (T42.setTop (mkF m 145 #[.val (.int p1), .val (.int (1 : Int32)), .val (.ref b19), .val (.ref b21), .val (.ref b25), .val (.ref b29), .val (.ref b21), .val (.int (1 : Int32))] [(.ref b25)]))) (fun t ht => XS.aload X42.here hx rfl (hb hby at_143) rfl rfl ht) ?_
    obtain ⟨cq43, kq43, q43a, q43b, q43c⟩ := isOf hZ e42 f40_8
    obtain ⟨_, _, ⟨T43, L43, k43, n43⟩, -, X43, ⟨Lc43, hQ43, l43, y43, z43⟩, st43⟩ := X42.virtualBackUp hx (x := (⟨"com/example/feuillet/feuillet/ProcessingInstruction", "getNextSibling", "()Lcom/example/feuillet/feuillet/Node;"⟩ : MethodName)) (y := (⟨"com/example/feuillet/feuillet/Node", "getNextSibling", "()Lcom/example/feuillet/feuillet/Node;"⟩ : MethodName)) hown (mvT hZ (hw _ (List.mem_of_getElem? (i := 51) rfl))) (mvT hZ (hw _ (List.mem_of_getElem? (i := 52) rfl))) (mvT hZ (hw _ (List.mem_of_getElem? (i := 53) rfl))) (by decide) (mvT hZ (hw _ (List.mem_of_getElem? (i := 55) rfl))) (mvT hZ (hw _ (List.mem_of_getElem? (i := 54) rfl))) (backOf (W := 0) (own_m_gns l Z a0 hw [] (b25) (.null) T40.heap n0 (Nat.le_trans Z0 K40.1) f40_7 rfl) hZ (hw _ (List.mem_of_getElem? (i := 56) rfl)) (hw _ (List.mem_of_getElem? (i := 14) rfl)) (by decide) (by decide)) q43a q43c (g := (mkF m 145 #[.val (.int p1), .val (.int (1 : Int32)), .val (.ref b19), .val (.ref b21), .val (.ref b25), .val (.ref b29), .val (.ref b21), .val (.int (1 : Int32))] [(.ref b25)])) rfl (by rw [hml]; rfl) (Steps.refl _) (argsL := []) (rest := []) (lenOf own_pd2 rfl) rfl (by show 2 * 0 + _ ≤ _; exact Nat.le_of_eq rfl) (hb hby at_145) (fun _ _ => ⟨rfl, e42, (by decide : 16 + 0 ≤ _), (by decide : 64 + 0 ≤ _)⟩)
    dsimp only [Pt.U, Pt.locs, Pt.cells, Pt.slots] at X43 l43 y43 z43 st43 hQ43
    subst l43 y43 z43
    obtain ⟨rfl, Nq43, Kq43⟩ := hQ43
    have N43 := Fr.app N42 Nq43
    have e43 : T43.heap = T40.heap := Kq43
    refine own_stepW (U' := (T43.setTop (mkF m 148 #[.val (.int p1), .val (.int (1 : Int32)), .val (.ref b19), .val (.ref b21), .val (.ref b25), .val (.ref b29), .val (.ref b21), .val (.int (1 : Int32))] [.null]))) (fun t ht => st43.trans ht) ?_
    refine own_stepW (U' := (T43.setTop (mkF m 149 #[.val (.int p1), .val (.int (1 : Int32)), .val (.ref b19), .val (.ref b21), .val (.ref b25), .val (.ref b29), .val (.ref b21), .val (.int (1 : Int32))] [(.int (1 : Int32)), .null]))) (fun t ht => XS.iloadN X43.here hx rfl (hb hby at_148) rfl ht) ?_
    refine own_stepW (U' := (T43.setTop (mkF m 150 #[.val (.int p1), .val (.int (1 : Int32)), .val (.ref b19), .val (.ref b21), .val (.ref b25), .val (.ref b29), .val (.ref b21), .val (.int (1 : Int32))] [(.int (2 : Int32)), (.int (1 : Int32)), .null]))) (fun t ht => XS.iconst X43.here hx rfl (hb hby at_149) ht) ?_
    refine own_stepW (U' := (T43.setTop (mkF m 158 #[.val (.int p1), .val (.int (1 : Int32)), .val (.ref b19), .val (.ref b21), .val (.ref b25), .val (.ref b29), .val (.ref b21), .val (.int (1 : Int32))] [.null]))) (fun t ht => XS.icmpYes X43.here hx rfl (pc0 := 150) (pc' := 158) rfl (hb hby at_150) rfl (XT.ii_le_t ((by decide) : ¬ ((2 : Int32) < (1 : Int32)))) (by decide) (by decide) ht) ?_
    refine own_stepW (U' := (T43.setTop (mkF m 159 #[.val (.int p1), .val (.int (1 : Int32)), .val (.ref b19), .val (.ref b21), .val (.ref b25), .val (.ref b29), .val (.ref b21), .val (.int (1 : Int32))] [.null, .null]))) (fun t ht => XS.aconstNull X43.here hx rfl (hb hby at_158) ht) ?_
    refine own_stepW (U' := (T43.setTop (mkF m 162 #[.val (.int p1), .val (.int (1 : Int32)), .val (.ref b19), .val (.ref b21), .val (.ref b25), .val (.ref b29), .val (.ref b21), .val (.int (1 : Int32))] []))) (fun t ht => Jvm.RoadKit.acmp (g := (mkF m 159 #[.val (.int p1), .val (.int (1 : Int32)), .val (.ref b19), .val (.ref b21), .val (.ref b25), .val (.ref b29), .val (.ref b21), .val (.int (1 : Int32))] [.null, .null])) X43 hx rfl rfl rfl (pc0 := 159) (pc' := 162) (same := true) rfl (hb hby at_159) rfl (decide_eq_true (rfl : (.null : Value) = (.null : Value))) (by decide) (by decide) ht) ?_
    refine own_stepW (U' := (T43.setTop (mkF m 163 #[.val (.int p1), .val (.int (1 : Int32)), .val (.ref b19), .val (.ref b21), .val (.ref b25), .val (.ref b29), .val (.ref b21), .val (.int (1 : Int32))] [(.int (1 : Int32))]))) (fun t ht => XS.iconst X43.here hx rfl (hb hby at_162) ht) ?_
    refine own_stepW (U' := (T43.setTop (mkF m 167 #[.val (.int p1), .val (.int (1 : Int32)), .val (.ref b19), .val (.ref b21), .val (.ref b25), .val (.ref b29), .val (.ref b21), .val (.int (1 : Int32))] [(.int (1 : Int32))]))) (fun t ht => XS.goto X43.here hx rfl (pc0 := 163) (pc' := 167) rfl (hb hby at_163) (by decide) (by decide) ht) ?_
    refine own_stepW (U' := (T43.setTop (mkF m 169 #[.val (.int p1), .val (.int (1 : Int32)), .val (.ref b19), .val (.ref b21), .val (.ref b25), .val (.ref b29), .val (.ref b21), .val (.int (1 : Int32))] []))) (fun t ht => XS.istore X43.here hx rfl (hb hby at_167) rfl (l' := #[.val (.int p1), .val (.int (1 : Int32)), .val (.ref b19), .val (.ref b21), .val (.ref b25), .val (.ref b29), .val (.ref b21), .val (.int (1 : Int32))]) rfl ht) ?_
    refine own_stepW (U' := (T43.setTop (mkF m 171 #[.val (.int p1), .val (.int (1 : Int32)), .val (.ref b19), .val (.ref b21), .val (.ref b25), .val (.ref b29), .val (.ref b21), .val (.int (1 : Int32))] [(.int (1 : Int32))]))) (fun t ht => XS.iload X43.here hx rfl (hb hby at_169) rfl ht) ?_
    refine own_stepW (U' := (T43.setTop (mkF m 174 #[.val (.int p1), .val (.int (1 : Int32)), .val (.ref b19), .val (.ref b21), .val (.ref b25), .val (.ref b29), .val (.ref b21), .val (.int (1 : Int32))] []))) (fun t ht => XS.ifNo X43.here hx rfl (hb hby at_171) rfl (XT.i0_eq_f ((by decide) : ¬ ((1 : Int32) = 0))) ht) ?_
    refine own_stepW (U' := (T43.setTop (mkF m 176 #[.val (.int p1), .val (.int (1 : Int32)), .val (.ref b19), .val (.ref b21), .val (.ref b25), .val (.ref b29), .val (.ref b21), .val (.int (1 : Int32))] [(.ref b29)]))) (fun t ht => XS.aload X43.here hx rfl (hb hby at_174) rfl rfl ht) ?_
    obtain ⟨cq44, kq44, q44a, q44b, q44c⟩ := isOf hZ e43 f40_12
    obtain ⟨_, _, ⟨T44, L44, k44, n44⟩, -, X44, ⟨Lc44, hQ44, l44, y44, z44⟩, st44⟩ := X43.virtualBackUp hx (x := (⟨"com/example/feuillet/feuillet/ProcessingInstruction", "getNextSibling", "()Lcom/example/feuillet/feuillet/Node;"⟩ : MethodName)) (y := (⟨"com/example/feuillet/feuillet/Node", "getNextSibling", "()Lcom/example/feuillet/feuillet/Node;"⟩ : MethodName)) hown (mvT hZ (hw _ (List.mem_of_getElem? (i := 51) rfl))) (mvT hZ (hw _ (List.mem_of_getElem? (i := 52) rfl))) (mvT hZ (hw _ (List.mem_of_getElem? (i := 53) rfl))) (by decide) (mvT hZ (hw _ (List.mem_of_getElem? (i := 55) rfl))) (mvT hZ (hw _ (List.mem_of_getElem? (i := 54) rfl))) (backOf (W := 0) (own_m_gns l Z a0 hw [] (b29) (.null) T40.heap n0 (Nat.le_trans Z0 K40.1) f40_11 rfl) hZ (hw _ (List.mem_of_getElem? (i := 56) rfl)) (hw _ (List.mem_of_getElem? (i := 14) rfl)) (by decide) (by decide)) q44a q44c (g := (mkF m 176 #[.val (.int p1), .val (.int (1 : Int32)), .val (.ref b19), .val (.ref b21), .val (.ref b25), .val (.ref b29), .val (.ref b21), .val (.int (1 : Int32))] [(.ref b29)])) rfl (by rw [hml]; rfl) (Steps.refl _) (argsL := []) (rest := []) (lenOf own_pd2 rfl) rfl (by show 2 * 0 + _ ≤ _; exact Nat.le_of_eq rfl) (hb hby at_176) (fun _ _ => ⟨rfl, e43, (by decide : 16 + 0 ≤ _), (by decide : 64 + 0 ≤ _)⟩)
    dsimp only [Pt.U, Pt.locs, Pt.cells, Pt.slots] at X44 l44 y44 z44 st44 hQ44
    subst l44 y44 z44
    obtain ⟨rfl, Nq44, Kq44⟩ := hQ44
    have N44 := Fr.app N43 Nq44
    have e44 : T44.heap = T40.heap := Kq44
    refine own_stepW (U' := (T44.setTop (mkF m 179 #[.val (.int p1), .val (.int (1 : Int32)), .val (.ref b19), .val (.ref b21), .val (.ref b25), .val (.ref b29), .val (.ref b21), .val (.int (1 : Int32))] [.null]))) (fun t ht => st44.trans ht) ?_
    refine own_stepW (U' := (T44.setTop (mkF m 182 #[.val (.int p1), .val (.int (1 : Int32)), .val (.ref b19), .val (.ref b21), .val (.ref b25), .val (.ref b29), .val (.ref b21), .val (.int (1 : Int32))] []))) (fun t ht => XT.nonnullNo X44.here hx rfl (hb hby at_179) rfl rfl ht) ?_
    refine own_stepW (U' := (T44.setTop (mkF m 183 #[.val (.int p1), .val (.int (1 : Int32)), .val (.ref b19), .val (.ref b21), .val (.ref b25), .val (.ref b29), .val (.ref b21), .val (.int (1 : Int32))] [(.int (1 : Int32))]))) (fun t ht => XS.iconst X44.here hx rfl (hb hby at_182) ht) ?_
    refine own_stepW (U' := (T44.setTop (mkF m 187 #[.val (.int p1), .val (.int (1 : Int32)), .val (.ref b19), .val (.ref b21), .val (.ref b25), .val (.ref b29), .val (.ref b21), .val (.int (1 : Int32))] [(.int (1 : Int32))]))) (fun t ht => XS.goto X44.here hx rfl (pc0 := 183) (pc' := 187) rfl (hb hby at_183) (by decide) (by decide) ht) ?_
    refine own_stepW (U' := (T44.setTop (mkF m 189 #[.val (.int p1), .val (.int (1 : Int32)), .val (.ref b19), .val (.ref b21), .val (.ref b25), .val (.ref b29), .val (.ref b21), .val (.int (1 : Int32))] []))) (fun t ht => XS.istore X44.here hx rfl (hb hby at_187) rfl (l' := #[.val (.int p1), .val (.int (1 : Int32)), .val (.ref b19), .val (.ref b21), .val (.ref b25), .val (.ref b29), .val (.ref b21), .val (.int (1 : Int32))]) rfl ht) ?_
    refine own_stepW (U' := (T44.setTop (mkF m 191 #[.val (.int p1), .val (.int (1 : Int32)), .val (.ref b19), .val (.ref b21), .val (.ref b25), .val (.ref b29), .val (.ref b21), .val (.int (1 : Int32))] [(.int (1 : Int32))]))) (fun t ht => XS.iload X44.here hx rfl (hb hby at_189) rfl ht) ?_
    refine own_stepW (U' := (T44.setTop (mkF m 194 #[.val (.int p1), .val (.int (1 : Int32)), .val (.ref b19), .val (.ref b21), .val (.ref b25), .val (.ref b29), .val (.ref b21), .val (.int (1 : Int32))] []))) (fun t ht => XS.ifNo X44.here hx rfl (hb hby at_191) rfl (XT.i0_eq_f ((by decide) : ¬ ((1 : Int32) = 0))) ht) ?_
    refine own_stepW (U' := (T44.setTop (mkF m 195 #[.val (.int p1), .val (.int (1 : Int32)), .val (.ref b19), .val (.ref b21), .val (.ref b25), .val (.ref b29), .val (.ref b21), .val (.int (1 : Int32))] [(.ref b21)]))) (fun t ht => XS.aloadN X44.here hx rfl (hb hby at_194) rfl rfl ht) ?_
    obtain ⟨cq45, kq45, q45a, q45b, q45c⟩ := isOf hZ e44 Fq40_2
    obtain ⟨_, _, ⟨T45, L45, k45, n45⟩, -, X45, ⟨Lc45, hQ45, l45, y45, z45⟩, st45⟩ := X44.virtualBackUp hx (x := (⟨"com/example/feuillet/feuillet/ProcessingInstruction", "getParentNode", "()Lcom/example/feuillet/feuillet/Node$Parent;"⟩ : MethodName)) (y := (⟨"com/example/feuillet/feuillet/Node", "getParentNode", "()Lcom/example/feuillet/feuillet/Node$Parent;"⟩ : MethodName)) hown (mvT hZ (hw _ (List.mem_of_getElem? (i := 59) rfl))) (mvT hZ (hw _ (List.mem_of_getElem? (i := 60) rfl))) (mvT hZ (hw _ (List.mem_of_getElem? (i := 61) rfl))) (by decide) (mvT hZ (hw _ (List.mem_of_getElem? (i := 63) rfl))) (mvT hZ (hw _ (List.mem_of_getElem? (i := 62) rfl))) (backOf (W := 0) (own_m_gpn l Z a0 hw [] (b21) ((.ref b19)) T40.heap n0 (Nat.le_trans Z0 K40.1) Fq40_0 rfl) hZ (hw _ (List.mem_of_getElem? (i := 64) rfl)) (hw _ (List.mem_of_getElem? (i := 14) rfl)) (by decide) (by decide)) q45a q45c (g := (mkF m 195 #[.val (.int p1), .val (.int (1 : Int32)), .val (.ref b19), .val (.ref b21), .val (.ref b25), .val (.ref b29), .val (.ref b21), .val (.int (1 : Int32))] [(.ref b21)])) rfl (by rw [hml]; rfl) (Steps.refl _) (argsL := []) (rest := []) (lenOf own_pd3 rfl) rfl (by show 2 * 0 + _ ≤ _; exact Nat.le_of_eq rfl) (hb hby at_195) (fun _ _ => ⟨rfl, e44, (by decide : 16 + 0 ≤ _), (by decide : 64 + 0 ≤ _)⟩)
    dsimp only [Pt.U, Pt.locs, Pt.cells, Pt.slots] at X45 l45 y45 z45 st45 hQ45
    subst l45 y45 z45
    obtain ⟨rfl, Nq45, Kq45⟩ := hQ45
    have N45 := Fr.app N44 Nq45
    have e45 : T45.heap = T40.heap := Kq45
    refine own_stepW (U' := (T45.setTop (mkF m 198 #[.val (.int p1), .val (.int (1 : Int32)), .val (.ref b19), .val (.ref b21), .val (.ref b25), .val (.ref b29), .val (.ref b21), .val (.int (1 : Int32))] [(.ref b19)]))) (fun t ht => st45.trans ht) ?_
    refine own_stepW (U' := (T45.setTop (mkF m 199 #[.val (.int p1), .val (.int (1 : Int32)), .val (.ref b19), .val (.ref b21), .val (.ref b25), .val (.ref b29), .val (.ref b21), .val (.int (1 : Int32))] [(.int (1 : Int32)), (.ref b19)]))) (fun t ht => XS.iloadN X45.here hx rfl (hb hby at_198) rfl ht) ?_
    refine own_stepW (U' := (T45.setTop (mkF m 202 #[.val (.int p1), .val (.int (1 : Int32)), .val (.ref b19), .val (.ref b21), .val (.ref b25), .val (.ref b29), .val (.ref b21), .val (.int (1 : Int32))] [(.ref b19)]))) (fun t ht => XS.ifNo X45.here hx rfl (hb hby at_199) rfl (XT.i0_le_f ((by decide) : 0 < (1 : Int32))) ht) ?_
    refine own_stepW (U' := (T45.setTop (mkF m 203 #[.val (.int p1), .val (.int (1 : Int32)), .val (.ref b19), .val (.ref b21), .val (.ref b25), .val (.ref b29), .val (.ref b21), .val (.int (1 : Int32))] [(.ref b19), (.ref b19)]))) (fun t ht => XS.aloadN X45.here hx rfl (hb hby at_202) rfl rfl ht) ?_
    refine own_stepW (U' := (T45.setTop (mkF m 207 #[.val (.int p1), .val (.int (1 : Int32)), .val (.ref b19), .val (.ref b21), .val (.ref b25), .val (.ref b29), .val (.ref b21), .val (.int (1 : Int32))] [(.ref b19), (.ref b19)]))) (fun t ht => XS.goto X45.here hx rfl (pc0 := 203) (pc' := 207) rfl (hb hby at_203) (by decide) (by decide) ht) ?_
    refine own_stepW (U' := (T45.setTop (mkF m 210 #[.val (.int p1), .val (.int (1 : Int32)), .val (.ref b19), .val (.ref b21), .val (.ref b25), .val (.ref b29), .val (.ref b21), .val (.int (1 : Int32))] []))) (fun t ht => Jvm.RoadKit.acmp (g := (mkF m 207 #[.val (.int p1), .val (.int (1 : Int32)), .val (.ref b19), .val (.ref b21), .val (.ref b25), .val (.ref b29), .val (.ref b21), .val (.int (1 : Int32))] [(.ref b19), (.ref b19)])) X45 hx rfl rfl rfl (pc0 := 207) (pc' := 210) (same := true) rfl (hb hby at_207) rfl (decide_eq_true (rfl : (.ref b19 : Value) = (.ref b19 : Value))) (by decide) (by decide) ht) ?_
    refine own_stepW (U' := (T45.setTop (mkF m 211 #[.val (.int p1), .val (.int (1 : Int32)), .val (.ref b19), .val (.ref b21), .val (.ref b25), .val (.ref b29), .val (.ref b21), .val (.int (1 : Int32))] [(.int (1 : Int32))]))) (fun t ht => XS.iconst X45.here hx rfl (hb hby at_210) ht) ?_
    refine own_stepW (U' := (T45.setTop (mkF m 215 #[.val (.int p1), .val (.int (1 : Int32)), .val (.ref b19), .val (.ref b21), .val (.ref b25), .val (.ref b29), .val (.ref b21), .val (.int (1 : Int32))] [(.int (1 : Int32))]))) (fun t ht => XS.goto X45.here hx rfl (pc0 := 211) (pc' := 215) rfl (hb hby at_211) (by decide) (by decide) ht) ?_
    refine own_stepW (U' := (T45.setTop (mkF m 217 #[.val (.int p1), .val (.int (1 : Int32)), .val (.ref b19), .val (.ref b21), .val (.ref b25), .val (.ref b29), .val (.ref b21), .val (.int (1 : Int32))] []))) (fun t ht => XS.istore X45.here hx rfl (hb hby at_215) rfl (l' := #[.val (.int p1), .val (.int (1 : Int32)), .val (.ref b19), .val (.ref b21), .val (.ref b25), .val (.ref b29), .val (.ref b21), .val (.int (1 : Int32))]) rfl ht) ?_
    refine own_stepW (U' := (T45.setTop (mkF m 219 #[.val (.int p1), .val (.int (1 : Int32)), .val (.ref b19), .val (.ref b21), .val (.ref b25), .val (.ref b29), .val (.ref b21), .val (.int (1 : Int32))] [(.int (1 : Int32))]))) (fun t ht => XS.iload X45.here hx rfl (hb hby at_217) rfl ht) ?_
    refine own_stepW (U' := (T45.setTop (mkF m 222 #[.val (.int p1), .val (.int (1 : Int32)), .val (.ref b19), .val (.ref b21), .val (.ref b25), .val (.ref b29), .val (.ref b21), .val (.int (1 : Int32))] []))) (fun t ht => XS.ifNo X45.here hx rfl (hb hby at_219) rfl (XT.i0_eq_f ((by decide) : ¬ ((1 : Int32) = 0))) ht) ?_
    refine own_stepW (U' := (T45.setTop (mkF m 224 #[.val (.int p1), .val (.int (1 : Int32)), .val (.ref b19), .val (.ref b21), .val (.ref b25), .val (.ref b29), .val (.ref b21), .val (.int (1 : Int32))] [(.ref b25)]))) (fun t ht => XS.aload X45.here hx rfl (hb hby at_222) rfl rfl ht) ?_
    obtain ⟨cq46, kq46, q46a, q46b, q46c⟩ := isOf hZ e45 f40_8
    obtain ⟨_, _, ⟨T46, L46, k46, n46⟩, -, X46, ⟨Lc46, hQ46, l46, y46, z46⟩, st46⟩ := X45.virtualBackUp hx (x := (⟨"com/example/feuillet/feuillet/ProcessingInstruction", "getParentNode", "()Lcom/example/feuillet/feuillet/Node$Parent;"⟩ : MethodName)) (y := (⟨"com/example/feuillet/feuillet/Node", "getParentNode", "()Lcom/example/feuillet/feuillet/Node$Parent;"⟩ : MethodName)) hown (mvT hZ (hw _ (List.mem_of_getElem? (i := 59) rfl))) (mvT hZ (hw _ (List.mem_of_getElem? (i := 60) rfl))) (mvT hZ (hw _ (List.mem_of_getElem? (i := 61) rfl))) (by decide) (mvT hZ (hw _ (List.mem_of_getElem? (i := 63) rfl))) (mvT hZ (hw _ (List.mem_of_getElem? (i := 62) rfl))) (backOf (W := 0) (own_m_gpn l Z a0 hw [] (b25) (.null) T40.heap n0 (Nat.le_trans Z0 K40.1) f40_6 rfl) hZ (hw _ (List.mem_of_getElem? (i := 64) rfl)) (hw _ (List.mem_of_getElem? (i := 14) rfl)) (by decide) (by decide)) q46a q46c (g := (mkF m 224 #[.val (.int p1), .val (.int (1 : Int32)), .val (.ref b19), .val (.ref b21), .val (.ref b25), .val (.ref b29), .val (.ref b21), .val (.int (1 : Int32))] [(.ref b25)])) rfl (by rw [hml]; rfl) (Steps.refl _) (argsL := []) (rest := []) (lenOf own_pd3 rfl) rfl (by show 2 * 0 + _ ≤ _; exact Nat.le_of_eq rfl) (hb hby at_224) (fun _ _ => ⟨rfl, e45, (by decide : 16 + 0 ≤ _), (by decide : 64 + 0 ≤ _)⟩)
    dsimp only [Pt.U, Pt.locs, Pt.cells, Pt.slots] at X46 l46 y46 z46 st46 hQ46
    subst l46 y46 z46
    obtain ⟨rfl, Nq46, Kq46⟩ := hQ46
    have N46 := Fr.app N45 Nq46
    have e46 : T46.heap = T40.heap := Kq46
    refine own_stepW (U' := (T46.setTop (mkF m 227 #[.val (.int p1), .val (.int (1 : Int32)), .val (.ref b19), .val (.ref b21), .val (.ref b25), .val (.ref b29), .val (.ref b21), .val (.int (1 : Int32))] [.null]))) (fun t ht => st46.trans ht) ?_
    refine own_stepW (U' := (T46.setTop (mkF m 228 #[.val (.int p1), .val (.int (1 : Int32)), .val (.ref b19), .val (.ref b21), .val (.ref b25), .val (.ref b29), .val (.ref b21), .val (.int (1 : Int32))] [(.int (1 : Int32)), .null]))) (fun t ht => XS.iloadN X46.here hx rfl (hb hby at_227) rfl ht) ?_
    refine own_stepW (U' := (T46.setTop (mkF m 229 #[.val (.int p1), .val (.int (1 : Int32)), .val (.ref b19), .val (.ref b21), .val (.ref b25), .val (.ref b29), .val (.ref b21), .val (.int (1 : Int32))] [(.int (1 : Int32)), (.int (1 : Int32)), .null]))) (fun t ht => XS.iconst X46.here hx rfl (hb hby at_228) ht) ?_
    refine own_stepW (U' := (T46.setTop (mkF m 236 #[.val (.int p1), .val (.int (1 : Int32)), .val (.ref b19), .val (.ref b21), .val (.ref b25), .val (.ref b29), .val (.ref b21), .val (.int (1 : Int32))] [.null]))) (fun t ht => XS.icmpYes X46.here hx rfl (pc0 := 229) (pc' := 236) rfl (hb hby at_229) rfl (XT.ii_le_t ((by decide) : ¬ ((1 : Int32) < (1 : Int32)))) (by decide) (by decide) ht) ?_
    refine own_stepW (U' := (T46.setTop (mkF m 237 #[.val (.int p1), .val (.int (1 : Int32)), .val (.ref b19), .val (.ref b21), .val (.ref b25), .val (.ref b29), .val (.ref b21), .val (.int (1 : Int32))] [.null, .null]))) (fun t ht => XS.aconstNull X46.here hx rfl (hb hby at_236) ht) ?_
    refine own_stepW (U' := (T46.setTop (mkF m 240 #[.val (.int p1), .val (.int (1 : Int32)), .val (.ref b19), .val (.ref b21), .val (.ref b25), .val (.ref b29), .val (.ref b21), .val (.int (1 : Int32))] []))) (fun t ht => Jvm.RoadKit.acmp (g := (mkF m 237 #[.val (.int p1), .val (.int (1 : Int32)), .val (.ref b19), .val (.ref b21), .val (.ref b25), .val (.ref b29), .val (.ref b21), .val (.int (1 : Int32))] [.null, .null])) X46 hx rfl rfl rfl (pc0 := 237) (pc' := 240) (same := true) rfl (hb hby at_237) rfl (decide_eq_true (rfl : (.null : Value) = (.null : Value))) (by decide) (by decide) ht) ?_
    refine own_stepW (U' := (T46.setTop (mkF m 241 #[.val (.int p1), .val (.int (1 : Int32)), .val (.ref b19), .val (.ref b21), .val (.ref b25), .val (.ref b29), .val (.ref b21), .val (.int (1 : Int32))] [(.int (1 : Int32))]))) (fun t ht => XS.iconst X46.here hx rfl (hb hby at_240) ht) ?_
    refine own_stepW (U' := (T46.setTop (mkF m 245 #[.val (.int p1), .val (.int (1 : Int32)), .val (.ref b19), .val (.ref b21), .val (.ref b25), .val (.ref b29), .val (.ref b21), .val (.int (1 : Int32))] [(.int (1 : Int32))]))) (fun t ht => XS.goto X46.here hx rfl (pc0 := 241) (pc' := 245) rfl (hb hby at_241) (by decide) (by decide) ht) ?_
    refine own_stepW (U' := (T46.setTop (mkF m 247 #[.val (.int p1), .val (.int (1 : Int32)), .val (.ref b19), .val (.ref b21), .val (.ref b25), .val (.ref b29), .val (.ref b21), .val (.int (1 : Int32))] []))) (fun t ht => XS.istore X46.here hx rfl (hb hby at_245) rfl (l' := #[.val (.int p1), .val (.int (1 : Int32)), .val (.ref b19), .val (.ref b21), .val (.ref b25), .val (.ref b29), .val (.ref b21), .val (.int (1 : Int32))]) rfl ht) ?_
    refine own_stepW (U' := (T46.setTop (mkF m 249 #[.val (.int p1), .val (.int (1 : Int32)), .val (.ref b19), .val (.ref b21), .val (.ref b25), .val (.ref b29), .val (.ref b21), .val (.int (1 : Int32))] [(.int (1 : Int32))]))) (fun t ht => XS.iload X46.here hx rfl (hb hby at_247) rfl ht) ?_
    refine own_stepW (U' := (T46.setTop (mkF m 252 #[.val (.int p1), .val (.int (1 : Int32)), .val (.ref b19), .val (.ref b21), .val (.ref b25), .val (.ref b29), .val (.ref b21), .val (.int (1 : Int32))] []))) (fun t ht => XS.ifNo X46.here hx rfl (hb hby at_249) rfl (XT.i0_eq_f ((by decide) : ¬ ((1 : Int32) = 0))) ht) ?_
    refine own_stepW (U' := (T46.setTop (mkF m 254 #[.val (.int p1), .val (.int (1 : Int32)), .val (.ref b19), .val (.ref b21), .val (.ref b25), .val (.ref b29), .val (.ref b21), .val (.int (1 : Int32))] [(.ref b29)]))) (fun t ht => XS.aload X46.here hx rfl (hb hby at_252) rfl rfl ht) ?_
    obtain ⟨cq47, kq47, q47a, q47b, q47c⟩ := isOf hZ e46 f40_12
    obtain ⟨_, _, ⟨T47, L47, k47, n47⟩, -, X47, ⟨Lc47, hQ47, l47, y47, z47⟩, st47⟩ := X46.virtualBackUp hx (x := (⟨"com/example/feuillet/feuillet/ProcessingInstruction", "getParentNode", "()Lcom/example/feuillet/feuillet/Node$Parent;"⟩ : MethodName)) (y := (⟨"com/example/feuillet/feuillet/Node", "getParentNode", "()Lcom/example/feuillet/feuillet/Node$Parent;"⟩ : MethodName)) hown (mvT hZ (hw _ (List.mem_of_getElem? (i := 59) rfl))) (mvT hZ (hw _ (List.mem_of_getElem? (i := 60) rfl))) (mvT hZ (hw _ (List.mem_of_getElem? (i := 61) rfl))) (by decide) (mvT hZ (hw _ (List.mem_of_getElem? (i := 63) rfl))) (mvT hZ (hw _ (List.mem_of_getElem? (i := 62) rfl))) (backOf (W := 0) (own_m_gpn l Z a0 hw [] (b29) (.null) T40.heap n0 (Nat.le_trans Z0 K40.1) f40_10 rfl) hZ (hw _ (List.mem_of_getElem? (i := 64) rfl)) (hw _ (List.mem_of_getElem? (i := 14) rfl)) (by decide) (by decide)) q47a q47c (g := (mkF m 254 #[.val (.int p1), .val (.int (1 : Int32)), .val (.ref b19), .val (.ref b21), .val (.ref b25), .val (.ref b29), .val (.ref b21), .val (.int (1 : Int32))] [(.ref b29)])) rfl (by rw [hml]; rfl) (Steps.refl _) (argsL := []) (rest := []) (lenOf own_pd3 rfl) rfl (by show 2 * 0 + _ ≤ _; exact Nat.le_of_eq rfl) (hb hby at_254) (fun _ _ => ⟨rfl, e46, (by decide : 16 + 0 ≤ _), (by decide : 64 + 0 ≤ _)⟩)
    dsimp only [Pt.U, Pt.locs, Pt.cells, Pt.slots] at X47 l47 y47 z47 st47 hQ47
    subst l47 y47 z47
    obtain ⟨rfl, Nq47, Kq47⟩ := hQ47
    have N47 := Fr.app N46 Nq47
    have e47 : T47.heap = T40.heap := Kq47
    refine own_stepW (U' := (T47.setTop (mkF m 257 #[.val (.int p1), .val (.int (1 : Int32)), .val (.ref b19), .val (.ref b21), .val (.ref b25), .val (.ref b29), .val (.ref b21), .val (.int (1 : Int32))] [.null]))) (fun t ht => st47.trans ht) ?_
    refine own_stepW (U' := (T47.setTop (mkF m 258 #[.val (.int p1), .val (.int (1 : Int32)), .val (.ref b19), .val (.ref b21), .val (.ref b25), .val (.ref b29), .val (.ref b21), .val (.int (1 : Int32))] [(.int (1 : Int32)), .null]))) (fun t ht => XS.iloadN X47.here hx rfl (hb hby at_257) rfl ht) ?_
    refine own_stepW (U' := (T47.setTop (mkF m 259 #[.val (.int p1), .val (.int (1 : Int32)), .val (.ref b19), .val (.ref b21), .val (.ref b25), .val (.ref b29), .val (.ref b21), .val (.int (1 : Int32))] [(.int (2 : Int32)), (.int (1 : Int32)), .null]))) (fun t ht => XS.iconst X47.here hx rfl (hb hby at_258) ht) ?_
    refine own_stepW (U' := (T47.setTop (mkF m 266 #[.val (.int p1), .val (.int (1 : Int32)), .val (.ref b19), .val (.ref b21), .val (.ref b25), .val (.ref b29), .val (.ref b21), .val (.int (1 : Int32))] [.null]))) (fun t ht => XS.icmpYes X47.here hx rfl (pc0 := 259) (pc' := 266) rfl (hb hby at_259) rfl (XT.ii_le_t ((by decide) : ¬ ((2 : Int32) < (1 : Int32)))) (by decide) (by decide) ht) ?_
    refine own_stepW (U' := (T47.setTop (mkF m 267 #[.val (.int p1), .val (.int (1 : Int32)), .val (.ref b19), .val (.ref b21), .val (.ref b25), .val (.ref b29), .val (.ref b21), .val (.int (1 : Int32))] [.null, .null]))) (fun t ht => XS.aconstNull X47.here hx rfl (hb hby at_266) ht) ?_
    refine own_stepW (U' := (T47.setTop (mkF m 270 #[.val (.int p1), .val (.int (1 : Int32)), .val (.ref b19), .val (.ref b21), .val (.ref b25), .val (.ref b29), .val (.ref b21), .val (.int (1 : Int32))] []))) (fun t ht => Jvm.RoadKit.acmp (g := (mkF m 267 #[.val (.int p1), .val (.int (1 : Int32)), .val (.ref b19), .val (.ref b21), .val (.ref b25), .val (.ref b29), .val (.ref b21), .val (.int (1 : Int32))] [.null, .null])) X47 hx rfl rfl rfl (pc0 := 267) (pc' := 270) (same := true) rfl (hb hby at_267) rfl (decide_eq_true (rfl : (.null : Value) = (.null : Value))) (by decide) (by decide) ht) ?_
    refine own_stepW (U' := (T47.setTop (mkF m 271 #[.val (.int p1), .val (.int (1 : Int32)), .val (.ref b19), .val (.ref b21), .val (.ref b25), .val (.ref b29), .val (.ref b21), .val (.int (1 : Int32))] [(.int (1 : Int32))]))) (fun t ht => XS.iconst X47.here hx rfl (hb hby at_270) ht) ?_
    refine own_stepW (U' := (T47.setTop (mkF m 275 #[.val (.int p1), .val (.int (1 : Int32)), .val (.ref b19), .val (.ref b21), .val (.ref b25), .val (.ref b29), .val (.ref b21), .val (.int (1 : Int32))] [(.int (1 : Int32))]))) (fun t ht => XS.goto X47.here hx rfl (pc0 := 271) (pc' := 275) rfl (hb hby at_271) (by decide) (by decide) ht) ?_
    refine own_stepW (U' := (T47.setTop (mkF m 277 #[.val (.int p1), .val (.int (1 : Int32)), .val (.ref b19), .val (.ref b21), .val (.ref b25), .val (.ref b29), .val (.ref b21), .val (.int (1 : Int32))] []))) (fun t ht => XS.istore X47.here hx rfl (hb hby at_275) rfl (l' := #[.val (.int p1), .val (.int (1 : Int32)), .val (.ref b19), .val (.ref b21), .val (.ref b25), .val (.ref b29), .val (.ref b21), .val (.int (1 : Int32))]) rfl ht) ?_
    refine own_stepW (U' := (T47.setTop (mkF m 279 #[.val (.int p1), .val (.int (1 : Int32)), .val (.ref b19), .val (.ref b21), .val (.ref b25), .val (.ref b29), .val (.ref b21), .val (.int (1 : Int32))] [(.int (1 : Int32))]))) (fun t ht => XS.iload X47.here hx rfl (hb hby at_277) rfl ht) ?_
    refine own_retW X47 hS31 (by rw [e47]; exact f40_9) (v := (some (.int (nar .boolean (1 : Int32))))) (fun h => by rw [Bd.returns] at h; cases h) Bd.notSynchronized (by decide) (by decide) ?_ (fun fs hr => retN X47 hx (t := .boolean) Bd.returns (by simp) (hb hby at_279) hr)
    show own_Q_law Z p1 h0 n0 _ T47.heap _
    rw [e47]
    exact ⟨rfl, N47⟩
  ·
    refine own_stepW (U' := (T32.setTop (mkF m 51 #[.val (.int p1), .val (.int (2 : Int32)), .val (.ref b19), .val (.ref b21), .val (.ref b25), .val (.ref b29), .unset, .unset] [(.int (2 : Int32))]))) (fun t ht => XS.iloadN X32.here hx rfl (hb hby at_50) rfl ht) ?_
    refine own_stepW (U' := (T32.setTop (mkF m 54 #[.val (.int p1), .val (.int (2 : Int32)), .val (.ref b19), .val (.ref b21), .val (.ref b25), .val (.ref b29), .unset, .unset] []))) (fun t ht => XS.ifNo X32.here hx rfl (hb hby at_51) rfl (XT.i0_le_f ((by decide) : 0 < (2 : Int32))) ht) ?_
    refine own_stepW (U' := (T32.setTop (mkF m 55 #[.val (.int p1), .val (.int (2 : Int32)), .val (.ref b19), .val (.ref b21), .val (.ref b25), .val (.ref b29), .unset, .unset] [(.ref b19)]))) (fun t ht => XS.aloadN X32.here hx rfl (hb hby at_54) rfl rfl ht) ?_
    refine own_stepW (U' := (T32.setTop (mkF m 56 #[.val (.int p1), .val (.int (2 : Int32)), .val (.ref b19), .val (.ref b21), .val (.ref b25), .val (.ref b29), .unset, .unset] [(.ref b21), (.ref b19)]))) (fun t ht => XS.aloadN X32.here hx rfl (hb hby at_55) rfl rfl ht) ?_
    obtain ⟨cq48, kq48, q48a, q48b, q48c⟩ := isOf hZ rfl f32_0
    obtain ⟨_, _, ⟨T48, L48, k48, n48⟩, -, X48, ⟨Lc48, hQ48, l48, y48, z48⟩, st48⟩ := X32.virtualBackUp hx (x := (⟨"com/example/feuillet/feuillet/Document", "append", "(Lcom/example/feuillet/feuillet/Node;)V"⟩ : MethodName)) (y := (⟨"com/example/feuillet/feuillet/Node$Parent", "append", "(Lcom/example/feuillet/feuillet/Node;)V"⟩ : MethodName)) hown (mvT hZ (hw _ (List.mem_of_getElem? (i := 67) rfl))) (mvT hZ (hw _ (List.mem_of_getElem? (i := 68) rfl))) (mvT hZ (hw _ (List.mem_of_getElem? (i := 69) rfl))) (by decide) (mvT hZ (hw _ (List.mem_of_getElem? (i := 71) rfl))) (mvT hZ (hw _ (List.mem_of_getElem? (i := 70) rfl))) (backOf (W := 0) (own_m_apA l Z a0 hw [] (b19) (b21) (.null) (.null) (.null) T32.heap n0 (Nat.le_trans Z0 K32.1) g_b19 g_b21 f32_3 f32_4 f32_5 f32_1 f32_2 f32_0) hZ (hw _ (List.mem_of_getElem? (i := 72) rfl)) (hw _ (List.mem_of_getElem? (i := 9) rfl)) (by decide) (by decide)) q48a q48c (g := (mkF m 56 #[.val (.int p1), .val (.int (2 : Int32)), .val (.ref b19), .val (.ref b21), .val (.ref b25), .val (.ref b29), .unset, .unset] [(.ref b21), (.ref b19)])) rfl (by rw [hml]; rfl) (Steps.refl _) (argsL := [(.ref b21)]) (rest := []) (lenOf own_pd4 rfl) rfl (by show 2 * 0 + _ ≤ _; exact Nat.le_of_eq rfl) (hb hby at_56) (fun _ _ => ⟨rfl, rfl, (by decide : 16 + 0 ≤ _), (by decide : 64 + 0 ≤ _)⟩)
    dsimp only [Pt.U, Pt.locs, Pt.cells, Pt.slots] at X48 l48 y48 z48 st48 hQ48
    subst l48 y48 z48
    obtain ⟨rfl, Nq48, Kq48, Fq48_0, Fq48_1, Fq48_2, Fq48_3, Fq48_4, Fq48_5⟩ := hQ48
    have N48 := Fr.app N32 Nq48
    have f48_0 : Exa Z T48.heap b19 "com/example/feuillet/feuillet/Document" := f32_0.keep Kq48
    have f48_5 : Exa Z T48.heap b21 "com/example/feuillet/feuillet/ProcessingInstruction" := f32_5.keep Kq48
    have f48_6 : Fld Z T48.heap b25 "com/example/feuillet/feuillet/Node" "parent" "Lcom/example/feuillet/feuillet/Node$Parent;" .null := f32_6.keep Kq48 (ninS (Ne.symm ne_b21_b25) (ninS (Ne.symm ne_b19_b25) nin0))
    have f48_7 : Fld Z T48.heap b25 "com/example/feuillet/feuillet/Node" "nextSibling" "Lcom/example/feuillet/feuillet/Node;" .null := f32_7.keep Kq48 (ninS (Ne.symm ne_b21_b25) (ninS (Ne.symm ne_b19_b25) nin0))
    have f48_8 : Exa Z T48.heap b25 "com/example/feuillet/feuillet/ProcessingInstruction" := f32_8.keep Kq48
    have f48_9 : k31 ≤ (T48.heap).size := Nat.le_trans f32_14 Kq48.1
    have f48_10 : Fld Z T48.heap b29 "com/example/feuillet/feuillet/Node" "parent" "Lcom/example/feuillet/feuillet/Node$Parent;" .null := Fq32_0.keep Kq48 (ninS (Ne.symm ne_b21_b29) (ninS (Ne.symm ne_b19_b29) nin0))
    have f48_11 : Fld Z T48.heap b29 "com/example/feuillet/feuillet/Node" "nextSibling" "Lcom/example/feuillet/feuillet/Node;" .null := Fq32_1.keep Kq48 (ninS (Ne.symm ne_b21_b29) (ninS (Ne.symm ne_b19_b29) nin0))
    have f48_12 : Exa Z T48.heap b29 "com/example/feuillet/feuillet/ProcessingInstruction" := Fq32_2.keep Kq48
    have K48 : Keep h0 T48.heap [] := K32.trans Kq48 (allS (Or.inr sz_b21) (allS (Or.inr sz_b19) all0))
    refine own_stepW (U' := (T48.setTop (mkF m 59 #[.val (.int p1), .val (.int (2 : Int32)), .val (.ref b19), .val (.ref b21), .val (.ref b25), .val (.ref b29), .unset, .unset] []))) (fun t ht => st48.trans ht) ?_
    refine own_stepW (U' := (T48.setTop (mkF m 60 #[.val (.int p1), .val (.int (2 : Int32)), .val (.ref b19), .val (.ref b21), .val (.ref b25), .val (.ref b29), .unset, .unset] [(.int (2 : Int32))]))) (fun t ht => XS.iloadN X48.here hx rfl (hb hby at_59) rfl ht) ?_
    refine own_stepW (U' := (T48.setTop (mkF m 61 #[.val (.int p1), .val (.int (2 : Int32)), .val (.ref b19), .val (.ref b21), .val (.ref b25), .val (.ref b29), .unset, .unset] [(.int (1 : Int32)), (.int (2 : Int32))]))) (fun t ht => XS.iconst X48.here hx rfl (hb hby at_60) ht) ?_
    refine own_stepW (U' := (T48.setTop (mkF m 64 #[.val (.int p1), .val (.int (2 : Int32)), .val (.ref b19), .val (.ref b21), .val (.ref b25), .val (.ref b29), .unset, .unset] []))) (fun t ht => XS.icmpNo X48.here hx rfl (hb hby at_61) rfl (XT.ii_le_f ((by decide) : (1 : Int32) < (2 : Int32))) ht) ?_
    refine own_stepW (U' := (T48.setTop (mkF m 65 #[.val (.int p1), .val (.int (2 : Int32)), .val (.ref b19), .val (.ref b21), .val (.ref b25), .val (.ref b29), .unset, .unset] [(.ref b19)]))) (fun t ht => XS.aloadN X48.here hx rfl (hb hby at_64) rfl rfl ht) ?_
    refine own_stepW (U' := (T48.setTop (mkF m 67 #[.val (.int p1), .val (.int (2 : Int32)), .val (.ref b19), .val (.ref b21), .val (.ref b25), .val (.ref b29), .unset, .unset] [(.ref b25), (.ref b19)]))) (fun t ht => XS.aload X48.here hx rfl (hb hby at_65) rfl rfl ht) ?_
    obtain ⟨cq49, kq49, q49a, q49b, q49c⟩ := isOf hZ rfl Fq48_5
    obtain ⟨_, _, ⟨T49, L49, k49, n49⟩, -, X49, ⟨Lc49, hQ49, l49, y49, z49⟩, st49⟩ := X48.virtualBackUp hx (x := (⟨"com/example/feuillet/feuillet/Document", "append", "(Lcom/example/feuillet/feuillet/Node;)V"⟩ : MethodName)) (y := (⟨"com/example/feuillet/feuillet/Node$Parent", "append", "(Lcom/example/feuillet/feuillet/Node;)V"⟩ : MethodName)) hown (mvT hZ (hw _ (List.mem_of_getElem? (i := 67) rfl))) (mvT hZ (hw _ (List.mem_of_getElem? (i := 68) rfl))) (mvT hZ (hw _ (List.mem_of_getElem? (i := 69) rfl))) (by decide) (mvT hZ (hw _ (List.mem_of_getElem? (i := 71) rfl))) (mvT hZ (hw _ (List.mem_of_getElem? (i := 70) rfl))) (backOf (W := 0) (own_m_apB l Z a0 hw [] (b19) (b25) (b21) (.null) ((.ref b21)) (.null) (.null) ((.ref b19)) T48.heap n0 (Nat.le_trans Z0 K48.1) g_b19 g_b25 g_b21 (Ne.symm ne_b21_b25) f48_6 f48_7 f48_8 Fq48_3 Fq48_4 Fq48_5 Fq48_0 Fq48_1 Fq48_2) hZ (hw _ (List.mem_of_getElem? (i := 72) rfl)) (hw _ (List.mem_of_getElem? (i := 9) rfl)) (by decide) (by decide)) q49a q49c (g := (mkF m 67 #[.val (.int p1), .val (.int (2 : Int32)), .val (.ref b19), .val (.ref b21), .val (.ref b25), .val (.ref b29), .unset, .unset] [(.ref b25), (.ref b19)])) rfl (by rw [hml]; rfl) (Steps.refl _) (argsL := [(.ref b25)]) (rest := []) (lenOf own_pd4 rfl) rfl (by show 2 * 0 + _ ≤ _; exact Nat.le_of_eq rfl) (hb hby at_67) (fun _ _ => ⟨rfl, rfl, (by decide : 16 + 0 ≤ _), (by decide : 64 + 0 ≤ _)⟩)
    dsimp only [Pt.U, Pt.locs, Pt.cells, Pt.slots] at X49 l49 y49 z49 st49 hQ49
    subst l49 y49 z49
    obtain ⟨rfl, Nq49, Kq49, Fq49_0, Fq49_1, Fq49_2, Fq49_3, Fq49_4, Fq49_5, Fq49_6, Fq49_7, Fq49_8⟩ := hQ49
    have N49 := Fr.app N48 Nq49
    have f49_2 : Exa Z T49.heap b25 "com/example/feuillet/feuillet/ProcessingInstruction" := f48_8.keep Kq49
    have f49_3 : k31 ≤ (T49.heap).size := Nat.le_trans f48_9 Kq49.1
    have f49_4 : Fld Z T49.heap b29 "com/example/feuillet/feuillet/Node" "parent" "Lcom/example/feuillet/feuillet/Node$Parent;" .null := f48_10.keep Kq49 (ninS (Ne.symm ne_b25_b29) (ninS (Ne.symm ne_b21_b29) (ninS (Ne.symm ne_b19_b29) nin0)))
    have f49_5 : Fld Z T49.heap b29 "com/example/feuillet/feuillet/Node" "nextSibling" "Lcom/example/feuillet/feuillet/Node;" .null := f48_11.keep Kq49 (ninS (Ne.symm ne_b25_b29) (ninS (Ne.symm ne_b21_b29) (ninS (Ne.symm ne_b19_b29) nin0)))
    have f49_6 : Exa Z T49.heap b29 "com/example/feuillet/feuillet/ProcessingInstruction" := f48_12.keep Kq49
    have f49_9 : Exa Z T49.heap b21 "com/example/feuillet/feuillet/ProcessingInstruction" := Fq48_2.keep Kq49
    have f49_12 : Exa Z T49.heap b19 "com/example/feuillet/feuillet/Document" := Fq48_5.keep Kq49
    have K49 : Keep h0 T49.heap [] := K48.trans Kq49 (allS (Or.inr sz_b25) (allS (Or.inr sz_b21) (allS (Or.inr sz_b19) all0)))
    refine own_stepW (U' := (T49.setTop (mkF m 70 #[.val (.int p1), .val (.int (2 : Int32)), .val (.ref b19), .val (.ref b21), .val (.ref b25), .val (.ref b29), .unset, .unset] []))) (fun t ht => st49.trans ht) ?_
    refine own_stepW (U' := (T49.setTop (mkF m 71 #[.val (.int p1), .val (.int (2 : Int32)), .val (.ref b19), .val (.ref b21), .val (.ref b25), .val (.ref b29), .unset, .unset] [(.int (2 : Int32))]))) (fun t ht => XS.iloadN X49.here hx rfl (hb hby at_70) rfl ht) ?_
    refine own_stepW (U' := (T49.setTop (mkF m 72 #[.val (.int p1), .val (.int (2 : Int32)), .val (.ref b19), .val (.ref b21), .val (.ref b25), .val (.ref b29), .unset, .unset] [(.int (2 : Int32)), (.int (2 : Int32))]))) (fun t ht => XS.iconst X49.here hx rfl (hb hby at_71) ht) ?_
    refine own_stepW (U' := (T49.setTop (mkF m 81 #[.val (.int p1), .val (.int (2 : Int32)), .val (.ref b19), .val (.ref b21), .val (.ref b25), .val (.ref b29), .unset, .unset] []))) (fun t ht => XS.icmpYes X49.here hx rfl (pc0 := 72) (pc' := 81) rfl (hb hby at_72) rfl (XT.ii_le_t ((by decide) : ¬ ((2 : Int32) < (2 : Int32)))) (by decide) (by decide) ht) ?_
    refine own_stepW (U' := (T49.setTop (mkF m 82 #[.val (.int p1), .val (.int (2 : Int32)), .val (.ref b19), .val (.ref b21), .val (.ref b25), .val (.ref b29), .unset, .unset] [(.ref b19)]))) (fun t ht => XS.aloadN X49.here hx rfl (hb hby at_81) rfl rfl ht) ?_
    obtain ⟨cq50, kq50, q50a, q50b, q50c⟩ := isOf hZ rfl Fq49_8
    obtain ⟨_, _, ⟨T50, L50, k50, n50⟩, -, X50, ⟨Lc50, hQ50, l50, y50, z50⟩, st50⟩ := X49.virtualBackUp hx (x := (⟨"com/example/feuillet/feuillet/Document", "getFirstChild", "()Lcom/example/feuillet/feuillet/Node;"⟩ : MethodName)) (y := (⟨"com/example/feuillet/feuillet/Node$Parent", "getFirstChild", "()Lcom/example/feuillet/feuillet/Node;"⟩ : MethodName)) hown (mvT hZ (hw _ (List.mem_of_getElem? (i := 43) rfl))) (mvT hZ (hw _ (List.mem_of_getElem? (i := 44) rfl))) (mvT hZ (hw _ (List.mem_of_getElem? (i := 45) rfl))) (by decide) (mvT hZ (hw _ (List.mem_of_getElem? (i := 47) rfl))) (mvT hZ (hw _ (List.mem_of_getElem? (i := 46) rfl))) (backOf (W := 0) (own_m_gfc l Z a0 hw [] (b19) ((.ref b21)) T49.heap n0 (Nat.le_trans Z0 K49.1) Fq49_6 rfl) hZ (hw _ (List.mem_of_getElem? (i := 48) rfl)) (hw _ (List.mem_of_getElem? (i := 9) rfl)) (by decide) (by decide)) q50a q50c (g := (mkF m 82 #[.val (.int p1), .val (.int (2 : Int32)), .val (.ref b19), .val (.ref b21), .val (.ref b25), .val (.ref b29), .unset, .unset] [(.ref b19)])) rfl (by rw [hml]; rfl) (Steps.refl _) (argsL := []) (rest := []) (lenOf own_pd2 rfl) rfl (by show 2 * 0 + _ ≤ _; exact Nat.le_of_eq rfl) (hb hby at_82) (fun _ _ => ⟨rfl, rfl, (by decide : 16 + 0 ≤ _), (by decide : 64 + 0 ≤ _)⟩)
    dsimp only [Pt.U, Pt.locs, Pt.cells, Pt.slots] at X50 l50 y50 z50 st50 hQ50
    subst l50 y50 z50
    obtain ⟨rfl, Nq50, Kq50⟩ := hQ50
    have N50 := Fr.app N49 Nq50
    have e50 : T50.heap = T49.heap := Kq50
    refine own_stepW (U' := (T50.setTop (mkF m 85 #[.val (.int p1), .val (.int (2 : Int32)), .val (.ref b19), .val (.ref b21), .val (.ref b25), .val (.ref b29), .unset, .unset] [(.ref b21)]))) (fun t ht => st50.trans ht) ?_
    refine own_stepW (U' := (T50.setTop (mkF m 87 #[.val (.int p1), .val (.int (2 : Int32)), .val (.ref b19), .val (.ref b21), .val (.ref b25), .val (.ref b29), .val (.ref b21), .unset] []))) (fun t ht => XS.astore X50.here hx rfl (hb hby at_85) rfl rfl (l' := #[.val (.int p1), .val (.int (2 : Int32)), .val (.ref b19), .val (.ref b21), .val (.ref b25), .val (.ref b29), .val (.ref b21), .unset]) rfl ht) ?_
    refine own_stepW (U' := (T50.setTop (mkF m 89 #[.val (.int p1), .val (.int (2 : Int32)), .val (.ref b19), .val (.ref b21), .val (.ref b25), .val (.ref b29), .val (.ref b21), .unset] [(.ref b21)]))) (fun t ht => XS.aload X50.here hx rfl (hb hby at_87) rfl rfl ht) ?_
    refine own_stepW (U' := (T50.setTop (mkF m 90 #[.val (.int p1), .val (.int (2 : Int32)), .val (.ref b19), .val (.ref b21), .val (.ref b25), .val (.ref b29), .val (.ref b21), .unset] [(.int (2 : Int32)), (.ref b21)]))) (fun t ht => XS.iloadN X50.here hx rfl (hb hby at_89) rfl ht) ?_
    refine own_stepW (U' := (T50.setTop (mkF m 93 #[.val (.int p1), .val (.int (2 : Int32)), .val (.ref b19), .val (.ref b21), .val (.ref b25), .val (.ref b29), .val (.ref b21), .unset] [(.ref b21)]))) (fun t ht => XS.ifNo X50.here hx rfl (hb hby at_90) rfl (XT.i0_le_f ((by decide) : 0 < (2 : Int32))) ht) ?_
    refine own_stepW (U' := (T50.setTop (mkF m 94 #[.val (.int p1), .val (.int (2 : Int32)), .val (.ref b19), .val (.ref b21), .val (.ref b25), .val (.ref b29), .val (.ref b21), .unset] [(.ref b21), (.ref b21)]))) (fun t ht => XS.aloadN X50.here hx rfl (hb hby at_93) rfl rfl ht) ?_
    refine own_stepW (U' := (T50.setTop (mkF m 98 #[.val (.int p1), .val (.int (2 : Int32)), .val (.ref b19), .val (.ref b21), .val (.ref b25), .val (.ref b29), .val (.ref b21), .unset] [(.ref b21), (.ref b21)]))) (fun t ht => XS.goto X50.here hx rfl (pc0 := 94) (pc' := 98) rfl (hb hby at_94) (by decide) (by decide) ht) ?_
    refine own_stepW (U' := (T50.setTop (mkF m 101 #[.val (.int p1), .val (.int (2 : Int32)), .val (.ref b19), .val (.ref b21), .val (.ref b25), .val (.ref b29), .val (.ref b21), .unset] []))) (fun t ht => Jvm.RoadKit.acmp (g := (mkF m 98 #[.val (.int p1), .val (.int (2 : Int32)), .val (.ref b19), .val (.ref b21), .val (.ref b25), .val (.ref b29), .val (.ref b21), .unset] [(.ref b21), (.ref b21)])) X50 hx rfl rfl rfl (pc0 := 98) (pc' := 101) (same := true) rfl (hb hby at_98) rfl (decide_eq_true (rfl : (.ref b21 : Value) = (.ref b21 : Value))) (by decide) (by decide) ht) ?_
    refine own_stepW (U' := (T50.setTop (mkF m 102 #[.val (.int p1), .val (.int (2 : Int32)), .val (.ref b19), .val (.ref b21), .val (.ref b25), .val (.ref b29), .val (.ref b21), .unset] [(.int (1 : Int32))]))) (fun t ht => XS.iconst X50.here hx rfl (hb hby at_101) ht) ?_
    refine own_stepW (U' := (T50.setTop (mkF m 106 #[.val (.int p1), .val (.int (2 : Int32)), .val (.ref b19), .val (.ref b21), .val (.ref b25), .val (.ref b29), .val (.ref b21), .unset] [(.int (1 : Int32))]))) (fun t ht => XS.goto X50.here hx rfl (pc0 := 102) (pc' := 106) rfl (hb hby at_102) (by decide) (by decide) ht) ?_
    refine own_stepW (U' := (T50.setTop (mkF m 108 #[.val (.int p1), .val (.int (2 : Int32)), .val (.ref b19), .val (.ref b21), .val (.ref b25), .val (.ref b29), .val (.ref b21), .val (.int (1 : Int32))] []))) (fun t ht => XS.istore X50.here hx rfl (hb hby at_106) rfl (l' := #[.val (.int p1), .val (.int (2 : Int32)), .val (.ref b19), .val (.ref b21), .val (.ref b25), .val (.ref b29), .val (.ref b21), .val (.int (1 : Int32))]) rfl ht) ?_
    refine own_stepW (U' := (T50.setTop (mkF m 110 #[.val (.int p1), .val (.int (2 : Int32)), .val (.ref b19), .val (.ref b21), .val (.ref b25), .val (.ref b29), .val (.ref b21), .val (.int (1 : Int32))] [(.int (1 : Int32))]))) (fun t ht => XS.iload X50.here hx rfl (hb hby at_108) rfl ht) ?_
    refine own_stepW (U' := (T50.setTop (mkF m 113 #[.val (.int p1), .val (.int (2 : Int32)), .val (.ref b19), .val (.ref b21), .val (.ref b25), .val (.ref b29), .val (.ref b21), .val (.int (1 : Int32))] []))) (fun t ht => XS.ifNo X50.here hx rfl (hb hby at_110) rfl (XT.i0_eq_f ((by decide) : ¬ ((1 : Int32) = 0))) ht) ?_
    refine own_stepW (U' := (T50.setTop (mkF m 114 #[.val (.int p1), .val (.int (2 : Int32)), .val (.ref b19), .val (.ref b21), .val (.ref b25), .val (.ref b29), .val (.ref b21), .val (.int (1 : Int32))] [(.ref b21)]))) (fun t ht => XS.aloadN X50.here hx rfl (hb hby at_113) rfl rfl ht) ?_
    obtain ⟨cq51, kq51, q51a, q51b, q51c⟩ := isOf hZ e50 Fq49_5
    obtain ⟨_, _, ⟨T51, L51, k51, n51⟩, -, X51, ⟨Lc51, hQ51, l51, y51, z51⟩, st51⟩ := X50.virtualBackUp hx (x := (⟨"com/example/feuillet/feuillet/ProcessingInstruction", "getNextSibling", "()Lcom/example/feuillet/feuillet/Node;"⟩ : MethodName)) (y := (⟨"com/example/feuillet/feuillet/Node", "getNextSibling", "()Lcom/example/feuillet/feuillet/Node;"⟩ : MethodName)) hown (mvT hZ (hw _ (List.mem_of_getElem? (i := 51) rfl))) (mvT hZ (hw _ (List.mem_of_getElem? (i := 52) rfl))) (mvT hZ (hw _ (List.mem_of_getElem? (i := 53) rfl))) (by decide) (mvT hZ (hw _ (List.mem_of_getElem? (i := 55) rfl))) (mvT hZ (hw _ (List.mem_of_getElem? (i := 54) rfl))) (backOf (W := 0) (own_m_gns l Z a0 hw [] (b21) ((.ref b25)) T49.heap n0 (Nat.le_trans Z0 K49.1) Fq49_4 rfl) hZ (hw _ (List.mem_of_getElem? (i := 56) rfl)) (hw _ (List.mem_of_getElem? (i := 14) rfl)) (by decide) (by decide)) q51a q51c (g := (mkF m 114 #[.val (.int p1), .val (.int (2 : Int32)), .val (.ref b19), .val (.ref b21), .val (.ref b25), .val (.ref b29), .val (.ref b21), .val (.int (1 : Int32))] [(.ref b21)])) rfl (by rw [hml]; rfl) (Steps.refl _) (argsL := []) (rest := []) (lenOf own_pd2 rfl) rfl (by show 2 * 0 + _ ≤ _; exact Nat.le_of_eq rfl) (hb hby at_114) (fun _ _ => ⟨rfl, e50, (by decide : 16 + 0 ≤ _), (by decide : 64 + 0 ≤ _)⟩)
    dsimp only [Pt.U, Pt.locs, Pt.cells, Pt.slots] at X51 l51 y51 z51 st51 hQ51
    subst l51 y51 z51
    obtain ⟨rfl, Nq51, Kq51⟩ := hQ51
    have N51 := Fr.app N50 Nq51
    have e51 : T51.heap = T49.heap := Kq51
    refine own_stepW (U' := (T51.setTop (mkF m 117 #[.val (.int p1), .val (.int (2 : Int32)), .val (.ref b19), .val (.ref b21), .val (.ref b25), .val (.ref b29), .val (.ref b21), .val (.int (1 : Int32))] [(.ref b25)]))) (fun t ht => st51.trans ht) ?_
    refine own_stepW (U' := (T51.setTop (mkF m 118 #[.val (.int p1), .val (.int (2 : Int32)), .val (.ref b19), .val (.ref b21), .val (.ref b25), .val (.ref b29), .val (.ref b21), .val (.int (1 : Int32))] [(.int (2 : Int32)), (.ref b25)]))) (fun t ht => XS.iloadN X51.here hx rfl (hb hby at_117) rfl ht) ?_
    refine own_stepW (U' := (T51.setTop (mkF m 119 #[.val (.int p1), .val (.int (2 : Int32)), .val (.ref b19), .val (.ref b21), .val (.ref b25), .val (.ref b29), .val (.ref b21), .val (.int (1 : Int32))] [(.int (1 : Int32)), (.int (2 : Int32)), (.ref b25)]))) (fun t ht => XS.iconst X51.here hx rfl (hb hby at_118) ht) ?_
    refine own_stepW (U' := (T51.setTop (mkF m 122 #[.val (.int p1), .val (.int (2 : Int32)), .val (.ref b19), .val (.ref b21), .val (.ref b25), .val (.ref b29), .val (.ref b21), .val (.int (1 : Int32))] [(.ref b25)]))) (fun t ht => XS.icmpNo X51.here hx rfl (hb hby at_119) rfl (XT.ii_le_f ((by decide) : (1 : Int32) < (2 : Int32))) ht) ?_
    refine own_stepW (U' := (T51.setTop (mkF m 124 #[.val (.int p1), .val (.int (2 : Int32)), .val (.ref b19), .val (.ref b21), .val (.ref b25), .val (.ref b29), .val (.ref b21), .val (.int (1 : Int32))] [(.ref b25), (.ref b25)]))) (fun t ht => XS.aload X51.here hx rfl (hb hby at_122) rfl rfl ht) ?_
    refine own_stepW (U' := (T51.setTop (mkF m 128 #[.val (.int p1), .val (.int (2 : Int32)), .val (.ref b19), .val (.ref b21), .val (.ref b25), .val (.ref b29), .val (.ref b21), .val (.int (1 : Int32))] [(.ref b25), (.ref b25)]))) (fun t ht => XS.goto X51.here hx rfl (pc0 := 124) (pc' := 128) rfl (hb hby at_124) (by decide) (by decide) ht) ?_
    refine own_stepW (U' := (T51.setTop (mkF m 131 #[.val (.int p1), .val (.int (2 : Int32)), .val (.ref b19), .val (.ref b21), .val (.ref b25), .val (.ref b29), .val (.ref b21), .val (.int (1 : Int32))] []))) (fun t ht => Jvm.RoadKit.acmp (g := (mkF m 128 #[.val (.int p1), .val (.int (2 : Int32)), .val (.ref b19), .val (.ref b21), .val (.ref b25), .val (.ref b29), .val (.ref b21), .val (.int (1 : Int32))] [(.ref b25), (.ref b25)])) X51 hx rfl rfl rfl (pc0 := 128) (pc' := 131) (same := true) rfl (hb hby at_128) rfl (decide_eq_true (rfl : (.ref b25 : Value) = (.ref b25 : Value))) (by decide) (by decide) ht) ?_
    refine own_stepW (U' := (T51.setTop (mkF m 132 #[.val (.int p1), .val (.int (2 : Int32)), .val (.ref b19), .val (.ref b21), .val (.ref b25), .val (.ref b29), .val (.ref b21), .val (.int (1 : Int32))] [(.int (1 : Int32))]))) (fun t ht => XS.iconst X51.here hx rfl (hb hby at_131) ht) ?_
    refine own_stepW (U' := (T51.setTop (mkF m 136 #[.val (.int p1), .val (.int (2 : Int32)), .val (.ref b19), .val (.ref b21), .val (.ref b25), .val (.ref b29), .val (.ref b21), .val (.int (1 : Int32))] [(.int (1 : Int32))]))) (fun t ht => XS.goto X51.here hx rfl (pc0 := 132) (pc' := 136) rfl (hb hby at_132) (by decide) (by decide) ht) ?_
    refine own_stepW (U' := (T51.setTop (mkF m 138 #[.val (.int p1), .val (.int (2 : Int32)), .val (.ref b19), .val (.ref b21), .val (.ref b25), .val (.ref b29), .val (.ref b21), .val (.int (1 : Int32))] []))) (fun t ht => XS.istore X51.here hx rfl (hb hby at_136) rfl (l' := #[.val (.int p1), .val (.int (2 : Int32)), .val (.ref b19), .val (.ref b21), .val (.ref b25), .val (.ref b29), .val (.ref b21), .val (.int (1 : Int32))]) rfl ht) ?_
    refine own_stepW (U' := (T51.setTop (mkF m 140 #[.val (.int p1), .val (.int (2 : Int32)), .val (.ref b19), .val (.ref b21), .val (.ref b25), .val (.ref b29), .val (.ref b21), .val (.int (1 : Int32))] [(.int (1 : Int32))]))) (fun t ht => XS.iload X51.here hx rfl (hb hby at_138) rfl ht) ?_
    refine own_stepW (U' := (T51.setTop (mkF m 143 #[.val (.int p1), .val (.int (2 : Int32)), .val (.ref b19), .val (.ref b21), .val (.ref b25), .val (.ref b29), .val (.ref b21), .val (.int (1 : Int32))] []))) (fun t ht => XS.ifNo X51.here hx rfl (hb hby at_140) rfl (XT.i0_eq_f ((by decide) : ¬ ((1 : Int32) = 0))) ht) ?_
    refine own_stepW (U' := (T51.setTop (mkF m 145 #[.val (.int p1), .val (.int (2 : Int32)), .val (.ref b19), .val (.ref b21), .val (.ref b25), .val (.ref b29), .val (.ref b21), .val (.int (1 : Int32))] [(.ref b25)]))) (fun t ht => XS.aload X51.here hx rfl (hb hby at_143) rfl rfl ht) ?_
    obtain ⟨cq52, kq52, q52a, q52b, q52c⟩ := isOf hZ e51 Fq49_2
    obtain ⟨_, _, ⟨T52, L52, k52, n52⟩, -, X52, ⟨Lc52, hQ52, l52, y52, z52⟩, st52⟩ := X51.virtualBackUp hx (x := (⟨"com/example/feuillet/feuillet/ProcessingInstruction", "getNextSibling", "()Lcom/example/feuillet/feuillet/Node;"⟩ : MethodName)) (y := (⟨"com/example/feuillet/feuillet/Node", "getNextSibling", "()Lcom/example/feuillet/feuillet/Node;"⟩ : MethodName)) hown (mvT hZ (hw _ (List.mem_of_getElem? (i := 51) rfl))) (mvT hZ (hw _ (List.mem_of_getElem? (i := 52) rfl))) (mvT hZ (hw _ (List.mem_of_getElem? (i := 53) rfl))) (by decide) (mvT hZ (hw _ (List.mem_of_getElem? (i := 55) rfl))) (mvT hZ (hw _ (List.mem_of_getElem? (i := 54) rfl))) (backOf (W := 0) (own_m_gns l Z a0 hw [] (b25) (.null) T49.heap n0 (Nat.le_trans Z0 K49.1) Fq49_1 rfl) hZ (hw _ (List.mem_of_getElem? (i := 56) rfl)) (hw _ (List.mem_of_getElem? (i := 14) rfl)) (by decide) (by decide)) q52a q52c (g := (mkF m 145 #[.val (.int p1), .val (.int (2 : Int32)), .val (.ref b19), .val (.ref b21), .val (.ref b25), .val (.ref b29), .val (.ref b21), .val (.int (1 : Int32))] [(.ref b25)])) rfl (by rw [hml]; rfl) (Steps.refl _) (argsL := []) (rest := []) (lenOf own_pd2 rfl) rfl (by show 2 * 0 + _ ≤ _; exact Nat.le_of_eq rfl) (hb hby at_145) (fun _ _ => ⟨rfl, e51, (by decide : 16 + 0 ≤ _), (by decide : 64 + 0 ≤ _)⟩)
    dsimp only [Pt.U, Pt.locs, Pt.cells, Pt.slots] at X52 l52 y52 z52 st52 hQ52
    subst l52 y52 z52
    obtain ⟨rfl, Nq52, Kq52⟩ := hQ52
    have N52 := Fr.app N51 Nq52
    have e52 : T52.heap = T49.heap := Kq52
    refine own_stepW (U' := (T52.setTop (mkF m 148 #[.val (.int p1), .val (.int (2 : Int32)), .val (.ref b19), .val (.ref b21), .val (.ref b25), .val (.ref b29), .val (.ref b21), .val (.int (1 : Int32))] [.null]))) (fun t ht => st52.trans ht) ?_
    refine own_stepW (U' := (T52.setTop (mkF m 149 #[.val (.int p1), .val (.int (2 : Int32)), .val (.ref b19), .val (.ref b21), .val (.ref b25), .val (.ref b29), .val (.ref b21), .val (.int (1 : Int32))] [(.int (2 : Int32)), .null]))) (fun t ht => XS.iloadN X52.here hx rfl (hb hby at_148) rfl ht) ?_
    refine own_stepW (U' := (T52.setTop (mkF m 150 #[.val (.int p1), .val (.int (2 : Int32)), .val (.ref b19), .val (.ref b21), .val (.ref b25), .val (.ref b29), .val (.ref b21), .val (.int (1 : Int32))] [(.int (2 : Int32)), (.int (2 : Int32)), .null]))) (fun t ht => XS.iconst X52.here hx rfl (hb hby at_149) ht) ?_
    refine own_stepW (U' := (T52.setTop (mkF m 158 #[.val (.int p1), .val (.int (2 : Int32)), .val (.ref b19), .val (.ref b21), .val (.ref b25), .val (.ref b29), .val (.ref b21), .val (.int (1 : Int32))] [.null]))) (fun t ht => XS.icmpYes X52.here hx rfl (pc0 := 150) (pc' := 158) rfl (hb hby at_150) rfl (XT.ii_le_t ((by decide) : ¬ ((2 : Int32) < (2 : Int32)))) (by decide) (by decide) ht) ?_
    refine own_stepW (U' := (T52.setTop (mkF m 159 #[.val (.int p1), .val (.int (2 : Int32)), .val (.ref b19), .val (.ref b21), .val (.ref b25), .val (.ref b29), .val (.ref b21), .val (.int (1 : Int32))] [.null, .null]))) (fun t ht => XS.aconstNull X52.here hx rfl (hb hby at_158) ht) ?_
    refine own_stepW (U' := (T52.setTop (mkF m 162 #[.val (.int p1), .val (.int (2 : Int32)), .val (.ref b19), .val (.ref b21), .val (.ref b25), .val (.ref b29), .val (.ref b21), .val (.int (1 : Int32))] []))) (fun t ht => Jvm.RoadKit.acmp (g := (mkF m 159 #[.val (.int p1), .val (.int (2 : Int32)), .val (.ref b19), .val (.ref b21), .val (.ref b25), .val (.ref b29), .val (.ref b21), .val (.int (1 : Int32))] [.null, .null])) X52 hx rfl rfl rfl (pc0 := 159) (pc' := 162) (same := true) rfl (hb hby at_159) rfl (decide_eq_true (rfl : (.null : Value) = (.null : Value))) (by decide) (by decide) ht) ?_
    refine own_stepW (U' := (T52.setTop (mkF m 163 #[.val (.int p1), .val (.int (2 : Int32)), .val (.ref b19), .val (.ref b21), .val (.ref b25), .val (.ref b29), .val (.ref b21), .val (.int (1 : Int32))] [(.int (1 : Int32))]))) (fun t ht => XS.iconst X52.here hx rfl (hb hby at_162) ht) ?_
    refine own_stepW (U' := (T52.setTop (mkF m 167 #[.val (.int p1), .val (.int (2 : Int32)), .val (.ref b19), .val (.ref b21), .val (.ref b25), .val (.ref b29), .val (.ref b21), .val (.int (1 : Int32))] [(.int (1 : Int32))]))) (fun t ht => XS.goto X52.here hx rfl (pc0 := 163) (pc' := 167) rfl (hb hby at_163) (by decide) (by decide) ht) ?_
    refine own_stepW (U' := (T52.setTop (mkF m 169 #[.val (.int p1), .val (.int (2 : Int32)), .val (.ref b19), .val (.ref b21), .val (.ref b25), .val (.ref b29), .val (.ref b21), .val (.int (1 : Int32))] []))) (fun t ht => XS.istore X52.here hx rfl (hb hby at_167) rfl (l' := #[.val (.int p1), .val (.int (2 : Int32)), .val (.ref b19), .val (.ref b21), .val (.ref b25), .val (.ref b29), .val (.ref b21), .val (.int (1 : Int32))]) rfl ht) ?_
    refine own_stepW (U' := (T52.setTop (mkF m 171 #[.val (.int p1), .val (.int (2 : Int32)), .val (.ref b19), .val (.ref b21), .val (.ref b25), .val (.ref b29), .val (.ref b21), .val (.int (1 : Int32))] [(.int (1 : Int32))]))) (fun t ht => XS.iload X52.here hx rfl (hb hby at_169) rfl ht) ?_
    refine own_stepW (U' := (T52.setTop (mkF m 174 #[.val (.int p1), .val (.int (2 : Int32)), .val (.ref b19), .val (.ref b21), .val (.ref b25), .val (.ref b29), .val (.ref b21), .val (.int (1 : Int32))] []))) (fun t ht => XS.ifNo X52.here hx rfl (hb hby at_171) rfl (XT.i0_eq_f ((by decide) : ¬ ((1 : Int32) = 0))) ht) ?_
    refine own_stepW (U' := (T52.setTop (mkF m 176 #[.val (.int p1), .val (.int (2 : Int32)), .val (.ref b19), .val (.ref b21), .val (.ref b25), .val (.ref b29), .val (.ref b21), .val (.int (1 : Int32))] [(.ref b29)]))) (fun t ht => XS.aload X52.here hx rfl (hb hby at_174) rfl rfl ht) ?_
    obtain ⟨cq53, kq53, q53a, q53b, q53c⟩ := isOf hZ e52 f49_6
    obtain ⟨_, _, ⟨T53, L53, k53, n53⟩, -, X53, ⟨Lc53, hQ53, l53, y53, z53⟩, st53⟩ := X52.virtualBackUp hx (x := (⟨"com/example/feuillet/feuillet/ProcessingInstruction", "getNextSibling", "()Lcom/example/feuillet/feuillet/Node;"⟩ : MethodName)) (y := (⟨"com/example/feuillet/feuillet/Node", "getNextSibling", "()Lcom/example/feuillet/feuillet/Node;"⟩ : MethodName)) hown (mvT hZ (hw _ (List.mem_of_getElem? (i := 51) rfl))) (mvT hZ (hw _ (List.mem_of_getElem? (i := 52) rfl))) (mvT hZ (hw _ (List.mem_of_getElem? (i := 53) rfl))) (by decide) (mvT hZ (hw _ (List.mem_of_getElem? (i := 55) rfl))) (mvT hZ (hw _ (List.mem_of_getElem? (i := 54) rfl))) (backOf (W := 0) (own_m_gns l Z a0 hw [] (b29) (.null) T49.heap n0 (Nat.le_trans Z0 K49.1) f49_5 rfl) hZ (hw _ (List.mem_of_getElem? (i := 56) rfl)) (hw _ (List.mem_of_getElem? (i := 14) rfl)) (by decide) (by decide)) q53a q53c (g := (mkF m 176 #[.val (.int p1), .val (.int (2 : Int32)), .val (.ref b19), .val (.ref b21), .val (.ref b25), .val (.ref b29), .val (.ref b21), .val (.int (1 : Int32))] [(.ref b29)])) rfl (by rw [hml]; rfl) (Steps.refl _) (argsL := []) (rest := []) (lenOf own_pd2 rfl) rfl (by show 2 * 0 + _ ≤ _; exact Nat.le_of_eq rfl) (hb hby at_176) (fun _ _ => ⟨rfl, e52, (by decide : 16 + 0 ≤ _), (by decide : 64 + 0 ≤ _)⟩)
    dsimp only [Pt.U, Pt.locs, Pt.cells, Pt.slots] at X53 l53 y53 z53 st53 hQ53
    subst l53 y53 z53
    obtain ⟨rfl, Nq53, Kq53⟩ := hQ53
    have N53 := Fr.app N52 Nq53
    have e53 : T53.heap = T49.heap := Kq53
    refine own_stepW (U' := (T53.setTop (mkF m 179 #[.val (.int p1), .val (.int (2 : Int32)), .val (.ref b19), .val (.ref b21), .val (.ref b25), .val (.ref b29), .val (.ref b21), .val (.int (1 : Int32))] [.null]))) (fun t ht => st53.trans ht) ?_
    refine own_stepW (U' := (T53.setTop (mkF m 182 #[.val (.int p1), .val (.int (2 : Int32)), .val (.ref b19), .val (.ref b21), .val (.ref b25), .val (.ref b29), .val (.ref b21), .val (.int (1 : Int32))] []))) (fun t ht => XT.nonnullNo X53.here hx rfl (hb hby at_179) rfl rfl ht) ?_
    refine own_stepW (U' := (T53.setTop (mkF m 183 #[.val (.int p1), .val (.int (2 : Int32)), .val (.ref b19), .val (.ref b21), .val (.ref b25), .val (.ref b29), .val (.ref b21), .val (.int (1 : Int32))] [(.int (1 : Int32))]))) (fun t ht => XS.iconst X53.here hx rfl (hb hby at_182) ht) ?_
    refine own_stepW (U' := (T53.setTop (mkF m 187 #[.val (.int p1), .val (.int (2 : Int32)), .val (.ref b19), .val (.ref b21), .val (.ref b25), .val (.ref b29), .val (.ref b21), .val (.int (1 : Int32))] [(.int (1 : Int32))]))) (fun t ht => XS.goto X53.here hx rfl (pc0 := 183) (pc' := 187) rfl (hb hby at_183) (by decide) (by decide) ht) ?_
    refine own_stepW (U' := (T53.setTop (mkF m 189 #[.val (.int p1), .val (.int (2 : Int32)), .val (.ref b19), .val (.ref b21), .val (.ref b25), .val (.ref b29), .val (.ref b21), .val (.int (1 : Int32))] []))) (fun t ht => XS.istore X53.here hx rfl (hb hby at_187) rfl (l' := #[.val (.int p1), .val (.int (2 : Int32)), .val (.ref b19), .val (.ref b21), .val (.ref b25), .val (.ref b29), .val (.ref b21), .val (.int (1 : Int32))]) rfl ht) ?_
    refine own_stepW (U' := (T53.setTop (mkF m 191 #[.val (.int p1), .val (.int (2 : Int32)), .val (.ref b19), .val (.ref b21), .val (.ref b25), .val (.ref b29), .val (.ref b21), .val (.int (1 : Int32))] [(.int (1 : Int32))]))) (fun t ht => XS.iload X53.here hx rfl (hb hby at_189) rfl ht) ?_
    refine own_stepW (U' := (T53.setTop (mkF m 194 #[.val (.int p1), .val (.int (2 : Int32)), .val (.ref b19), .val (.ref b21), .val (.ref b25), .val (.ref b29), .val (.ref b21), .val (.int (1 : Int32))] []))) (fun t ht => XS.ifNo X53.here hx rfl (hb hby at_191) rfl (XT.i0_eq_f ((by decide) : ¬ ((1 : Int32) = 0))) ht) ?_
    refine own_stepW (U' := (T53.setTop (mkF m 195 #[.val (.int p1), .val (.int (2 : Int32)), .val (.ref b19), .val (.ref b21), .val (.ref b25), .val (.ref b29), .val (.ref b21), .val (.int (1 : Int32))] [(.ref b21)]))) (fun t ht => XS.aloadN X53.here hx rfl (hb hby at_194) rfl rfl ht) ?_
    obtain ⟨cq54, kq54, q54a, q54b, q54c⟩ := isOf hZ e53 Fq49_5
    obtain ⟨_, _, ⟨T54, L54, k54, n54⟩, -, X54, ⟨Lc54, hQ54, l54, y54, z54⟩, st54⟩ := X53.virtualBackUp hx (x := (⟨"com/example/feuillet/feuillet/ProcessingInstruction", "getParentNode", "()Lcom/example/feuillet/feuillet/Node$Parent;"⟩ : MethodName)) (y := (⟨"com/example/feuillet/feuillet/Node", "getParentNode", "()Lcom/example/feuillet/feuillet/Node$Parent;"⟩ : MethodName)) hown (mvT hZ (hw _ (List.mem_of_getElem? (i := 59) rfl))) (mvT hZ (hw _ (List.mem_of_getElem? (i := 60) rfl))) (mvT hZ (hw _ (List.mem_of_getElem? (i := 61) rfl))) (by decide) (mvT hZ (hw _ (List.mem_of_getElem? (i := 63) rfl))) (mvT hZ (hw _ (List.mem_of_getElem? (i := 62) rfl))) (backOf (W := 0) (own_m_gpn l Z a0 hw [] (b21) ((.ref b19)) T49.heap n0 (Nat.le_trans Z0 K49.1) Fq49_3 rfl) hZ (hw _ (List.mem_of_getElem? (i := 64) rfl)) (hw _ (List.mem_of_getElem? (i := 14) rfl)) (by decide) (by decide)) q54a q54c (g := (mkF m 195 #[.val (.int p1), .val (.int (2 : Int32)), .val (.ref b19), .val (.ref b21), .val (.ref b25), .val (.ref b29), .val (.ref b21), .val (.int (1 : Int32))] [(.ref b21)])) rfl (by rw [hml]; rfl) (Steps.refl _) (argsL := []) (rest := []) (lenOf own_pd3 rfl) rfl (by show 2 * 0 + _ ≤ _; exact Nat.le_of_eq rfl) (hb hby at_195) (fun _ _ => ⟨rfl, e53, (by decide : 16 + 0 ≤ _), (by decide : 64 + 0 ≤ _)⟩)
    dsimp only [Pt.U, Pt.locs, Pt.cells, Pt.slots] at X54 l54 y54 z54 st54 hQ54
    subst l54 y54 z54
    obtain ⟨rfl, Nq54, Kq54⟩ := hQ54
    have N54 := Fr.app N53 Nq54
    have e54 : T54.heap = T49.heap := Kq54
    refine own_stepW (U' := (T54.setTop (mkF m 198 #[.val (.int p1), .val (.int (2 : Int32)), .val (.ref b19), .val (.ref b21), .val (.ref b25), .val (.ref b29), .val (.ref b21), .val (.int (1 : Int32))] [(.ref b19)]))) (fun t ht => st54.trans ht) ?_
    refine own_stepW (U' := (T54.setTop (mkF m 199 #[.val (.int p1), .val (.int (2 : Int32)), .val (.ref b19), .val (.ref b21), .val (.ref b25), .val (.ref b29), .val (.ref b21), .val (.int (1 : Int32))] [(.int (2 : Int32)), (.ref b19)]))) (fun t ht => XS.iloadN X54.here hx rfl (hb hby at_198) rfl ht) ?_
    refine own_stepW (U' := (T54.setTop (mkF m 202 #[.val (.int p1), .val (.int (2 : Int32)), .val (.ref b19), .val (.ref b21), .val (.ref b25), .val (.ref b29), .val (.ref b21), .val (.int (1 : Int32))] [(.ref b19)]))) (fun t ht => XS.ifNo X54.here hx rfl (hb hby at_199) rfl (XT.i0_le_f ((by decide) : 0 < (2 : Int32))) ht) ?_
    refine own_stepW (U' := (T54.setTop (mkF m 203 #[.val (.int p1), .val (.int (2 : Int32)), .val (.ref b19), .val (.ref b21), .val (.ref b25), .val (.ref b29), .val (.ref b21), .val (.int (1 : Int32))] [(.ref b19), (.ref b19)]))) (fun t ht => XS.aloadN X54.here hx rfl (hb hby at_202) rfl rfl ht) ?_
    refine own_stepW (U' := (T54.setTop (mkF m 207 #[.val (.int p1), .val (.int (2 : Int32)), .val (.ref b19), .val (.ref b21), .val (.ref b25), .val (.ref b29), .val (.ref b21), .val (.int (1 : Int32))] [(.ref b19), (.ref b19)]))) (fun t ht => XS.goto X54.here hx rfl (pc0 := 203) (pc' := 207) rfl (hb hby at_203) (by decide) (by decide) ht) ?_
    refine own_stepW (U' := (T54.setTop (mkF m 210 #[.val (.int p1), .val (.int (2 : Int32)), .val (.ref b19), .val (.ref b21), .val (.ref b25), .val (.ref b29), .val (.ref b21), .val (.int (1 : Int32))] []))) (fun t ht => Jvm.RoadKit.acmp (g := (mkF m 207 #[.val (.int p1), .val (.int (2 : Int32)), .val (.ref b19), .val (.ref b21), .val (.ref b25), .val (.ref b29), .val (.ref b21), .val (.int (1 : Int32))] [(.ref b19), (.ref b19)])) X54 hx rfl rfl rfl (pc0 := 207) (pc' := 210) (same := true) rfl (hb hby at_207) rfl (decide_eq_true (rfl : (.ref b19 : Value) = (.ref b19 : Value))) (by decide) (by decide) ht) ?_
    refine own_stepW (U' := (T54.setTop (mkF m 211 #[.val (.int p1), .val (.int (2 : Int32)), .val (.ref b19), .val (.ref b21), .val (.ref b25), .val (.ref b29), .val (.ref b21), .val (.int (1 : Int32))] [(.int (1 : Int32))]))) (fun t ht => XS.iconst X54.here hx rfl (hb hby at_210) ht) ?_
    refine own_stepW (U' := (T54.setTop (mkF m 215 #[.val (.int p1), .val (.int (2 : Int32)), .val (.ref b19), .val (.ref b21), .val (.ref b25), .val (.ref b29), .val (.ref b21), .val (.int (1 : Int32))] [(.int (1 : Int32))]))) (fun t ht => XS.goto X54.here hx rfl (pc0 := 211) (pc' := 215) rfl (hb hby at_211) (by decide) (by decide) ht) ?_
    refine own_stepW (U' := (T54.setTop (mkF m 217 #[.val (.int p1), .val (.int (2 : Int32)), .val (.ref b19), .val (.ref b21), .val (.ref b25), .val (.ref b29), .val (.ref b21), .val (.int (1 : Int32))] []))) (fun t ht => XS.istore X54.here hx rfl (hb hby at_215) rfl (l' := #[.val (.int p1), .val (.int (2 : Int32)), .val (.ref b19), .val (.ref b21), .val (.ref b25), .val (.ref b29), .val (.ref b21), .val (.int (1 : Int32))]) rfl ht) ?_
    refine own_stepW (U' := (T54.setTop (mkF m 219 #[.val (.int p1), .val (.int (2 : Int32)), .val (.ref b19), .val (.ref b21), .val (.ref b25), .val (.ref b29), .val (.ref b21), .val (.int (1 : Int32))] [(.int (1 : Int32))]))) (fun t ht => XS.iload X54.here hx rfl (hb hby at_217) rfl ht) ?_
    refine own_stepW (U' := (T54.setTop (mkF m 222 #[.val (.int p1), .val (.int (2 : Int32)), .val (.ref b19), .val (.ref b21), .val (.ref b25), .val (.ref b29), .val (.ref b21), .val (.int (1 : Int32))] []))) (fun t ht => XS.ifNo X54.here hx rfl (hb hby at_219) rfl (XT.i0_eq_f ((by decide) : ¬ ((1 : Int32) = 0))) ht) ?_
    refine own_stepW (U' := (T54.setTop (mkF m 224 #[.val (.int p1), .val (.int (2 : Int32)), .val (.ref b19), .val (.ref b21), .val (.ref b25), .val (.ref b29), .val (.ref b21), .val (.int (1 : Int32))] [(.ref b25)]))) (fun t ht => XS.aload X54.here hx rfl (hb hby at_222) rfl rfl ht) ?_
    obtain ⟨cq55, kq55, q55a, q55b, q55c⟩ := isOf hZ e54 Fq49_2
    obtain ⟨_, _, ⟨T55, L55, k55, n55⟩, -, X55, ⟨Lc55, hQ55, l55, y55, z55⟩, st55⟩ := X54.virtualBackUp hx (x := (⟨"com/example/feuillet/feuillet/ProcessingInstruction", "getParentNode", "()Lcom/example/feuillet/feuillet/Node$Parent;"⟩ : MethodName)) (y := (⟨"com/example/feuillet/feuillet/Node", "getParentNode", "()Lcom/example/feuillet/feuillet/Node$Parent;"⟩ : MethodName)) hown (mvT hZ (hw _ (List.mem_of_getElem? (i := 59) rfl))) (mvT hZ (hw _ (List.mem_of_getElem? (i := 60) rfl))) (mvT hZ (hw _ (List.mem_of_getElem? (i := 61) rfl))) (by decide) (mvT hZ (hw _ (List.mem_of_getElem? (i := 63) rfl))) (mvT hZ (hw _ (List.mem_of_getElem? (i := 62) rfl))) (backOf (W := 0) (own_m_gpn l Z a0 hw [] (b25) ((.ref b19)) T49.heap n0 (Nat.le_trans Z0 K49.1) Fq49_0 rfl) hZ (hw _ (List.mem_of_getElem? (i := 64) rfl)) (hw _ (List.mem_of_getElem? (i := 14) rfl)) (by decide) (by decide)) q55a q55c (g := (mkF m 224 #[.val (.int p1), .val (.int (2 : Int32)), .val (.ref b19), .val (.ref b21), .val (.ref b25), .val (.ref b29), .val (.ref b21), .val (.int (1 : Int32))] [(.ref b25)])) rfl (by rw [hml]; rfl) (Steps.refl _) (argsL := []) (rest := []) (lenOf own_pd3 rfl) rfl (by show 2 * 0 + _ ≤ _; exact Nat.le_of_eq rfl) (hb hby at_224) (fun _ _ => ⟨rfl, e54, (by decide : 16 + 0 ≤ _), (by decide : 64 + 0 ≤ _)⟩)
    dsimp only [Pt.U, Pt.locs, Pt.cells, Pt.slots] at X55 l55 y55 z55 st55 hQ55
    subst l55 y55 z55
    obtain ⟨rfl, Nq55, Kq55⟩ := hQ55
    have N55 := Fr.app N54 Nq55
    have e55 : T55.heap = T49.heap := Kq55
    refine own_stepW (U' := (T55.setTop (mkF m 227 #[.val (.int p1), .val (.int (2 : Int32)), .val (.ref b19), .val (.ref b21), .val (.ref b25), .val (.ref b29), .val (.ref b21), .val (.int (1 : Int32))] [(.ref b19)]))) (fun t ht => st55.trans ht) ?_
    refine own_stepW (U' := (T55.setTop (mkF m 228 #[.val (.int p1), .val (.int (2 : Int32)), .val (.ref b19), .val (.ref b21), .val (.ref b25), .val (.ref b29), .val (.ref b21), .val (.int (1 : Int32))] [(.int (2 : Int32)), (.ref b19)]))) (fun t ht => XS.iloadN X55.here hx rfl (hb hby at_227) rfl ht) ?_
    refine own_stepW (U' := (T55.setTop (mkF m 229 #[.val (.int p1), .val (.int (2 : Int32)), .val (.ref b19), .val (.ref b21), .val (.ref b25), .val (.ref b29), .val (.ref b21), .val (.int (1 : Int32))] [(.int (1 : Int32)), (.int (2 : Int32)), (.ref b19)]))) (fun t ht => XS.iconst X55.here hx rfl (hb hby at_228) ht) ?_
    refine own_stepW (U' := (T55.setTop (mkF m 232 #[.val (.int p1), .val (.int (2 : Int32)), .val (.ref b19), .val (.ref b21), .val (.ref b25), .val (.ref b29), .val (.ref b21), .val (.int (1 : Int32))] [(.ref b19)]))) (fun t ht => XS.icmpNo X55.here hx rfl (hb hby at_229) rfl (XT.ii_le_f ((by decide) : (1 : Int32) < (2 : Int32))) ht) ?_
    refine own_stepW (U' := (T55.setTop (mkF m 233 #[.val (.int p1), .val (.int (2 : Int32)), .val (.ref b19), .val (.ref b21), .val (.ref b25), .val (.ref b29), .val (.ref b21), .val (.int (1 : Int32))] [(.ref b19), (.ref b19)]))) (fun t ht => XS.aloadN X55.here hx rfl (hb hby at_232) rfl rfl ht) ?_
    refine own_stepW (U' := (T55.setTop (mkF m 237 #[.val (.int p1), .val (.int (2 : Int32)), .val (.ref b19), .val (.ref b21), .val (.ref b25), .val (.ref b29), .val (.ref b21), .val (.int (1 : Int32))] [(.ref b19), (.ref b19)]))) (fun t ht => XS.goto X55.here hx rfl (pc0 := 233) (pc' := 237) rfl (hb hby at_233) (by decide) (by decide) ht) ?_
    refine own_stepW (U' := (T55.setTop (mkF m 240 #[.val (.int p1), .val (.int (2 : Int32)), .val (.ref b19), .val (.ref b21), .val (.ref b25), .val (.ref b29), .val (.ref b21), .val (.int (1 : Int32))] []))) (fun t ht => Jvm.RoadKit.acmp (g := (mkF m 237 #[.val (.int p1), .val (.int (2 : Int32)), .val (.ref b19), .val (.ref b21), .val (.ref b25), .val (.ref b29), .val (.ref b21), .val (.int (1 : Int32))] [(.ref b19), (.ref b19)])) X55 hx rfl rfl rfl (pc0 := 237) (pc' := 240) (same := true) rfl (hb hby at_237) rfl (decide_eq_true (rfl : (.ref b19 : Value) = (.ref b19 : Value))) (by decide) (by decide) ht) ?_
    refine own_stepW (U' := (T55.setTop (mkF m 241 #[.val (.int p1), .val (.int (2 : Int32)), .val (.ref b19), .val (.ref b21), .val (.ref b25), .val (.ref b29), .val (.ref b21), .val (.int (1 : Int32))] [(.int (1 : Int32))]))) (fun t ht => XS.iconst X55.here hx rfl (hb hby at_240) ht) ?_
    refine own_stepW (U' := (T55.setTop (mkF m 245 #[.val (.int p1), .val (.int (2 : Int32)), .val (.ref b19), .val (.ref b21), .val (.ref b25), .val (.ref b29), .val (.ref b21), .val (.int (1 : Int32))] [(.int (1 : Int32))]))) (fun t ht => XS.goto X55.here hx rfl (pc0 := 241) (pc' := 245) rfl (hb hby at_241) (by decide) (by decide) ht) ?_
    refine own_stepW (U' := (T55.setTop (mkF m 247 #[.val (.int p1), .val (.int (2 : Int32)), .val (.ref b19), .val (.ref b21), .val (.ref b25), .val (.ref b29), .val (.ref b21), .val (.int (1 : Int32))] []))) (fun t ht => XS.istore X55.here hx rfl (hb hby at_245) rfl (l' := #[.val (.int p1), .val (.int (2 : Int32)), .val (.ref b19), .val (.ref b21), .val (.ref b25), .val (.ref b29), .val (.ref b21), .val (.int (1 : Int32))]) rfl ht) ?_
    refine own_stepW (U' := (T55.setTop (mkF m 249 #[.val (.int p1), .val (.int (2 : Int32)), .val (.ref b19), .val (.ref b21), .val (.ref b25), .val (.ref b29), .val (.ref b21), .val (.int (1 : Int32))] [(.int (1 : Int32))]))) (fun t ht => XS.iload X55.here hx rfl (hb hby at_247) rfl ht) ?_
    refine own_stepW (U' := (T55.setTop (mkF m 252 #[.val (.int p1), .val (.int (2 : Int32)), .val (.ref b19), .val (.ref b21), .val (.ref b25), .val (.ref b29), .val (.ref b21), .val (.int (1 : Int32))] []))) (fun t ht => XS.ifNo X55.here hx rfl (hb hby at_249) rfl (XT.i0_eq_f ((by decide) : ¬ ((1 : Int32) = 0))) ht) ?_
    refine own_stepW (U' := (T55.setTop (mkF m 254 #[.val (.int p1), .val (.int (2 : Int32)), .val (.ref b19), .val (.ref b21), .val (.ref b25), .val (.ref b29), .val (.ref b21), .val (.int (1 : Int32))] [(.ref b29)]))) (fun t ht => XS.aload X55.here hx rfl (hb hby at_252) rfl rfl ht) ?_
    obtain ⟨cq56, kq56, q56a, q56b, q56c⟩ := isOf hZ e55 f49_6
    obtain ⟨_, _, ⟨T56, L56, k56, n56⟩, -, X56, ⟨Lc56, hQ56, l56, y56, z56⟩, st56⟩ := X55.virtualBackUp hx (x := (⟨"com/example/feuillet/feuillet/ProcessingInstruction", "getParentNode", "()Lcom/example/feuillet/feuillet/Node$Parent;"⟩ : MethodName)) (y := (⟨"com/example/feuillet/feuillet/Node", "getParentNode", "()Lcom/example/feuillet/feuillet/Node$Parent;"⟩ : MethodName)) hown (mvT hZ (hw _ (List.mem_of_getElem? (i := 59) rfl))) (mvT hZ (hw _ (List.mem_of_getElem? (i := 60) rfl))) (mvT hZ (hw _ (List.mem_of_getElem? (i := 61) rfl))) (by decide) (mvT hZ (hw _ (List.mem_of_getElem? (i := 63) rfl))) (mvT hZ (hw _ (List.mem_of_getElem? (i := 62) rfl))) (backOf (W := 0) (own_m_gpn l Z a0 hw [] (b29) (.null) T49.heap n0 (Nat.le_trans Z0 K49.1) f49_4 rfl) hZ (hw _ (List.mem_of_getElem? (i := 64) rfl)) (hw _ (List.mem_of_getElem? (i := 14) rfl)) (by decide) (by decide)) q56a q56c (g := (mkF m 254 #[.val (.int p1), .val (.int (2 : Int32)), .val (.ref b19), .val (.ref b21), .val (.ref b25), .val (.ref b29), .val (.ref b21), .val (.int (1 : Int32))] [(.ref b29)])) rfl (by rw [hml]; rfl) (Steps.refl _) (argsL := []) (rest := []) (lenOf own_pd3 rfl) rfl (by show 2 * 0 + _ ≤ _; exact Nat.le_of_eq rfl) (hb hby at_254) (fun _ _ => ⟨rfl, e55, (by decide : 16 + 0 ≤ _), (by decide : 64 + 0 ≤ _)⟩)
    dsimp only [Pt.U, Pt.locs, Pt.cells, Pt.slots] at X56 l56 y56 z56 st56 hQ56
    subst l56 y56 z56
    obtain ⟨rfl, Nq56, Kq56⟩ := hQ56
    have N56 := Fr.app N55 Nq56
    have e56 : T56.heap = T49.heap := Kq56
    refine own_stepW (U' := (T56.setTop (mkF m 257 #[.val (.int p1), .val (.int (2 : Int32)), .val (.ref b19), .val (.ref b21), .val (.ref b25), .val (.ref b29), .val (.ref b21), .val (.int (1 : Int32))] [.null]))) (fun t ht => st56.trans ht) ?_
    refine own_stepW (U' := (T56.setTop (mkF m 258 #[.val (.int p1), .val (.int (2 : Int32)), .val (.ref b19), .val (.ref b21), .val (.ref b25), .val (.ref b29), .val (.ref b21), .val (.int (1 : Int32))] [(.int (2 : Int32)), .null]))) (fun t ht => XS.iloadN X56.here hx rfl (hb hby at_257) rfl ht) ?_
    refine own_stepW (U' := (T56.setTop (mkF m 259 #[.val (.int p1), .val (.int (2 : Int32)), .val (.ref b19), .val (.ref b21), .val (.ref b25), .val (.ref b29), .val (.ref b21), .val (.int (1 : Int32))] [(.int (2 : Int32)), (.int (2 : Int32)), .null]))) (fun t ht => XS.iconst X56.here hx rfl (hb hby at_258) ht) ?_
    refine own_stepW (U' := (T56.setTop (mkF m 266 #[.val (.int p1), .val (.int (2 : Int32)), .val (.ref b19), .val (.ref b21), .val (.ref b25), .val (.ref b29), .val (.ref b21), .val (.int (1 : Int32))] [.null]))) (fun t ht => XS.icmpYes X56.here hx rfl (pc0 := 259) (pc' := 266) rfl (hb hby at_259) rfl (XT.ii_le_t ((by decide) : ¬ ((2 : Int32) < (2 : Int32)))) (by decide) (by decide) ht) ?_
    refine own_stepW (U' := (T56.setTop (mkF m 267 #[.val (.int p1), .val (.int (2 : Int32)), .val (.ref b19), .val (.ref b21), .val (.ref b25), .val (.ref b29), .val (.ref b21), .val (.int (1 : Int32))] [.null, .null]))) (fun t ht => XS.aconstNull X56.here hx rfl (hb hby at_266) ht) ?_
    refine own_stepW (U' := (T56.setTop (mkF m 270 #[.val (.int p1), .val (.int (2 : Int32)), .val (.ref b19), .val (.ref b21), .val (.ref b25), .val (.ref b29), .val (.ref b21), .val (.int (1 : Int32))] []))) (fun t ht => Jvm.RoadKit.acmp (g := (mkF m 267 #[.val (.int p1), .val (.int (2 : Int32)), .val (.ref b19), .val (.ref b21), .val (.ref b25), .val (.ref b29), .val (.ref b21), .val (.int (1 : Int32))] [.null, .null])) X56 hx rfl rfl rfl (pc0 := 267) (pc' := 270) (same := true) rfl (hb hby at_267) rfl (decide_eq_true (rfl : (.null : Value) = (.null : Value))) (by decide) (by decide) ht) ?_
    refine own_stepW (U' := (T56.setTop (mkF m 271 #[.val (.int p1), .val (.int (2 : Int32)), .val (.ref b19), .val (.ref b21), .val (.ref b25), .val (.ref b29), .val (.ref b21), .val (.int (1 : Int32))] [(.int (1 : Int32))]))) (fun t ht => XS.iconst X56.here hx rfl (hb hby at_270) ht) ?_
    refine own_stepW (U' := (T56.setTop (mkF m 275 #[.val (.int p1), .val (.int (2 : Int32)), .val (.ref b19), .val (.ref b21), .val (.ref b25), .val (.ref b29), .val (.ref b21), .val (.int (1 : Int32))] [(.int (1 : Int32))]))) (fun t ht => XS.goto X56.here hx rfl (pc0 := 271) (pc' := 275) rfl (hb hby at_271) (by decide) (by decide) ht) ?_
    refine own_stepW (U' := (T56.setTop (mkF m 277 #[.val (.int p1), .val (.int (2 : Int32)), .val (.ref b19), .val (.ref b21), .val (.ref b25), .val (.ref b29), .val (.ref b21), .val (.int (1 : Int32))] []))) (fun t ht => XS.istore X56.here hx rfl (hb hby at_275) rfl (l' := #[.val (.int p1), .val (.int (2 : Int32)), .val (.ref b19), .val (.ref b21), .val (.ref b25), .val (.ref b29), .val (.ref b21), .val (.int (1 : Int32))]) rfl ht) ?_
    refine own_stepW (U' := (T56.setTop (mkF m 279 #[.val (.int p1), .val (.int (2 : Int32)), .val (.ref b19), .val (.ref b21), .val (.ref b25), .val (.ref b29), .val (.ref b21), .val (.int (1 : Int32))] [(.int (1 : Int32))]))) (fun t ht => XS.iload X56.here hx rfl (hb hby at_277) rfl ht) ?_
    refine own_retW X56 hS31 (by rw [e56]; exact f49_3) (v := (some (.int (nar .boolean (1 : Int32))))) (fun h => by rw [Bd.returns] at h; cases h) Bd.notSynchronized (by decide) (by decide) ?_ (fun fs hr => retN X56 hx (t := .boolean) Bd.returns (by simp) (hb hby at_279) hr)
    show own_Q_law Z p1 h0 n0 _ T56.heap _
    rw [e56]
    exact ⟨rfl, N56⟩
  ·
    refine own_stepW (U' := (T32.setTop (mkF m 51 #[.val (.int p1), .val (.int (3 : Int32)), .val (.ref b19), .val (.ref b21), .val (.ref b25), .val (.ref b29), .unset, .unset] [(.int (3 : Int32))]))) (fun t ht => XS.iloadN X32.here hx rfl (hb hby at_50) rfl ht) ?_
    refine own_stepW (U' := (T32.setTop (mkF m 54 #[.val (.int p1), .val (.int (3 : Int32)), .val (.ref b19), .val (.ref b21), .val (.ref b25), .val (.ref b29), .unset, .unset] []))) (fun t ht => XS.ifNo X32.here hx rfl (hb hby at_51) rfl (XT.i0_le_f ((by decide) : 0 < (3 : Int32))) ht) ?_
    refine own_stepW (U' := (T32.setTop (mkF m 55 #[.val (.int p1), .val (.int (3 : Int32)), .val (.ref b19), .val (.ref b21), .val (.ref b25), .val (.ref b29), .unset, .unset] [(.ref b19)]))) (fun t ht => XS.aloadN X32.here hx rfl (hb hby at_54) rfl rfl ht) ?_
    refine own_stepW (U' := (T32.setTop (mkF m 56 #[.val (.int p1), .val (.int (3 : Int32)), .val (.ref b19), .val (.ref b21), .val (.ref b25), .val (.ref b29), .unset, .unset] [(.ref b21), (.ref b19)]))) (fun t ht => XS.aloadN X32.here hx rfl (hb hby at_55) rfl rfl ht) ?_
    obtain ⟨cq57, kq57, q57a, q57b, q57c⟩ := isOf hZ rfl f32_0
    obtain ⟨_, _, ⟨T57, L57, k57, n57⟩, -, X57, ⟨Lc57, hQ57, l57, y57, z57⟩, st57⟩ := X32.virtualBackUp hx (x := (⟨"com/example/feuillet/feuillet/Document", "append", "(Lcom/example/feuillet/feuillet/Node;)V"⟩ : MethodName)) (y := (⟨"com/example/feuillet/feuillet/Node$Parent", "append", "(Lcom/example/feuillet/feuillet/Node;)V"⟩ : MethodName)) hown (mvT hZ (hw _ (List.mem_of_getElem? (i := 67) rfl))) (mvT hZ (hw _ (List.mem_of_getElem? (i := 68) rfl))) (mvT hZ (hw _ (List.mem_of_getElem? (i := 69) rfl))) (by decide) (mvT hZ (hw _ (List.mem_of_getElem? (i := 71) rfl))) (mvT hZ (hw _ (List.mem_of_getElem? (i := 70) rfl))) (backOf (W := 0) (own_m_apA l Z a0 hw [] (b19) (b21) (.null) (.null) (.null) T32.heap n0 (Nat.le_trans Z0 K32.1) g_b19 g_b21 f32_3 f32_4 f32_5 f32_1 f32_2 f32_0) hZ (hw _ (List.mem_of_getElem? (i := 72) rfl)) (hw _ (List.mem_of_getElem? (i := 9) rfl)) (by decide) (by decide)) q57a q57c (g := (mkF m 56 #[.val (.int p1), .val (.int (3 : Int32)), .val (.ref b19), .val (.ref b21), .val (.ref b25), .val (.ref b29), .unset, .unset] [(.ref b21), (.ref b19)])) rfl (by rw [hml]; rfl) (Steps.refl _) (argsL := [(.ref b21)]) (rest := []) (lenOf own_pd4 rfl) rfl (by show 2 * 0 + _ ≤ _; exact Nat.le_of_eq rfl) (hb hby at_56) (fun _ _ => ⟨rfl, rfl, (by decide : 16 + 0 ≤ _), (by decide : 64 + 0 ≤ _)⟩)
    dsimp only [Pt.U, Pt.locs, Pt.cells, Pt.slots] at X57 l57 y57 z57 st57 hQ57
    subst l57 y57 z57
    obtain ⟨rfl, Nq57, Kq57, Fq57_0, Fq57_1, Fq57_2, Fq57_3, Fq57_4, Fq57_5⟩ := hQ57
    have N57 := Fr.app N32 Nq57
    have f57_0 : Exa Z T57.heap b19 "com/example/feuillet/feuillet/Document" := f32_0.keep Kq57
    have f57_5 : Exa Z T57.heap b21 "com/example/feuillet/feuillet/ProcessingInstruction" := f32_5.keep Kq57
    have f57_6 : Fld Z T57.heap b25 "com/example/feuillet/feuillet/Node" "parent" "Lcom/example/feuillet/feuillet/Node$Parent;" .null := f32_6.keep Kq57 (ninS (Ne.symm ne_b21_b25) (ninS (Ne.symm ne_b19_b25) nin0))
    have f57_7 : Fld Z T57.heap b25 "com/example/feuillet/feuillet/Node" "nextSibling" "Lcom/example/feuillet/feuillet/Node;" .null := f32_7.keep Kq57 (ninS (Ne.symm ne_b21_b25) (ninS (Ne.symm ne_b19_b25) nin0))
    have f57_8 : Exa Z T57.heap b25 "com/example/feuillet/feuillet/ProcessingInstruction" := f32_8.keep Kq57
    have f57_9 : k31 ≤ (T57.heap).size := Nat.le_trans f32_14 Kq57.1
    have f57_10 : Fld Z T57.heap b29 "com/example/feuillet/feuillet/Node" "parent" "Lcom/example/feuillet/feuillet/Node$Parent;" .null := Fq32_0.keep Kq57 (ninS (Ne.symm ne_b21_b29) (ninS (Ne.symm ne_b19_b29) nin0))
    have f57_11 : Fld Z T57.heap b29 "com/example/feuillet/feuillet/Node" "nextSibling" "Lcom/example/feuillet/feuillet/Node;" .null := Fq32_1.keep Kq57 (ninS (Ne.symm ne_b21_b29) (ninS (Ne.symm ne_b19_b29) nin0))
    have f57_12 : Exa Z T57.heap b29 "com/example/feuillet/feuillet/ProcessingInstruction" := Fq32_2.keep Kq57
    have K57 : Keep h0 T57.heap [] := K32.trans Kq57 (allS (Or.inr sz_b21) (allS (Or.inr sz_b19) all0))
    refine own_stepW (U' := (T57.setTop (mkF m 59 #[.val (.int p1), .val (.int (3 : Int32)), .val (.ref b19), .val (.ref b21), .val (.ref b25), .val (.ref b29), .unset, .unset] []))) (fun t ht => st57.trans ht) ?_
    refine own_stepW (U' := (T57.setTop (mkF m 60 #[.val (.int p1), .val (.int (3 : Int32)), .val (.ref b19), .val (.ref b21), .val (.ref b25), .val (.ref b29), .unset, .unset] [(.int (3 : Int32))]))) (fun t ht => XS.iloadN X57.here hx rfl (hb hby at_59) rfl ht) ?_
    refine own_stepW (U' := (T57.setTop (mkF m 61 #[.val (.int p1), .val (.int (3 : Int32)), .val (.ref b19), .val (.ref b21), .val (.ref b25), .val (.ref b29), .unset, .unset] [(.int (1 : Int32)), (.int (3 : Int32))]))) (fun t ht => XS.iconst X57.here hx rfl (hb hby at_60) ht) ?_
    refine own_stepW (U' := (T57.setTop (mkF m 64 #[.val (.int p1), .val (.int (3 : Int32)), .val (.ref b19), .val (.ref b21), .val (.ref b25), .val (.ref b29), .unset, .unset] []))) (fun t ht => XS.icmpNo X57.here hx rfl (hb hby at_61) rfl (XT.ii_le_f ((by decide) : (1 : Int32) < (3 : Int32))) ht) ?_
    refine own_stepW (U' := (T57.setTop (mkF m 65 #[.val (.int p1), .val (.int (3 : Int32)), .val (.ref b19), .val (.ref b21), .val (.ref b25), .val (.ref b29), .unset, .unset] [(.ref b19)]))) (fun t ht => XS.aloadN X57.here hx rfl (hb hby at_64) rfl rfl ht) ?_
    refine own_stepW (U' := (T57.setTop (mkF m 67 #[.val (.int p1), .val (.int (3 : Int32)), .val (.ref b19), .val (.ref b21), .val (.ref b25), .val (.ref b29), .unset, .unset] [(.ref b25), (.ref b19)]))) (fun t ht => XS.aload X57.here hx rfl (hb hby at_65) rfl rfl ht) ?_
    obtain ⟨cq58, kq58, q58a, q58b, q58c⟩ := isOf hZ rfl Fq57_5
    obtain ⟨_, _, ⟨T58, L58, k58, n58⟩, -, X58, ⟨Lc58, hQ58, l58, y58, z58⟩, st58⟩ := X57.virtualBackUp hx (x := (⟨"com/example/feuillet/feuillet/Document", "append", "(Lcom/example/feuillet/feuillet/Node;)V"⟩ : MethodName)) (y := (⟨"com/example/feuillet/feuillet/Node$Parent", "append", "(Lcom/example/feuillet/feuillet/Node;)V"⟩ : MethodName)) hown (mvT hZ (hw _ (List.mem_of_getElem? (i := 67) rfl))) (mvT hZ (hw _ (List.mem_of_getElem? (i := 68) rfl))) (mvT hZ (hw _ (List.mem_of_getElem? (i := 69) rfl))) (by decide) (mvT hZ (hw _ (List.mem_of_getElem? (i := 71) rfl))) (mvT hZ (hw _ (List.mem_of_getElem? (i := 70) rfl))) (backOf (W := 0) (own_m_apB l Z a0 hw [] (b19) (b25) (b21) (.null) ((.ref b21)) (.null) (.null) ((.ref b19)) T57.heap n0 (Nat.le_trans Z0 K57.1) g_b19 g_b25 g_b21 (Ne.symm ne_b21_b25) f57_6 f57_7 f57_8 Fq57_3 Fq57_4 Fq57_5 Fq57_0 Fq57_1 Fq57_2) hZ (hw _ (List.mem_of_getElem? (i := 72) rfl)) (hw _ (List.mem_of_getElem? (i := 9) rfl)) (by decide) (by decide)) q58a q58c (g := (mkF m 67 #[.val (.int p1), .val (.int (3 : Int32)), .val (.ref b19), .val (.ref b21), .val (.ref b25), .val (.ref b29), .unset, .unset] [(.ref b25), (.ref b19)])) rfl (by rw [hml]; rfl) (Steps.refl _) (argsL := [(.ref b25)]) (rest := []) (lenOf own_pd4 rfl) rfl (by show 2 * 0 + _ ≤ _; exact Nat.le_of_eq rfl) (hb hby at_67) (fun _ _ => ⟨rfl, rfl, (by decide : 16 + 0 ≤ _), (by decide : 64 + 0 ≤ _)⟩)
    dsimp only [Pt.U, Pt.locs, Pt.cells, Pt.slots] at X58 l58 y58 z58 st58 hQ58
    subst l58 y58 z58
    obtain ⟨rfl, Nq58, Kq58, Fq58_0, Fq58_1, Fq58_2, Fq58_3, Fq58_4, Fq58_5, Fq58_6, Fq58_7, Fq58_8⟩ := hQ58
    have N58 := Fr.app N57 Nq58
    have f58_2 : Exa Z T58.heap b25 "com/example/feuillet/feuillet/ProcessingInstruction" := f57_8.keep Kq58
    have f58_3 : k31 ≤ (T58.heap).size := Nat.le_trans f57_9 Kq58.1
    have f58_4 : Fld Z T58.heap b29 "com/example/feuillet/feuillet/Node" "parent" "Lcom/example/feuillet/feuillet/Node$Parent;" .null := f57_10.keep Kq58 (ninS (Ne.symm ne_b25_b29) (ninS (Ne.symm ne_b21_b29) (ninS (Ne.symm ne_b19_b29) nin0)))
    have f58_5 : Fld Z T58.heap b29 "com/example/feuillet/feuillet/Node" "nextSibling" "Lcom/example/feuillet/feuillet/Node;" .null := f57_11.keep Kq58 (ninS (Ne.symm ne_b25_b29) (ninS (Ne.symm ne_b21_b29) (ninS (Ne.symm ne_b19_b29) nin0)))
    have f58_6 : Exa Z T58.heap b29 "com/example/feuillet/feuillet/ProcessingInstruction" := f57_12.keep Kq58
    have f58_9 : Exa Z T58.heap b21 "com/example/feuillet/feuillet/ProcessingInstruction" := Fq57_2.keep Kq58
    have f58_12 : Exa Z T58.heap b19 "com/example/feuillet/feuillet/Document" := Fq57_5.keep Kq58
    have K58 : Keep h0 T58.heap [] := K57.trans Kq58 (allS (Or.inr sz_b25) (allS (Or.inr sz_b21) (allS (Or.inr sz_b19) all0)))
    refine own_stepW (U' := (T58.setTop (mkF m 70 #[.val (.int p1), .val (.int (3 : Int32)), .val (.ref b19), .val (.ref b21), .val (.ref b25), .val (.ref b29), .unset, .unset] []))) (fun t ht => st58.trans ht) ?_
    refine own_stepW (U' := (T58.setTop (mkF m 71 #[.val (.int p1), .val (.int (3 : Int32)), .val (.ref b19), .val (.ref b21), .val (.ref b25), .val (.ref b29), .unset, .unset] [(.int (3 : Int32))]))) (fun t ht => XS.iloadN X58.here hx rfl (hb hby at_70) rfl ht) ?_
    refine own_stepW (U' := (T58.setTop (mkF m 72 #[.val (.int p1), .val (.int (3 : Int32)), .val (.ref b19), .val (.ref b21), .val (.ref b25), .val (.ref b29), .unset, .unset] [(.int (2 : Int32)), (.int (3 : Int32))]))) (fun t ht => XS.iconst X58.here hx rfl (hb hby at_71) ht) ?_
    refine own_stepW (U' := (T58.setTop (mkF m 75 #[.val (.int p1), .val (.int (3 : Int32)), .val (.ref b19), .val (.ref b21), .val (.ref b25), .val (.ref b29), .unset, .unset] []))) (fun t ht => XS.icmpNo X58.here hx rfl (hb hby at_72) rfl (XT.ii_le_f ((by decide) : (2 : Int32) < (3 : Int32))) ht) ?_
    refine own_stepW (U' := (T58.setTop (mkF m 76 #[.val (.int p1), .val (.int (3 : Int32)), .val (.ref b19), .val (.ref b21), .val (.ref b25), .val (.ref b29), .unset, .unset] [(.ref b19)]))) (fun t ht => XS.aloadN X58.here hx rfl (hb hby at_75) rfl rfl ht) ?_
    refine own_stepW (U' := (T58.setTop (mkF m 78 #[.val (.int p1), .val (.int (3 : Int32)), .val (.ref b19), .val (.ref b21), .val (.ref b25), .val (.ref b29), .unset, .unset] [(.ref b29), (.ref b19)]))) (fun t ht => XS.aload X58.here hx rfl (hb hby at_76) rfl rfl ht) ?_
    obtain ⟨cq59, kq59, q59a, q59b, q59c⟩ := isOf hZ rfl Fq58_8
    obtain ⟨_, _, ⟨T59, L59, k59, n59⟩, -, X59, ⟨Lc59, hQ59, l59, y59, z59⟩, st59⟩ := X58.virtualBackUp hx (x := (⟨"com/example/feuillet/feuillet/Document", "append", "(Lcom/example/feuillet/feuillet/Node;)V"⟩ : MethodName)) (y := (⟨"com/example/feuillet/feuillet/Node$Parent", "append", "(Lcom/example/feuillet/feuillet/Node;)V"⟩ : MethodName)) hown (mvT hZ (hw _ (List.mem_of_getElem? (i := 67) rfl))) (mvT hZ (hw _ (List.mem_of_getElem? (i := 68) rfl))) (mvT hZ (hw _ (List.mem_of_getElem? (i := 69) rfl))) (by decide) (mvT hZ (hw _ (List.mem_of_getElem? (i := 71) rfl))) (mvT hZ (hw _ (List.mem_of_getElem? (i := 70) rfl))) (backOf (W := 0) (own_m_apB l Z a0 hw [] (b19) (b29) (b25) (.null) ((.ref b21)) (.null) (.null) ((.ref b19)) T58.heap n0 (Nat.le_trans Z0 K58.1) g_b19 g_b29 g_b25 (Ne.symm ne_b25_b29) f58_4 f58_5 f58_6 Fq58_6 Fq58_7 Fq58_8 Fq58_0 Fq58_1 Fq58_2) hZ (hw _ (List.mem_of_getElem? (i := 72) rfl)) (hw _ (List.mem_of_getElem? (i := 9) rfl)) (by decide) (by decide)) q59a q59c (g := (mkF m 78 #[.val (.int p1), .val (.int (3 : Int32)), .val (.ref b19), .val (.ref b21), .val (.ref b25), .val (.ref b29), .unset, .unset] [(.ref b29), (.ref b19)])) rfl (by rw [hml]; rfl) (Steps.refl _) (argsL := [(.ref b29)]) (rest := []) (lenOf own_pd4 rfl) rfl (by show 2 * 0 + _ ≤ _; exact Nat.le_of_eq rfl) (hb hby at_78) (fun _ _ => ⟨rfl, rfl, (by decide : 16 + 0 ≤ _), (by decide : 64 + 0 ≤ _)⟩)
    dsimp only [Pt.U, Pt.locs, Pt.cells, Pt.slots] at X59 l59 y59 z59 st59 hQ59
    subst l59 y59 z59
    obtain ⟨rfl, Nq59, Kq59, Fq59_0, Fq59_1, Fq59_2, Fq59_3, Fq59_4, Fq59_5, Fq59_6, Fq59_7, Fq59_8⟩ := hQ59
    have N59 := Fr.app N58 Nq59
    have f59_0 : k31 ≤ (T59.heap).size := Nat.le_trans f58_3 Kq59.1
    have f59_3 : Exa Z T59.heap b29 "com/example/feuillet/feuillet/ProcessingInstruction" := f58_6.keep Kq59
    have f59_6 : Exa Z T59.heap b25 "com/example/feuillet/feuillet/ProcessingInstruction" := Fq58_2.keep Kq59
    have f59_7 : Fld Z T59.heap b21 "com/example/feuillet/feuillet/Node" "parent" "Lcom/example/feuillet/feuillet/Node$Parent;" (.ref b19) := Fq58_3.keep Kq59 (ninS ne_b21_b29 (ninS ne_b21_b25 (ninS (Ne.symm ne_b19_b21) nin0)))
    have f59_8 : Fld Z T59.heap b21 "com/example/feuillet/feuillet/Node" "nextSibling" "Lcom/example/feuillet/feuillet/Node;" (.ref b25) := Fq58_4.keep Kq59 (ninS ne_b21_b29 (ninS ne_b21_b25 (ninS (Ne.symm ne_b19_b21) nin0)))
    have f59_9 : Exa Z T59.heap b21 "com/example/feuillet/feuillet/ProcessingInstruction" := Fq58_5.keep Kq59
    have f59_12 : Exa Z T59.heap b19 "com/example/feuillet/feuillet/Document" := Fq58_8.keep Kq59
    have K59 : Keep h0 T59.heap [] := K58.trans Kq59 (allS (Or.inr sz_b29) (allS (Or.inr sz_b25) (allS (Or.inr sz_b19) all0)))
    refine own_stepW (U' := (T59.setTop (mkF m 81 #[.val (.int p1), .val (.int (3 : Int32)), .val (.ref b19), .val (.ref b21), .val (.ref b25), .val (.ref b29), .unset, .unset] []))) (fun t ht => st59.trans ht) ?_
    refine own_stepW (U' := (T59.setTop (mkF m 82 #[.val (.int p1), .val (.int (3 : Int32)), .val (.ref b19), .val (.ref b21), .val (.ref b25), .val (.ref b29), .unset, .unset] [(.ref b19)]))) (fun t ht => XS.aloadN X59.here hx rfl (hb hby at_81) rfl rfl ht) ?_
    obtain ⟨cq60, kq60, q60a, q60b, q60c⟩ := isOf hZ rfl Fq59_8
    obtain ⟨_, _, ⟨T60, L60, k60, n60⟩, -, X60, ⟨Lc60, hQ60, l60, y60, z60⟩, st60⟩ := X59.virtualBackUp hx (x := (⟨"com/example/feuillet/feuillet/Document", "getFirstChild", "()Lcom/example/feuillet/feuillet/Node;"⟩ : MethodName)) (y := (⟨"com/example/feuillet/feuillet/Node$Parent", "getFirstChild", "()Lcom/example/feuillet/feuillet/Node;"⟩ : MethodName)) hown (mvT hZ (hw _ (List.mem_of_getElem? (i := 43) rfl))) (mvT hZ (hw _ (List.mem_of_getElem? (i := 44) rfl))) (mvT hZ (hw _ (List.mem_of_getElem? (i := 45) rfl))) (by decide) (mvT hZ (hw _ (List.mem_of_getElem? (i := 47) rfl))) (mvT hZ (hw _ (List.mem_of_getElem? (i := 46) rfl))) (backOf (W := 0) (own_m_gfc l Z a0 hw [] (b19) ((.ref b21)) T59.heap n0 (Nat.le_trans Z0 K59.1) Fq59_6 rfl) hZ (hw _ (List.mem_of_getElem? (i := 48) rfl)) (hw _ (List.mem_of_getElem? (i := 9) rfl)) (by decide) (by decide)) q60a q60c (g := (mkF m 82 #[.val (.int p1), .val (.int (3 : Int32)), .val (.ref b19), .val (.ref b21), .val (.ref b25), .val (.ref b29), .unset, .unset] [(.ref b19)])) rfl (by rw [hml]; rfl) (Steps.refl _) (argsL := []) (rest := []) (lenOf own_pd2 rfl) rfl (by show 2 * 0 + _ ≤ _; exact Nat.le_of_eq rfl) (hb hby at_82) (fun _ _ => ⟨rfl, rfl, (by decide : 16 + 0 ≤ _), (by decide : 64 + 0 ≤ _)⟩)
    dsimp only [Pt.U, Pt.locs, Pt.cells, Pt.slots] at X60 l60 y60 z60 st60 hQ60
    subst l60 y60 z60
    obtain ⟨rfl, Nq60, Kq60⟩ := hQ60
    have N60 := Fr.app N59 Nq60
    have e60 : T60.heap = T59.heap := Kq60
    refine own_stepW (U' := (T60.setTop (mkF m 85 #[.val (.int p1), .val (.int (3 : Int32)), .val (.ref b19), .val (.ref b21), .val (.ref b25), .val (.ref b29), .unset, .unset] [(.ref b21)]))) (fun t ht => st60.trans ht) ?_
    refine own_stepW (U' := (T60.setTop (mkF m 87 #[.val (.int p1), .val (.int (3 : Int32)), .val (.ref b19), .val (.ref b21), .val (.ref b25), .val (.ref b29), .val (.ref b21), .unset] []))) (fun t ht => XS.astore X60.here hx rfl (hb hby at_85) rfl rfl (l' := #[.val (.int p1), .val (.int (3 : Int32)), .val (.ref b19), .val (.ref b21), .val (.ref b25), .val (.ref b29), .val (.ref b21), .unset]) rfl ht) ?_
    refine own_stepW (U' := (T60.setTop (mkF m 89 #[.val (.int p1), .val (.int (3 : Int32)), .val (.ref b19), .val (.ref b21), .val (.ref b25), .val (.ref b29), .val (.ref b21), .unset] [(.ref b21)]))) (fun t ht => XS.aload X60.here hx rfl (hb hby at_87) rfl rfl ht) ?_
    refine own_stepW (U' := (T60.setTop (mkF m 90 #[.val (.int p1), .val (.int (3 : Int32)), .val (.ref b19), .val (.ref b21), .val (.ref b25), .val (.ref b29), .val (.ref b21), .unset] [(.int (3 : Int32)), (.ref b21)]))) (fun t ht => XS.iloadN X60.here hx rfl (hb hby at_89) rfl ht) ?_
    refine own_stepW (U' := (T60.setTop (mkF m 93 #[.val (.int p1), .val (.int (3 : Int32)), .val (.ref b19), .val (.ref b21), .val (.ref b25), .val (.ref b29), .val (.ref b21), .unset] [(.ref b21)]))) (fun t ht => XS.ifNo X60.here hx rfl (hb hby at_90) rfl (XT.i0_le_f ((by decide) : 0 < (3 : Int32))) ht) ?_
    refine own_stepW (U' := (T60.setTop (mkF m 94 #[.val (.int p1), .val (.int (3 : Int32)), .val (.ref b19), .val (.ref b21), .val (.ref b25), .val (.ref b29), .val (.ref b21), .unset] [(.ref b21), (.ref b21)]))) (fun t ht => XS.aloadN X60.here hx rfl (hb hby at_93) rfl rfl ht) ?_
    refine own_stepW (U' := (T60.setTop (mkF m 98 #[.val (.int p1), .val (.int (3 : Int32)), .val (.ref b19), .val (.ref b21), .val (.ref b25), .val (.ref b29), .val (.ref b21), .unset] [(.ref b21), (.ref b21)]))) (fun t ht => XS.goto X60.here hx rfl (pc0 := 94) (pc' := 98) rfl (hb hby at_94) (by decide) (by decide) ht) ?_
    refine own_stepW (U' := (T60.setTop (mkF m 101 #[.val (.int p1), .val (.int (3 : Int32)), .val (.ref b19), .val (.ref b21), .val (.ref b25), .val (.ref b29), .val (.ref b21), .unset] []))) (fun t ht => Jvm.RoadKit.acmp (g := (mkF m 98 #[.val (.int p1), .val (.int (3 : Int32)), .val (.ref b19), .val (.ref b21), .val (.ref b25), .val (.ref b29), .val (.ref b21), .unset] [(.ref b21), (.ref b21)])) X60 hx rfl rfl rfl (pc0 := 98) (pc' := 101) (same := true) rfl (hb hby at_98) rfl (decide_eq_true (rfl : (.ref b21 : Value) = (.ref b21 : Value))) (by decide) (by decide) ht) ?_
    refine own_stepW (U' := (T60.setTop (mkF m 102 #[.val (.int p1), .val (.int (3 : Int32)), .val (.ref b19), .val (.ref b21), .val (.ref b25), .val (.ref b29), .val (.ref b21), .unset] [(.int (1 : Int32))]))) (fun t ht => XS.iconst X60.here hx rfl (hb hby at_101) ht) ?_
    refine own_stepW (U' := (T60.setTop (mkF m 106 #[.val (.int p1), .val (.int (3 : Int32)), .val (.ref b19), .val (.ref b21), .val (.ref b25), .val (.ref b29), .val (.ref b21), .unset] [(.int (1 : Int32))]))) (fun t ht => XS.goto X60.here hx rfl (pc0 := 102) (pc' := 106) rfl (hb hby at_102) (by decide) (by decide) ht) ?_
    refine own_stepW (U' := (T60.setTop (mkF m 108 #[.val (.int p1), .val (.int (3 : Int32)), .val (.ref b19), .val (.ref b21), .val (.ref b25), .val (.ref b29), .val (.ref b21), .val (.int (1 : Int32))] []))) (fun t ht => XS.istore X60.here hx rfl (hb hby at_106) rfl (l' := #[.val (.int p1), .val (.int (3 : Int32)), .val (.ref b19), .val (.ref b21), .val (.ref b25), .val (.ref b29), .val (.ref b21), .val (.int (1 : Int32))]) rfl ht) ?_
    refine own_stepW (U' := (T60.setTop (mkF m 110 #[.val (.int p1), .val (.int (3 : Int32)), .val (.ref b19), .val (.ref b21), .val (.ref b25), .val (.ref b29), .val (.ref b21), .val (.int (1 : Int32))] [(.int (1 : Int32))]))) (fun t ht => XS.iload X60.here hx rfl (hb hby at_108) rfl ht) ?_
    refine own_stepW (U' := (T60.setTop (mkF m 113 #[.val (.int p1), .val (.int (3 : Int32)), .val (.ref b19), .val (.ref b21), .val (.ref b25), .val (.ref b29), .val (.ref b21), .val (.int (1 : Int32))] []))) (fun t ht => XS.ifNo X60.here hx rfl (hb hby at_110) rfl (XT.i0_eq_f ((by decide) : ¬ ((1 : Int32) = 0))) ht) ?_
    refine own_stepW (U' := (T60.setTop (mkF m 114 #[.val (.int p1), .val (.int (3 : Int32)), .val (.ref b19), .val (.ref b21), .val (.ref b25), .val (.ref b29), .val (.ref b21), .val (.int (1 : Int32))] [(.ref b21)]))) (fun t ht => XS.aloadN X60.here hx rfl (hb hby at_113) rfl rfl ht) ?_
    obtain ⟨cq61, kq61, q61a, q61b, q61c⟩ := isOf hZ e60 f59_9
    obtain ⟨_, _, ⟨T61, L61, k61, n61⟩, -, X61, ⟨Lc61, hQ61, l61, y61, z61⟩, st61⟩ := X60.virtualBackUp hx (x := (⟨"com/example/feuillet/feuillet/ProcessingInstruction", "getNextSibling", "()Lcom/example/feuillet/feuillet/Node;"⟩ : MethodName)) (y := (⟨"com/example/feuillet/feuillet/Node", "getNextSibling", "()Lcom/example/feuillet/feuillet/Node;"⟩ : MethodName)) hown (mvT hZ (hw _ (List.mem_of_getElem? (i := 51) rfl))) (mvT hZ (hw _ (List.mem_of_getElem? (i := 52) rfl))) (mvT hZ (hw _ (List.mem_of_getElem? (i := 53) rfl))) (by decide) (mvT hZ (hw _ (List.mem_of_getElem? (i := 55) rfl))) (mvT hZ (hw _ (List.mem_of_getElem? (i := 54) rfl))) (backOf (W := 0) (own_m_gns l Z a0 hw [] (b21) ((.ref b25)) T59.heap n0 (Nat.le_trans Z0 K59.1) f59_8 rfl) hZ (hw _ (List.mem_of_getElem? (i := 56) rfl)) (hw _ (List.mem_of_getElem? (i := 14) rfl)) (by decide) (by decide)) q61a q61c (g := (mkF m 114 #[.val (.int p1), .val (.int (3 : Int32)), .val (.ref b19), .val (.ref b21), .val (.ref b25), .val (.ref b29), .val (.ref b21), .val (.int (1 : Int32))] [(.ref b21)])) rfl (by rw [hml]; rfl) (Steps.refl _) (argsL := []) (rest := []) (lenOf own_pd2 rfl) rfl (by show 2 * 0 + _ ≤ _; exact Nat.le_of_eq rfl) (hb hby at_114) (fun _ _ => ⟨rfl, e60, (by decide : 16 + 0 ≤ _), (by decide : 64 + 0 ≤ _)⟩)
    dsimp only [Pt.U, Pt.locs, Pt.cells, Pt.slots] at X61 l61 y61 z61 st61 hQ61
    subst l61 y61 z61
    obtain ⟨rfl, Nq61, Kq61⟩ := hQ61
    have N61 := Fr.app N60 Nq61
    have e61 : T61.heap = T59.heap := Kq61
    refine own_stepW (U' := (T61.setTop (mkF m 117 #[.val (.int p1), .val (.int (3 : Int32)), .val (.ref b19), .val (.ref b21), .val (.ref b25), .val (.ref b29), .val (.ref b21), .val (.int (1 : Int32))] [(.ref b25)]))) (fun t ht => st61.trans ht) ?_
    refine own_stepW (U' := (T61.setTop (mkF m 118 #[.val (.int p1), .val (.int (3 : Int32)), .val (.ref b19), .val (.ref b21), .val (.ref b25), .val (.ref b29), .val (.ref b21), .val (.int (1 : Int32))] [(.int (3 : Int32)), (.ref b25)]))) (fun t ht => XS.iloadN X61.here hx rfl (hb hby at_117) rfl ht) ?_
    refine own_stepW (U' := (T61.setTop (mkF m 119 #[.val (.int p1), .val (.int (3 : Int32)), .val (.ref b19), .val (.ref b21), .val (.ref b25), .val (.ref b29), .val (.ref b21), .val (.int (1 : Int32))] [(.int (1 : Int32)), (.int (3 : Int32)), (.ref b25)]))) (fun t ht => XS.iconst X61.here hx rfl (hb hby at_118) ht) ?_
    refine own_stepW (U' := (T61.setTop (mkF m 122 #[.val (.int p1), .val (.int (3 : Int32)), .val (.ref b19), .val (.ref b21), .val (.ref b25), .val (.ref b29), .val (.ref b21), .val (.int (1 : Int32))] [(.ref b25)]))) (fun t ht => XS.icmpNo X61.here hx rfl (hb hby at_119) rfl (XT.ii_le_f ((by decide) : (1 : Int32) < (3 : Int32))) ht) ?_
    refine own_stepW (U' := (T61.setTop (mkF m 124 #[.val (.int p1), .val (.int (3 : Int32)), .val (.ref b19), .val (.ref b21), .val (.ref b25), .val (.ref b29), .val (.ref b21), .val (.int (1 : Int32))] [(.ref b25), (.ref b25)]))) (fun t ht => XS.aload X61.here hx rfl (hb hby at_122) rfl rfl ht) ?_
    refine own_stepW (U' := (T61.setTop (mkF m 128 #[.val (.int p1), .val (.int (3 : Int32)), .val (.ref b19), .val (.ref b21), .val (.ref b25), .val (.ref b29), .val (.ref b21), .val (.int (1 : Int32))] [(.ref b25), (.ref b25)]))) (fun t ht => XS.goto X61.here hx rfl (pc0 := 124) (pc' := 128) rfl (hb hby at_124) (by decide) (by decide) ht) ?_
    refine own_stepW (U' := (T61.setTop (mkF m 131 #[.val (.int p1), .val (.int (3 : Int32)), .val (.ref b19), .val (.ref b21), .val (.ref b25), .val (.ref b29), .val (.ref b21), .val (.int (1 : Int32))] []))) (fun t ht => Jvm.RoadKit.acmp (g := (mkF m 128 #[.val (.int p1), .val (.int (3 : Int32)), .val (.ref b19), .val (.ref b21), .val (.ref b25), .val (.ref b29), .val (.ref b21), .val (.int (1 : Int32))] [(.ref b25), (.ref b25)])) X61 hx rfl rfl rfl (pc0 := 128) (pc' := 131) (same := true) rfl (hb hby at_128) rfl (decide_eq_true (rfl : (.ref b25 : Value) = (.ref b25 : Value))) (by decide) (by decide) ht) ?_
    refine own_stepW (U' := (T61.setTop (mkF m 132 #[.val (.int p1), .val (.int (3 : Int32)), .val (.ref b19), .val (.ref b21), .val (.ref b25), .val (.ref b29), .val (.ref b21), .val (.int (1 : Int32))] [(.int (1 : Int32))]))) (fun t ht => XS.iconst X61.here hx rfl (hb hby at_131) ht) ?_
    refine own_stepW (U' := (T61.setTop (mkF m 136 #[.val (.int p1), .val (.int (3 : Int32)), .val (.ref b19), .val (.ref b21), .val (.ref b25), .val (.ref b29), .val (.ref b21), .val (.int (1 : Int32))] [(.int (1 : Int32))]))) (fun t ht => XS.goto X61.here hx rfl (pc0 := 132) (pc' := 136) rfl (hb hby at_132) (by decide) (by decide) ht) ?_
    refine own_stepW (U' := (T61.setTop (mkF m 138 #[.val (.int p1), .val (.int (3 : Int32)), .val (.ref b19), .val (.ref b21), .val (.ref b25), .val (.ref b29), .val (.ref b21), .val (.int (1 : Int32))] []))) (fun t ht => XS.istore X61.here hx rfl (hb hby at_136) rfl (l' := #[.val (.int p1), .val (.int (3 : Int32)), .val (.ref b19), .val (.ref b21), .val (.ref b25), .val (.ref b29), .val (.ref b21), .val (.int (1 : Int32))]) rfl ht) ?_
    refine own_stepW (U' := (T61.setTop (mkF m 140 #[.val (.int p1), .val (.int (3 : Int32)), .val (.ref b19), .val (.ref b21), .val (.ref b25), .val (.ref b29), .val (.ref b21), .val (.int (1 : Int32))] [(.int (1 : Int32))]))) (fun t ht => XS.iload X61.here hx rfl (hb hby at_138) rfl ht) ?_
    refine own_stepW (U' := (T61.setTop (mkF m 143 #[.val (.int p1), .val (.int (3 : Int32)), .val (.ref b19), .val (.ref b21), .val (.ref b25), .val (.ref b29), .val (.ref b21), .val (.int (1 : Int32))] []))) (fun t ht => XS.ifNo X61.here hx rfl (hb hby at_140) rfl (XT.i0_eq_f ((by decide) : ¬ ((1 : Int32) = 0))) ht) ?_
    refine own_stepW (U' := (T61.setTop (mkF m 145 #[.val (.int p1), .val (.int (3 : Int32)), .val (.ref b19), .val (.ref b21), .val (.ref b25), .val (.ref b29), .val (.ref b21), .val (.int (1 : Int32))] [(.ref b25)]))) (fun t ht => XS.aload X61.here hx rfl (hb hby at_143) rfl rfl ht) ?_
    obtain ⟨cq62, kq62, q62a, q62b, q62c⟩ := isOf hZ e61 Fq59_5
    obtain ⟨_, _, ⟨T62, L62, k62, n62⟩, -, X62, ⟨Lc62, hQ62, l62, y62, z62⟩, st62⟩ := X61.virtualBackUp hx (x := (⟨"com/example/feuillet/feuillet/ProcessingInstruction", "getNextSibling", "()Lcom/example/feuillet/feuillet/Node;"⟩ : MethodName)) (y := (⟨"com/example/feuillet/feuillet/Node", "getNextSibling", "()Lcom/example/feuillet/feuillet/Node;"⟩ : MethodName)) hown (mvT hZ (hw _ (List.mem_of_getElem? (i := 51) rfl))) (mvT hZ (hw _ (List.mem_of_getElem? (i := 52) rfl))) (mvT hZ (hw _ (List.mem_of_getElem? (i := 53) rfl))) (by decide) (mvT hZ (hw _ (List.mem_of_getElem? (i := 55) rfl))) (mvT hZ (hw _ (List.mem_of_getElem? (i := 54) rfl))) (backOf (W := 0) (own_m_gns l Z a0 hw [] (b25) ((.ref b29)) T59.heap n0 (Nat.le_trans Z0 K59.1) Fq59_4 rfl) hZ (hw _ (List.mem_of_getElem? (i := 56) rfl)) (hw _ (List.mem_of_getElem? (i := 14) rfl)) (by decide) (by decide)) q62a q62c (g := (mkF m 145 #[.val (.int p1), .val (.int (3 : Int32)), .val (.ref b19), .val (.ref b21), .val (.ref b25), .val (.ref b29), .val (.ref b21), .val (.int (1 : Int32))] [(.ref b25)])) rfl (by rw [hml]; rfl) (Steps.refl _) (argsL := []) (rest := []) (lenOf own_pd2 rfl) rfl (by show 2 * 0 + _ ≤ _; exact Nat.le_of_eq rfl) (hb hby at_145) (fun _ _ => ⟨rfl, e61, (by decide : 16 + 0 ≤ _), (by decide : 64 + 0 ≤ _)⟩)
    dsimp only [Pt.U, Pt.locs, Pt.cells, Pt.slots] at X62 l62 y62 z62 st62 hQ62
    subst l62 y62 z62
    obtain ⟨rfl, Nq62, Kq62⟩ := hQ62
    have N62 := Fr.app N61 Nq62
    have e62 : T62.heap = T59.heap := Kq62
    refine own_stepW (U' := (T62.setTop (mkF m 148 #[.val (.int p1), .val (.int (3 : Int32)), .val (.ref b19), .val (.ref b21), .val (.ref b25), .val (.ref b29), .val (.ref b21), .val (.int (1 : Int32))] [(.ref b29)]))) (fun t ht => st62.trans ht) ?_
    refine own_stepW (U' := (T62.setTop (mkF m 149 #[.val (.int p1), .val (.int (3 : Int32)), .val (.ref b19), .val (.ref b21), .val (.ref b25), .val (.ref b29), .val (.ref b21), .val (.int (1 : Int32))] [(.int (3 : Int32)), (.ref b29)]))) (fun t ht => XS.iloadN X62.here hx rfl (hb hby at_148) rfl ht) ?_
    refine own_stepW (U' := (T62.setTop (mkF m 150 #[.val (.int p1), .val (.int (3 : Int32)), .val (.ref b19), .val (.ref b21), .val (.ref b25), .val (.ref b29), .val (.ref b21), .val (.int (1 : Int32))] [(.int (2 : Int32)), (.int (3 : Int32)), (.ref b29)]))) (fun t ht => XS.iconst X62.here hx rfl (hb hby at_149) ht) ?_
    refine own_stepW (U' := (T62.setTop (mkF m 153 #[.val (.int p1), .val (.int (3 : Int32)), .val (.ref b19), .val (.ref b21), .val (.ref b25), .val (.ref b29), .val (.ref b21), .val (.int (1 : Int32))] [(.ref b29)]))) (fun t ht => XS.icmpNo X62.here hx rfl (hb hby at_150) rfl (XT.ii_le_f ((by decide) : (2 : Int32) < (3 : Int32))) ht) ?_
    refine own_stepW (U' := (T62.setTop (mkF m 155 #[.val (.int p1), .val (.int (3 : Int32)), .val (.ref b19), .val (.ref b21), .val (.ref b25), .val (.ref b29), .val (.ref b21), .val (.int (1 : Int32))] [(.ref b29), (.ref b29)]))) (fun t ht => XS.aload X62.here hx rfl (hb hby at_153) rfl rfl ht) ?_
    refine own_stepW (U' := (T62.setTop (mkF m 159 #[.val (.int p1), .val (.int (3 : Int32)), .val (.ref b19), .val (.ref b21), .val (.ref b25), .val (.ref b29), .val (.ref b21), .val (.int (1 : Int32))] [(.ref b29), (.ref b29)]))) (fun t ht => XS.goto X62.here hx rfl (pc0 := 155) (pc' := 159) rfl (hb hby at_155) (by decide) (by decide) ht) ?_
    refine own_stepW (U' := (T62.setTop (mkF m 162 #[.val (.int p1), .val (.int (3 : Int32)), .val (.ref b19), .val (.ref b21), .val (.ref b25), .val (.ref b29), .val (.ref b21), .val (.int (1 : Int32))] []))) (fun t ht => Jvm.RoadKit.acmp (g := (mkF m 159 #[.val (.int p1), .val (.int (3 : Int32)), .val (.ref b19), .val (.ref b21), .val (.ref b25), .val (.ref b29), .val (.ref b21), .val (.int (1 : Int32))] [(.ref b29), (.ref b29)])) X62 hx rfl rfl rfl (pc0 := 159) (pc' := 162) (same := true) rfl (hb hby at_159) rfl (decide_eq_true (rfl : (.ref b29 : Value) = (.ref b29 : Value))) (by decide) (by decide) ht) ?_
    refine own_stepW (U' := (T62.setTop (mkF m 163 #[.val (.int p1), .val (.int (3 : Int32)), .val (.ref b19), .val (.ref b21), .val (.ref b25), .val (.ref b29), .val (.ref b21), .val (.int (1 : Int32))] [(.int (1 : Int32))]))) (fun t ht => XS.iconst X62.here hx rfl (hb hby at_162) ht) ?_
    refine own_stepW (U' := (T62.setTop (mkF m 167 #[.val (.int p1), .val (.int (3 : Int32)), .val (.ref b19), .val (.ref b21), .val (.ref b25), .val (.ref b29), .val (.ref b21), .val (.int (1 : Int32))] [(.int (1 : Int32))]))) (fun t ht => XS.goto X62.here hx rfl (pc0 := 163) (pc' := 167) rfl (hb hby at_163) (by decide) (by decide) ht) ?_
    refine own_stepW (U' := (T62.setTop (mkF m 169 #[.val (.int p1), .val (.int (3 : Int32)), .val (.ref b19), .val (.ref b21), .val (.ref b25), .val (.ref b29), .val (.ref b21), .val (.int (1 : Int32))] []))) (fun t ht => XS.istore X62.here hx rfl (hb hby at_167) rfl (l' := #[.val (.int p1), .val (.int (3 : Int32)), .val (.ref b19), .val (.ref b21), .val (.ref b25), .val (.ref b29), .val (.ref b21), .val (.int (1 : Int32))]) rfl ht) ?_
    refine own_stepW (U' := (T62.setTop (mkF m 171 #[.val (.int p1), .val (.int (3 : Int32)), .val (.ref b19), .val (.ref b21), .val (.ref b25), .val (.ref b29), .val (.ref b21), .val (.int (1 : Int32))] [(.int (1 : Int32))]))) (fun t ht => XS.iload X62.here hx rfl (hb hby at_169) rfl ht) ?_
    refine own_stepW (U' := (T62.setTop (mkF m 174 #[.val (.int p1), .val (.int (3 : Int32)), .val (.ref b19), .val (.ref b21), .val (.ref b25), .val (.ref b29), .val (.ref b21), .val (.int (1 : Int32))] []))) (fun t ht => XS.ifNo X62.here hx rfl (hb hby at_171) rfl (XT.i0_eq_f ((by decide) : ¬ ((1 : Int32) = 0))) ht) ?_
    refine own_stepW (U' := (T62.setTop (mkF m 176 #[.val (.int p1), .val (.int (3 : Int32)), .val (.ref b19), .val (.ref b21), .val (.ref b25), .val (.ref b29), .val (.ref b21), .val (.int (1 : Int32))] [(.ref b29)]))) (fun t ht => XS.aload X62.here hx rfl (hb hby at_174) rfl rfl ht) ?_
    obtain ⟨cq63, kq63, q63a, q63b, q63c⟩ := isOf hZ e62 Fq59_2
    obtain ⟨_, _, ⟨T63, L63, k63, n63⟩, -, X63, ⟨Lc63, hQ63, l63, y63, z63⟩, st63⟩ := X62.virtualBackUp hx (x := (⟨"com/example/feuillet/feuillet/ProcessingInstruction", "getNextSibling", "()Lcom/example/feuillet/feuillet/Node;"⟩ : MethodName)) (y := (⟨"com/example/feuillet/feuillet/Node", "getNextSibling", "()Lcom/example/feuillet/feuillet/Node;"⟩ : MethodName)) hown (mvT hZ (hw _ (List.mem_of_getElem? (i := 51) rfl))) (mvT hZ (hw _ (List.mem_of_getElem? (i := 52) rfl))) (mvT hZ (hw _ (List.mem_of_getElem? (i := 53) rfl))) (by decide) (mvT hZ (hw _ (List.mem_of_getElem? (i := 55) rfl))) (mvT hZ (hw _ (List.mem_of_getElem? (i := 54) rfl))) (backOf (W := 0) (own_m_gns l Z a0 hw [] (b29) (.null) T59.heap n0 (Nat.le_trans Z0 K59.1) Fq59_1 rfl) hZ (hw _ (List.mem_of_getElem? (i := 56) rfl)) (hw _ (List.mem_of_getElem? (i := 14) rfl)) (by decide) (by decide)) q63a q63c (g := (mkF m 176 #[.val (.int p1), .val (.int (3 : Int32)), .val (.ref b19), .val (.ref b21), .val (.ref b25), .val (.ref b29), .val (.ref b21), .val (.int (1 : Int32))] [(.ref b29)])) rfl (by rw [hml]; rfl) (Steps.refl _) (argsL := []) (rest := []) (lenOf own_pd2 rfl) rfl (by show 2 * 0 + _ ≤ _; exact Nat.le_of_eq rfl) (hb hby at_176) (fun _ _ => ⟨rfl, e62, (by decide : 16 + 0 ≤ _), (by decide : 64 + 0 ≤ _)⟩)
    dsimp only [Pt.U, Pt.locs, Pt.cells, Pt.slots] at X63 l63 y63 z63 st63 hQ63
    subst l63 y63 z63
    obtain ⟨rfl, Nq63, Kq63⟩ := hQ63
    have N63 := Fr.app N62 Nq63
    have e63 : T63.heap = T59.heap := Kq63
    refine own_stepW (U' := (T63.setTop (mkF m 179 #[.val (.int p1), .val (.int (3 : Int32)), .val (.ref b19), .val (.ref b21), .val (.ref b25), .val (.ref b29), .val (.ref b21), .val (.int (1 : Int32))] [.null]))) (fun t ht => st63.trans ht) ?_
    refine own_stepW (U' := (T63.setTop (mkF m 182 #[.val (.int p1), .val (.int (3 : Int32)), .val (.ref b19), .val (.ref b21), .val (.ref b25), .val (.ref b29), .val (.ref b21), .val (.int (1 : Int32))] []))) (fun t ht => XT.nonnullNo X63.here hx rfl (hb hby at_179) rfl rfl ht) ?_
    refine own_stepW (U' := (T63.setTop (mkF m 183 #[.val (.int p1), .val (.int (3 : Int32)), .val (.ref b19), .val (.ref b21), .val (.ref b25), .val (.ref b29), .val (.ref b21), .val (.int (1 : Int32))] [(.int (1 : Int32))]))) (fun t ht => XS.iconst X63.here hx rfl (hb hby at_182) ht) ?_
    refine own_stepW (U' := (T63.setTop (mkF m 187 #[.val (.int p1), .val (.int (3 : Int32)), .val (.ref b19), .val (.ref b21), .val (.ref b25), .val (.ref b29), .val (.ref b21), .val (.int (1 : Int32))] [(.int (1 : Int32))]))) (fun t ht => XS.goto X63.here hx rfl (pc0 := 183) (pc' := 187) rfl (hb hby at_183) (by decide) (by decide) ht) ?_
    refine own_stepW (U' := (T63.setTop (mkF m 189 #[.val (.int p1), .val (.int (3 : Int32)), .val (.ref b19), .val (.ref b21), .val (.ref b25), .val (.ref b29), .val (.ref b21), .val (.int (1 : Int32))] []))) (fun t ht => XS.istore X63.here hx rfl (hb hby at_187) rfl (l' := #[.val (.int p1), .val (.int (3 : Int32)), .val (.ref b19), .val (.ref b21), .val (.ref b25), .val (.ref b29), .val (.ref b21), .val (.int (1 : Int32))]) rfl ht) ?_
    refine own_stepW (U' := (T63.setTop (mkF m 191 #[.val (.int p1), .val (.int (3 : Int32)), .val (.ref b19), .val (.ref b21), .val (.ref b25), .val (.ref b29), .val (.ref b21), .val (.int (1 : Int32))] [(.int (1 : Int32))]))) (fun t ht => XS.iload X63.here hx rfl (hb hby at_189) rfl ht) ?_
    refine own_stepW (U' := (T63.setTop (mkF m 194 #[.val (.int p1), .val (.int (3 : Int32)), .val (.ref b19), .val (.ref b21), .val (.ref b25), .val (.ref b29), .val (.ref b21), .val (.int (1 : Int32))] []))) (fun t ht => XS.ifNo X63.here hx rfl (hb hby at_191) rfl (XT.i0_eq_f ((by decide) : ¬ ((1 : Int32) = 0))) ht) ?_
    refine own_stepW (U' := (T63.setTop (mkF m 195 #[.val (.int p1), .val (.int (3 : Int32)), .val (.ref b19), .val (.ref b21), .val (.ref b25), .val (.ref b29), .val (.ref b21), .val (.int (1 : Int32))] [(.ref b21)]))) (fun t ht => XS.aloadN X63.here hx rfl (hb hby at_194) rfl rfl ht) ?_
    obtain ⟨cq64, kq64, q64a, q64b, q64c⟩ := isOf hZ e63 f59_9
    obtain ⟨_, _, ⟨T64, L64, k64, n64⟩, -, X64, ⟨Lc64, hQ64, l64, y64, z64⟩, st64⟩ := X63.virtualBackUp hx (x := (⟨"com/example/feuillet/feuillet/ProcessingInstruction", "getParentNode", "()Lcom/example/feuillet/feuillet/Node$Parent;"⟩ : MethodName)) (y := (⟨"com/example/feuillet/feuillet/Node", "getParentNode", "()Lcom/example/feuillet/feuillet/Node$Parent;"⟩ : MethodName)) hown (mvT hZ (hw _ (List.mem_of_getElem? (i := 59) rfl))) (mvT hZ (hw _ (List.mem_of_getElem? (i := 60) rfl))) (mvT hZ (hw _ (List.mem_of_getElem? (i := 61) rfl))) (by decide) (mvT hZ (hw _ (List.mem_of_getElem? (i := 63) rfl))) (mvT hZ (hw _ (List.mem_of_getElem? (i := 62) rfl))) (backOf (W := 0) (own_m_gpn l Z a0 hw [] (b21) ((.ref b19)) T59.heap n0 (Nat.le_trans Z0 K59.1) f59_7 rfl) hZ (hw _ (List.mem_of_getElem? (i := 64) rfl)) (hw _ (List.mem_of_getElem? (i := 14) rfl)) (by decide) (by decide)) q64a q64c (g := (mkF m 195 #[.val (.int p1), .val (.int (3 : Int32)), .val (.ref b19), .val (.ref b21), .val (.ref b25), .val (.ref b29), .val (.ref b21), .val (.int (1 : Int32))] [(.ref b21)])) rfl (by rw [hml]; rfl) (Steps.refl _) (argsL := []) (rest := []) (lenOf own_pd3 rfl) rfl (by show 2 * 0 + _ ≤ _; exact Nat.le_of_eq rfl) (hb hby at_195) (fun _ _ => ⟨rfl, e63, (by decide : 16 + 0 ≤ _), (by decide : 64 + 0 ≤ _)⟩)
    dsimp only [Pt.U, Pt.locs, Pt.cells, Pt.slots] at X64 l64 y64 z64 st64 hQ64
    subst l64 y64 z64
    obtain ⟨rfl, Nq64, Kq64⟩ := hQ64
    have N64 := Fr.app N63 Nq64
    have e64 : T64.heap = T59.heap := Kq64
    refine own_stepW (U' := (T64.setTop (mkF m 198 #[.val (.int p1), .val (.int (3 : Int32)), .val (.ref b19), .val (.ref b21), .val (.ref b25), .val (.ref b29), .val (.ref b21), .val (.int (1 : Int32))] [(.ref b19)]))) (fun t ht => st64.trans ht) ?_
    refine own_stepW (U' := (T64.setTop (mkF m 199 #[.val (.int p1), .val (.int (3 : Int32)), .val (.ref b19), .val (.ref b21), .val (.ref b25), .val (.ref b29), .val (.ref b21), .val (.int (1 : Int32))] [(.int (3 : Int32)), (.ref b19)]))) (fun t ht => XS.iloadN X64.here hx rfl (hb hby at_198) rfl ht) ?_
    refine own_stepW (U' := (T64.setTop (mkF m 202 #[.val (.int p1), .val (.int (3 : Int32)), .val (.ref b19), .val (.ref b21), .val (.ref b25), .val (.ref b29), .val (.ref b21), .val (.int (1 : Int32))] [(.ref b19)]))) (fun t ht => XS.ifNo X64.here hx rfl (hb hby at_199) rfl (XT.i0_le_f ((by decide) : 0 < (3 : Int32))) ht) ?_
    refine own_stepW (U' := (T64.setTop (mkF m 203 #[.val (.int p1), .val (.int (3 : Int32)), .val (.ref b19), .val (.ref b21), .val (.ref b25), .val (.ref b29), .val (.ref b21), .val (.int (1 : Int32))] [(.ref b19), (.ref b19)]))) (fun t ht => XS.aloadN X64.here hx rfl (hb hby at_202) rfl rfl ht) ?_
    refine own_stepW (U' := (T64.setTop (mkF m 207 #[.val (.int p1), .val (.int (3 : Int32)), .val (.ref b19), .val (.ref b21), .val (.ref b25), .val (.ref b29), .val (.ref b21), .val (.int (1 : Int32))] [(.ref b19), (.ref b19)]))) (fun t ht => XS.goto X64.here hx rfl (pc0 := 203) (pc' := 207) rfl (hb hby at_203) (by decide) (by decide) ht) ?_
    refine own_stepW (U' := (T64.setTop (mkF m 210 #[.val (.int p1), .val (.int (3 : Int32)), .val (.ref b19), .val (.ref b21), .val (.ref b25), .val (.ref b29), .val (.ref b21), .val (.int (1 : Int32))] []))) (fun t ht => Jvm.RoadKit.acmp (g := (mkF m 207 #[.val (.int p1), .val (.int (3 : Int32)), .val (.ref b19), .val (.ref b21), .val (.ref b25), .val (.ref b29), .val (.ref b21), .val (.int (1 : Int32))] [(.ref b19), (.ref b19)])) X64 hx rfl rfl rfl (pc0 := 207) (pc' := 210) (same := true) rfl (hb hby at_207) rfl (decide_eq_true (rfl : (.ref b19 : Value) = (.ref b19 : Value))) (by decide) (by decide) ht) ?_
    refine own_stepW (U' := (T64.setTop (mkF m 211 #[.val (.int p1), .val (.int (3 : Int32)), .val (.ref b19), .val (.ref b21), .val (.ref b25), .val (.ref b29), .val (.ref b21), .val (.int (1 : Int32))] [(.int (1 : Int32))]))) (fun t ht => XS.iconst X64.here hx rfl (hb hby at_210) ht) ?_
    refine own_stepW (U' := (T64.setTop (mkF m 215 #[.val (.int p1), .val (.int (3 : Int32)), .val (.ref b19), .val (.ref b21), .val (.ref b25), .val (.ref b29), .val (.ref b21), .val (.int (1 : Int32))] [(.int (1 : Int32))]))) (fun t ht => XS.goto X64.here hx rfl (pc0 := 211) (pc' := 215) rfl (hb hby at_211) (by decide) (by decide) ht) ?_
    refine own_stepW (U' := (T64.setTop (mkF m 217 #[.val (.int p1), .val (.int (3 : Int32)), .val (.ref b19), .val (.ref b21), .val (.ref b25), .val (.ref b29), .val (.ref b21), .val (.int (1 : Int32))] []))) (fun t ht => XS.istore X64.here hx rfl (hb hby at_215) rfl (l' := #[.val (.int p1), .val (.int (3 : Int32)), .val (.ref b19), .val (.ref b21), .val (.ref b25), .val (.ref b29), .val (.ref b21), .val (.int (1 : Int32))]) rfl ht) ?_
    refine own_stepW (U' := (T64.setTop (mkF m 219 #[.val (.int p1), .val (.int (3 : Int32)), .val (.ref b19), .val (.ref b21), .val (.ref b25), .val (.ref b29), .val (.ref b21), .val (.int (1 : Int32))] [(.int (1 : Int32))]))) (fun t ht => XS.iload X64.here hx rfl (hb hby at_217) rfl ht) ?_
    refine own_stepW (U' := (T64.setTop (mkF m 222 #[.val (.int p1), .val (.int (3 : Int32)), .val (.ref b19), .val (.ref b21), .val (.ref b25), .val (.ref b29), .val (.ref b21), .val (.int (1 : Int32))] []))) (fun t ht => XS.ifNo X64.here hx rfl (hb hby at_219) rfl (XT.i0_eq_f ((by decide) : ¬ ((1 : Int32) = 0))) ht) ?_
    refine own_stepW (U' := (T64.setTop (mkF m 224 #[.val (.int p1), .val (.int (3 : Int32)), .val (.ref b19), .val (.ref b21), .val (.ref b25), .val (.ref b29), .val (.ref b21), .val (.int (1 : Int32))] [(.ref b25)]))) (fun t ht => XS.aload X64.here hx rfl (hb hby at_222) rfl rfl ht) ?_
    obtain ⟨cq65, kq65, q65a, q65b, q65c⟩ := isOf hZ e64 Fq59_5
    obtain ⟨_, _, ⟨T65, L65, k65, n65⟩, -, X65, ⟨Lc65, hQ65, l65, y65, z65⟩, st65⟩ := X64.virtualBackUp hx (x := (⟨"com/example/feuillet/feuillet/ProcessingInstruction", "getParentNode", "()Lcom/example/feuillet/feuillet/Node$Parent;"⟩ : MethodName)) (y := (⟨"com/example/feuillet/feuillet/Node", "getParentNode", "()Lcom/example/feuillet/feuillet/Node$Parent;"⟩ : MethodName)) hown (mvT hZ (hw _ (List.mem_of_getElem? (i := 59) rfl))) (mvT hZ (hw _ (List.mem_of_getElem? (i := 60) rfl))) (mvT hZ (hw _ (List.mem_of_getElem? (i := 61) rfl))) (by decide) (mvT hZ (hw _ (List.mem_of_getElem? (i := 63) rfl))) (mvT hZ (hw _ (List.mem_of_getElem? (i := 62) rfl))) (backOf (W := 0) (own_m_gpn l Z a0 hw [] (b25) ((.ref b19)) T59.heap n0 (Nat.le_trans Z0 K59.1) Fq59_3 rfl) hZ (hw _ (List.mem_of_getElem? (i := 64) rfl)) (hw _ (List.mem_of_getElem? (i := 14) rfl)) (by decide) (by decide)) q65a q65c (g := (mkF m 224 #[.val (.int p1), .val (.int (3 : Int32)), .val (.ref b19), .val (.ref b21), .val (.ref b25), .val (.ref b29), .val (.ref b21), .val (.int (1 : Int32))] [(.ref b25)])) rfl (by rw [hml]; rfl) (Steps.refl _) (argsL := []) (rest := []) (lenOf own_pd3 rfl) rfl (by show 2 * 0 + _ ≤ _; exact Nat.le_of_eq rfl) (hb hby at_224) (fun _ _ => ⟨rfl, e64, (by decide : 16 + 0 ≤ _), (by decide : 64 + 0 ≤ _)⟩)
    dsimp only [Pt.U, Pt.locs, Pt.cells, Pt.slots] at X65 l65 y65 z65 st65 hQ65
    subst l65 y65 z65
    obtain ⟨rfl, Nq65, Kq65⟩ := hQ65
    have N65 := Fr.app N64 Nq65
    have e65 : T65.heap = T59.heap := Kq65
    refine own_stepW (U' := (T65.setTop (mkF m 227 #[.val (.int p1), .val (.int (3 : Int32)), .val (.ref b19), .val (.ref b21), .val (.ref b25), .val (.ref b29), .val (.ref b21), .val (.int (1 : Int32))] [(.ref b19)]))) (fun t ht => st65.trans ht) ?_
    refine own_stepW (U' := (T65.setTop (mkF m 228 #[.val (.int p1), .val (.int (3 : Int32)), .val (.ref b19), .val (.ref b21), .val (.ref b25), .val (.ref b29), .val (.ref b21), .val (.int (1 : Int32))] [(.int (3 : Int32)), (.ref b19)]))) (fun t ht => XS.iloadN X65.here hx rfl (hb hby at_227) rfl ht) ?_
    refine own_stepW (U' := (T65.setTop (mkF m 229 #[.val (.int p1), .val (.int (3 : Int32)), .val (.ref b19), .val (.ref b21), .val (.ref b25), .val (.ref b29), .val (.ref b21), .val (.int (1 : Int32))] [(.int (1 : Int32)), (.int (3 : Int32)), (.ref b19)]))) (fun t ht => XS.iconst X65.here hx rfl (hb hby at_228) ht) ?_
    refine own_stepW (U' := (T65.setTop (mkF m 232 #[.val (.int p1), .val (.int (3 : Int32)), .val (.ref b19), .val (.ref b21), .val (.ref b25), .val (.ref b29), .val (.ref b21), .val (.int (1 : Int32))] [(.ref b19)]))) (fun t ht => XS.icmpNo X65.here hx rfl (hb hby at_229) rfl (XT.ii_le_f ((by decide) : (1 : Int32) < (3 : Int32))) ht) ?_
    refine own_stepW (U' := (T65.setTop (mkF m 233 #[.val (.int p1), .val (.int (3 : Int32)), .val (.ref b19), .val (.ref b21), .val (.ref b25), .val (.ref b29), .val (.ref b21), .val (.int (1 : Int32))] [(.ref b19), (.ref b19)]))) (fun t ht => XS.aloadN X65.here hx rfl (hb hby at_232) rfl rfl ht) ?_
    refine own_stepW (U' := (T65.setTop (mkF m 237 #[.val (.int p1), .val (.int (3 : Int32)), .val (.ref b19), .val (.ref b21), .val (.ref b25), .val (.ref b29), .val (.ref b21), .val (.int (1 : Int32))] [(.ref b19), (.ref b19)]))) (fun t ht => XS.goto X65.here hx rfl (pc0 := 233) (pc' := 237) rfl (hb hby at_233) (by decide) (by decide) ht) ?_
    refine own_stepW (U' := (T65.setTop (mkF m 240 #[.val (.int p1), .val (.int (3 : Int32)), .val (.ref b19), .val (.ref b21), .val (.ref b25), .val (.ref b29), .val (.ref b21), .val (.int (1 : Int32))] []))) (fun t ht => Jvm.RoadKit.acmp (g := (mkF m 237 #[.val (.int p1), .val (.int (3 : Int32)), .val (.ref b19), .val (.ref b21), .val (.ref b25), .val (.ref b29), .val (.ref b21), .val (.int (1 : Int32))] [(.ref b19), (.ref b19)])) X65 hx rfl rfl rfl (pc0 := 237) (pc' := 240) (same := true) rfl (hb hby at_237) rfl (decide_eq_true (rfl : (.ref b19 : Value) = (.ref b19 : Value))) (by decide) (by decide) ht) ?_
    refine own_stepW (U' := (T65.setTop (mkF m 241 #[.val (.int p1), .val (.int (3 : Int32)), .val (.ref b19), .val (.ref b21), .val (.ref b25), .val (.ref b29), .val (.ref b21), .val (.int (1 : Int32))] [(.int (1 : Int32))]))) (fun t ht => XS.iconst X65.here hx rfl (hb hby at_240) ht) ?_
    refine own_stepW (U' := (T65.setTop (mkF m 245 #[.val (.int p1), .val (.int (3 : Int32)), .val (.ref b19), .val (.ref b21), .val (.ref b25), .val (.ref b29), .val (.ref b21), .val (.int (1 : Int32))] [(.int (1 : Int32))]))) (fun t ht => XS.goto X65.here hx rfl (pc0 := 241) (pc' := 245) rfl (hb hby at_241) (by decide) (by decide) ht) ?_
    refine own_stepW (U' := (T65.setTop (mkF m 247 #[.val (.int p1), .val (.int (3 : Int32)), .val (.ref b19), .val (.ref b21), .val (.ref b25), .val (.ref b29), .val (.ref b21), .val (.int (1 : Int32))] []))) (fun t ht => XS.istore X65.here hx rfl (hb hby at_245) rfl (l' := #[.val (.int p1), .val (.int (3 : Int32)), .val (.ref b19), .val (.ref b21), .val (.ref b25), .val (.ref b29), .val (.ref b21), .val (.int (1 : Int32))]) rfl ht) ?_
    refine own_stepW (U' := (T65.setTop (mkF m 249 #[.val (.int p1), .val (.int (3 : Int32)), .val (.ref b19), .val (.ref b21), .val (.ref b25), .val (.ref b29), .val (.ref b21), .val (.int (1 : Int32))] [(.int (1 : Int32))]))) (fun t ht => XS.iload X65.here hx rfl (hb hby at_247) rfl ht) ?_
    refine own_stepW (U' := (T65.setTop (mkF m 252 #[.val (.int p1), .val (.int (3 : Int32)), .val (.ref b19), .val (.ref b21), .val (.ref b25), .val (.ref b29), .val (.ref b21), .val (.int (1 : Int32))] []))) (fun t ht => XS.ifNo X65.here hx rfl (hb hby at_249) rfl (XT.i0_eq_f ((by decide) : ¬ ((1 : Int32) = 0))) ht) ?_
    refine own_stepW (U' := (T65.setTop (mkF m 254 #[.val (.int p1), .val (.int (3 : Int32)), .val (.ref b19), .val (.ref b21), .val (.ref b25), .val (.ref b29), .val (.ref b21), .val (.int (1 : Int32))] [(.ref b29)]))) (fun t ht => XS.aload X65.here hx rfl (hb hby at_252) rfl rfl ht) ?_
    obtain ⟨cq66, kq66, q66a, q66b, q66c⟩ := isOf hZ e65 Fq59_2
    obtain ⟨_, _, ⟨T66, L66, k66, n66⟩, -, X66, ⟨Lc66, hQ66, l66, y66, z66⟩, st66⟩ := X65.virtualBackUp hx (x := (⟨"com/example/feuillet/feuillet/ProcessingInstruction", "getParentNode", "()Lcom/example/feuillet/feuillet/Node$Parent;"⟩ : MethodName)) (y := (⟨"com/example/feuillet/feuillet/Node", "getParentNode", "()Lcom/example/feuillet/feuillet/Node$Parent;"⟩ : MethodName)) hown (mvT hZ (hw _ (List.mem_of_getElem? (i := 59) rfl))) (mvT hZ (hw _ (List.mem_of_getElem? (i := 60) rfl))) (mvT hZ (hw _ (List.mem_of_getElem? (i := 61) rfl))) (by decide) (mvT hZ (hw _ (List.mem_of_getElem? (i := 63) rfl))) (mvT hZ (hw _ (List.mem_of_getElem? (i := 62) rfl))) (backOf (W := 0) (own_m_gpn l Z a0 hw [] (b29) ((.ref b19)) T59.heap n0 (Nat.le_trans Z0 K59.1) Fq59_0 rfl) hZ (hw _ (List.mem_of_getElem? (i := 64) rfl)) (hw _ (List.mem_of_getElem? (i := 14) rfl)) (by decide) (by decide)) q66a q66c (g := (mkF m 254 #[.val (.int p1), .val (.int (3 : Int32)), .val (.ref b19), .val (.ref b21), .val (.ref b25), .val (.ref b29), .val (.ref b21), .val (.int (1 : Int32))] [(.ref b29)])) rfl (by rw [hml]; rfl) (Steps.refl _) (argsL := []) (rest := []) (lenOf own_pd3 rfl) rfl (by show 2 * 0 + _ ≤ _; exact Nat.le_of_eq rfl) (hb hby at_254) (fun _ _ => ⟨rfl, e65, (by decide : 16 + 0 ≤ _), (by decide : 64 + 0 ≤ _)⟩)
    dsimp only [Pt.U, Pt.locs, Pt.cells, Pt.slots] at X66 l66 y66 z66 st66 hQ66
    subst l66 y66 z66
    obtain ⟨rfl, Nq66, Kq66⟩ := hQ66
    have N66 := Fr.app N65 Nq66
    have e66 : T66.heap = T59.heap := Kq66
    refine own_stepW (U' := (T66.setTop (mkF m 257 #[.val (.int p1), .val (.int (3 : Int32)), .val (.ref b19), .val (.ref b21), .val (.ref b25), .val (.ref b29), .val (.ref b21), .val (.int (1 : Int32))] [(.ref b19)]))) (fun t ht => st66.trans ht) ?_
    refine own_stepW (U' := (T66.setTop (mkF m 258 #[.val (.int p1), .val (.int (3 : Int32)), .val (.ref b19), .val (.ref b21), .val (.ref b25), .val (.ref b29), .val (.ref b21), .val (.int (1 : Int32))] [(.int (3 : Int32)), (.ref b19)]))) (fun t ht => XS.iloadN X66.here hx rfl (hb hby at_257) rfl ht) ?_
    refine own_stepW (U' := (T66.setTop (mkF m 259 #[.val (.int p1), .val (.int (3 : Int32)), .val (.ref b19), .val (.ref b21), .val (.ref b25), .val (.ref b29), .val (.ref b21), .val (.int (1 : Int32))] [(.int (2 : Int32)), (.int (3 : Int32)), (.ref b19)]))) (fun t ht => XS.iconst X66.here hx rfl (hb hby at_258) ht) ?_
    refine own_stepW (U' := (T66.setTop (mkF m 262 #[.val (.int p1), .val (.int (3 : Int32)), .val (.ref b19), .val (.ref b21), .val (.ref b25), .val (.ref b29), .val (.ref b21), .val (.int (1 : Int32))] [(.ref b19)]))) (fun t ht => XS.icmpNo X66.here hx rfl (hb hby at_259) rfl (XT.ii_le_f ((by decide) : (2 : Int32) < (3 : Int32))) ht) ?_
    refine own_stepW (U' := (T66.setTop (mkF m 263 #[.val (.int p1), .val (.int (3 : Int32)), .val (.ref b19), .val (.ref b21), .val (.ref b25), .val (.ref b29), .val (.ref b21), .val (.int (1 : Int32))] [(.ref b19), (.ref b19)]))) (fun t ht => XS.aloadN X66.here hx rfl (hb hby at_262) rfl rfl ht) ?_
    refine own_stepW (U' := (T66.setTop (mkF m 267 #[.val (.int p1), .val (.int (3 : Int32)), .val (.ref b19), .val (.ref b21), .val (.ref b25), .val (.ref b29), .val (.ref b21), .val (.int (1 : Int32))] [(.ref b19), (.ref b19)]))) (fun t ht => XS.goto X66.here hx rfl (pc0 := 263) (pc' := 267) rfl (hb hby at_263) (by decide) (by decide) ht) ?_
    refine own_stepW (U' := (T66.setTop (mkF m 270 #[.val (.int p1), .val (.int (3 : Int32)), .val (.ref b19), .val (.ref b21), .val (.ref b25), .val (.ref b29), .val (.ref b21), .val (.int (1 : Int32))] []))) (fun t ht => Jvm.RoadKit.acmp (g := (mkF m 267 #[.val (.int p1), .val (.int (3 : Int32)), .val (.ref b19), .val (.ref b21), .val (.ref b25), .val (.ref b29), .val (.ref b21), .val (.int (1 : Int32))] [(.ref b19), (.ref b19)])) X66 hx rfl rfl rfl (pc0 := 267) (pc' := 270) (same := true) rfl (hb hby at_267) rfl (decide_eq_true (rfl : (.ref b19 : Value) = (.ref b19 : Value))) (by decide) (by decide) ht) ?_
    refine own_stepW (U' := (T66.setTop (mkF m 271 #[.val (.int p1), .val (.int (3 : Int32)), .val (.ref b19), .val (.ref b21), .val (.ref b25), .val (.ref b29), .val (.ref b21), .val (.int (1 : Int32))] [(.int (1 : Int32))]))) (fun t ht => XS.iconst X66.here hx rfl (hb hby at_270) ht) ?_
    refine own_stepW (U' := (T66.setTop (mkF m 275 #[.val (.int p1), .val (.int (3 : Int32)), .val (.ref b19), .val (.ref b21), .val (.ref b25), .val (.ref b29), .val (.ref b21), .val (.int (1 : Int32))] [(.int (1 : Int32))]))) (fun t ht => XS.goto X66.here hx rfl (pc0 := 271) (pc' := 275) rfl (hb hby at_271) (by decide) (by decide) ht) ?_
    refine own_stepW (U' := (T66.setTop (mkF m 277 #[.val (.int p1), .val (.int (3 : Int32)), .val (.ref b19), .val (.ref b21), .val (.ref b25), .val (.ref b29), .val (.ref b21), .val (.int (1 : Int32))] []))) (fun t ht => XS.istore X66.here hx rfl (hb hby at_275) rfl (l' := #[.val (.int p1), .val (.int (3 : Int32)), .val (.ref b19), .val (.ref b21), .val (.ref b25), .val (.ref b29), .val (.ref b21), .val (.int (1 : Int32))]) rfl ht) ?_
    refine own_stepW (U' := (T66.setTop (mkF m 279 #[.val (.int p1), .val (.int (3 : Int32)), .val (.ref b19), .val (.ref b21), .val (.ref b25), .val (.ref b29), .val (.ref b21), .val (.int (1 : Int32))] [(.int (1 : Int32))]))) (fun t ht => XS.iload X66.here hx rfl (hb hby at_277) rfl ht) ?_
    refine own_retW X66 hS31 (by rw [e66]; exact f59_0) (v := (some (.int (nar .boolean (1 : Int32))))) (fun h => by rw [Bd.returns] at h; cases h) Bd.notSynchronized (by decide) (by decide) ?_ (fun fs hr => retN X66 hx (t := .boolean) Bd.returns (by simp) (hb hby at_279) hr)
    show own_Q_law Z p1 h0 n0 _ T66.heap _
    rw [e66]
    exact ⟨rfl, N66⟩
set_option maxRecDepth 65536 in
set_option maxHeartbeats 40000000 in
theorem own_comes {Post : Tables → Env → Array Value → State → Outcome → State → Prop} (hpost : ∀ tb e args s v u, (limb_1_1.after args s (.returned v) u = true ∧ limb_1_2.after args s (.returned v) u = true ∧ True) → ReturnedEndW s (.returned v) u (Jvm.fieldLocs frame_1_writes args s ++ Jvm.arrayLocs frame_1_arrays args s ++ Jvm.staticLocs frame_1_statics s) 32 6272 → Post tb e args s (.returned v) u) :
    ArmFor flags0 classFile x code maxLocals ret World_1 tables_1 room_1 Calls_1 rest_1 Pre_1 Post := by
  intro l hfl _ _ p e ha hc hk s m args below hf hA hF happ hP
  obtain ⟨hcalls, hrest, hpre⟩ := hP
  obtain ⟨-, -, -, hnamed, -, -, -, hat⟩ := (Spec.applies_iff hf).mp happ
  obtain ⟨hg, hn⟩ := and_e (Cond.before_iff.mp (show (Jvm.Cond.and given_1 narrow_1).before args s = true from hpre))
  obtain ⟨hcount, q0⟩ := and_e hg
  have a0 := q0
  obtain ⟨w0, rfl⟩ : ∃ w0 : Value, args = #[w0] := by
    have hs : args.size = 1 := by simpa [Cond.value, given_1] using hcount
    obtain ⟨L⟩ := args
    match L, hs with
    | [w0], _ => exact ⟨w0, rfl⟩
  obtain ⟨i0, e0⟩ := is_v a0
  obtain rfl : w0 = (.int i0) := Option.some.inj e0
  have hw := fun d (hd : d ∈ tables_1) => atoms_spec (ws := Jvm.Cond.code x code maxLocals ret :: tables_1) hat d (List.mem_cons_of_mem _ hd)
  have hfit : Fit s := fun {y c} hc i hi => by
    obtain ⟨ha, rfl⟩ := Array.getElem?_eq_some_iff.mp hc
    have q := List.all_eq_true.mp ((Array.all_eq_true_iff_forall_mem.mp hF) _ (Array.getElem_mem ha)) i (List.mem_range.mpr hi)
    simpa [Array.getElem?_eq_getElem hi] using q

  obtain ⟨n, o, h1, h2, h3, _, L, rfl, ⟨rfl, N⟩, hq⟩ := own_m_law l s _ hw tables_1 i0  s.heap s.heap.size (Nat.le_refl _)  p e ha hc hk s m _ below hf ((Spec.applies_iff_loose hf).mp happ).1 ⟨rfl, State.Warmed39.refl s, rfl⟩ trivial
  refine ⟨n, _, h1, h2, h3, hpost _ _ _ _ _ _ ⟨Cond.after_iff.mpr rfl, Cond.after_iff.mpr (eq_i res_at (Term.int_eval (1)) rfl), trivial⟩ ⟨hq.1, hq.2.1, hq.2.2.1, (hq.2.2.2.sift fun y hy => Or.inr (N y hy)).mono (by decide) (by decide)⟩⟩
theorem main_1_1 : Claimed_1_1 := own_comes fun _ _ _ _ _ _ h hF => ⟨h.1, hF⟩
theorem main_1_2 : Claimed_1_2 := own_comes fun _ _ _ _ _ _ h hF => ⟨h.2.1, hF⟩
end Jvm.Pilot.@@N@@
namespace Jvm.Pilot.@@N@@
open Jvm Jvm.ClassFile Sem Op Lib Jvm.Free Jvm.Stand Jvm.Pilot.@@N@@.Jvm.D
/-! MADE BY PROGRAM (witnessworld.py) out of the Statement's table words and the real class files: 17 classes; the members and pool entries that the words name. The judged class is class 1, her method 1. -/
namespace start1
open Jvm.ClassFile
def u (s : String) : CpInfo := .utf8 (stringToUtf16 s)
/-- a pool by its gaps: so many unusable entries, then the entry; so many at the end -/
def gap : Nat → List CpInfo → List CpInfo
  | 0, r => r
  | n + 1, r => .unusable :: gap n r
def poolList (es : List (Nat × CpInfo)) (last : Nat) : List CpInfo := es.foldr (fun e r => gap e.1 (e.2 :: r)) (gap last [])
def pool (es : List (Nat × CpInfo)) (last : Nat) : Array CpInfo := ⟨poolList es last⟩
def fileOf (pool : Array CpInfo) (this : Nat) (attrs : Array Attribute := #[]) (ms : Array MethodInfo := #[]) (fl : Nat := 33) (sup : Nat := 0) (ifs : Array Nat := #[]) (fds : Array FieldInfo := #[]) : ClassFile where
  minorVersion := 0
  majorVersion := 65
  constantPool := pool
  accessFlags := fl
  thisClass := this
  superClass := sup
  interfaces := ifs
  fields := fds
  methods := ms
  attributes := attrs
def plain (name : String) (sup : Option ClassId) : Class where
  name := name
  kind := .ordinary
  loader := none
  accessFlags := 33
  super := sup
  interfaces := #[]
  cf := none
  fields := #[]
  methods := #[]
  instanceTypes := #[]
  staticTypes := #[]
  resolved := #[]
  callSites := []
  init := .initialized
  statics := none
  mirror := none

def pool0 : Array CpInfo := pool [(5, u "<init>"), (0, u "()V"), (1, .class_ 10), (1, u "java/lang/Object")] 113

def k0c0 : Code := { maxStack := 0, maxLocals := 1, code := object_method_1_code, exceptionTable := #[], attributes := #[] }
def k0m0 : Method := { name := "<init>", desc := "()V", sig := { parameters := [], returnType := none }, accessFlags := 1, code := some k0c0 }
/-- java/lang/Object -/
def k0 : Class := { plain "java/lang/Object" none with
  accessFlags := 33
  interfaces := #[]
  cf := some (fileOf pool0 8 #[] #[{ accessFlags := 1, nameIndex := 5, descriptorIndex := 6, attributes := #[] }] 33 0 #[] #[])
  fields := #[]
  methods := #[k0m0]
  instanceTypes := #[]
  staticTypes := #[]
  resolved := Array.replicate 124 none
  statics := none }

def pool1 : Array CpInfo := pool [(2, .class_ 4), (0, .nameAndType 5 6), (0, u "java/lang/Object"), (0, u "<init>"), (0, u "()V"), (0, .class_ 8), (0, u "com/example/feuillet/feuillet/Document"), (0, .methodref 7 3), (0, .class_ 11), (0, u "com/example/feuillet/feuillet/ProcessingInstruction"), (0, .string 13), (0, u "a"), (0, .string 15), (0, u "x"), (0, .methodref 10 17), (0, .nameAndType 5 18), (0, u "(Ljava/lang/String;Ljava/lang/String;)V"), (0, .string 20), (0, u "b"), (0, .string 22), (0, u "y"), (0, .string 24), (0, u "c"), (0, .string 26), (0, u "z"), (0, .methodref 7 28), (0, .nameAndType 29 30), (0, u "append"), (0, u "(Lcom/example/feuillet/feuillet/Node;)V"), (0, .methodref 7 32), (0, .nameAndType 33 34), (0, u "getFirstChild"), (0, u "()Lcom/example/feuillet/feuillet/Node;"), (0, .methodref 10 36), (0, .nameAndType 37 34), (0, u "getNextSibling"), (0, .methodref 10 39), (0, .nameAndType 40 41), (0, u "getParentNode"), (0, u "()Lcom/example/feuillet/feuillet/Node$Parent;"), (0, .class_ 43), (0, u "com/example/feuillet/feuillet/ParentAppendPinLaw"), (2, u "law"), (0, u "(I)Z")] 9

def k1m0 : Method := { name := "<init>", desc := "()V", sig := { parameters := [], returnType := none }, accessFlags := 2, code := none }
def k1c1 : Code := { maxStack := 4, maxLocals := 8, code := code, exceptionTable := #[], attributes := #[] }
def k1m1 : Method := { name := "law", desc := "(I)Z", sig := { parameters := [.int], returnType := some .boolean }, accessFlags := 9, code := some k1c1 }
/-- com/example/feuillet/feuillet/ParentAppendPinLaw -/
def k1 : Class := { plain "com/example/feuillet/feuillet/ParentAppendPinLaw" (some 0) with
  accessFlags := 49
  interfaces := #[]
  cf := some (fileOf pool1 42 #[] #[{ accessFlags := 2, nameIndex := 5, descriptorIndex := 6, attributes := #[] }, { accessFlags := 9, nameIndex := 46, descriptorIndex := 47, attributes := #[] }] 49 2 #[] #[])
  fields := #[]
  methods := #[k1m0, k1m1]
  instanceTypes := #[]
  staticTypes := #[]
  resolved := Array.replicate 57 none
  statics := none }

def pool2 : Array CpInfo := pool [(1, .methodref 2 3), (0, .class_ 4), (0, .nameAndType 5 6), (0, u "java/lang/Object"), (0, u "<init>"), (0, u "()V"), (0, .fieldref 8 9), (0, .class_ 10), (0, .nameAndType 11 12), (0, u "com/example/feuillet/feuillet/Node"), (0, u "parent"), (0, u "Lcom/example/feuillet/feuillet/Node$Parent;"), (0, .fieldref 8 14), (0, .nameAndType 15 16), (0, u "nextSibling"), (0, u "Lcom/example/feuillet/feuillet/Node;"), (2, u "getParentNode"), (0, u "()Lcom/example/feuillet/feuillet/Node$Parent;"), (0, u "getNextSibling"), (0, u "()Lcom/example/feuillet/feuillet/Node;"), (4, .class_ 28), (0, u "com/example/feuillet/feuillet/Node$Parent")] 7

def k2c0 : Code := { maxStack := 1, maxLocals := 1, code := prog_86_method_1_code, exceptionTable := #[], attributes := #[] }
def k2m0 : Method := { name := "<init>", desc := "()V", sig := { parameters := [], returnType := none }, accessFlags := 0, code := some k2c0 }
def k2c1 : Code := { maxStack := 1, maxLocals := 1, code := prog_86_method_2_code, exceptionTable := #[], attributes := #[] }
def k2m1 : Method := { name := "getParentNode", desc := "()Lcom/example/feuillet/feuillet/Node$Parent;", sig := { parameters := [], returnType := some (.object "com/example/feuillet/feuillet/Node$Parent") }, accessFlags := 16, code := some k2c1 }
def k2c2 : Code := { maxStack := 1, maxLocals := 1, code := prog_86_method_3_code, exceptionTable := #[], attributes := #[] }
def k2m2 : Method := { name := "getNextSibling", desc := "()Lcom/example/feuillet/feuillet/Node;", sig := { parameters := [], returnType := some (.object "com/example/feuillet/feuillet/Node") }, accessFlags := 16, code := some k2c2 }
/-- com/example/feuillet/feuillet/Node -/
def k2 : Class := { plain "com/example/feuillet/feuillet/Node" (some 0) with
  accessFlags := 1056
  interfaces := #[]
  cf := some (fileOf pool2 8 #[.nestMembers #[27]] #[{ accessFlags := 0, nameIndex := 5, descriptorIndex := 6, attributes := #[] }, { accessFlags := 16, nameIndex := 19, descriptorIndex := 20, attributes := #[] }, { accessFlags := 16, nameIndex := 21, descriptorIndex := 22, attributes := #[] }] 1056 2 #[] #[{ accessFlags := 2, nameIndex := 11, descriptorIndex := 12, attributes := #[] }, { accessFlags := 2, nameIndex := 15, descriptorIndex := 16, attributes := #[] }])
  fields := #[{ name := "parent", type := (.object "com/example/feuillet/feuillet/Node$Parent"), accessFlags := 2, slot := 0, constantValue := 0 }, { name := "nextSibling", type := (.object "com/example/feuillet/feuillet/Node"), accessFlags := 2, slot := 1, constantValue := 0 }]
  methods := #[k2m0, k2m1, k2m2]
  instanceTypes := #[(.object "com/example/feuillet/feuillet/Node$Parent"), (.object "com/example/feuillet/feuillet/Node")]
  staticTypes := #[]
  resolved := Array.replicate 36 none
  statics := none }

def pool3 : Array CpInfo := pool [(1, .methodref 2 3), (0, .class_ 4), (0, .nameAndType 5 6), (0, u "com/example/feuillet/feuillet/Node"), (0, u "<init>"), (0, u "()V"), (0, .fieldref 8 9), (0, .class_ 10), (0, .nameAndType 11 12), (0, u "com/example/feuillet/feuillet/Node$Parent"), (0, u "firstChild"), (0, u "Lcom/example/feuillet/feuillet/Node;"), (0, .fieldref 2 14), (0, .nameAndType 15 16), (0, u "parent"), (0, u "Lcom/example/feuillet/feuillet/Node$Parent;"), (0, .fieldref 8 18), (0, .nameAndType 19 12), (0, u "lastChild"), (0, .fieldref 2 21), (0, .nameAndType 22 12), (0, u "nextSibling"), (2, u "getFirstChild"), (0, u "()Lcom/example/feuillet/feuillet/Node;"), (0, u "append"), (0, u "(Lcom/example/feuillet/feuillet/Node;)V")] 11

def k3c0 : Code := { maxStack := 1, maxLocals := 1, code := prog_87_method_1_code, exceptionTable := #[], attributes := #[] }
def k3m0 : Method := { name := "<init>", desc := "()V", sig := { parameters := [], returnType := none }, accessFlags := 0, code := some k3c0 }
def k3c1 : Code := { maxStack := 1, maxLocals := 1, code := prog_87_method_2_code, exceptionTable := #[], attributes := #[] }
def k3m1 : Method := { name := "getFirstChild", desc := "()Lcom/example/feuillet/feuillet/Node;", sig := { parameters := [], returnType := some (.object "com/example/feuillet/feuillet/Node") }, accessFlags := 16, code := some k3c1 }
def k3c2 : Code := { maxStack := 2, maxLocals := 2, code := prog_87_method_3_code, exceptionTable := #[], attributes := #[] }
def k3m2 : Method := { name := "append", desc := "(Lcom/example/feuillet/feuillet/Node;)V", sig := { parameters := [(.object "com/example/feuillet/feuillet/Node")], returnType := none }, accessFlags := 16, code := some k3c2 }
/-- com/example/feuillet/feuillet/Node$Parent -/
def k3 : Class := { plain "com/example/feuillet/feuillet/Node$Parent" (some 2) with
  accessFlags := 1056
  interfaces := #[]
  cf := some (fileOf pool3 8 #[.nestHost 2] #[{ accessFlags := 0, nameIndex := 5, descriptorIndex := 6, attributes := #[] }, { accessFlags := 16, nameIndex := 25, descriptorIndex := 26, attributes := #[] }, { accessFlags := 16, nameIndex := 27, descriptorIndex := 28, attributes := #[] }] 1056 2 #[] #[{ accessFlags := 2, nameIndex := 11, descriptorIndex := 12, attributes := #[] }, { accessFlags := 2, nameIndex := 19, descriptorIndex := 12, attributes := #[] }])
  fields := #[{ name := "firstChild", type := (.object "com/example/feuillet/feuillet/Node"), accessFlags := 2, slot := 2, constantValue := 0 }, { name := "lastChild", type := (.object "com/example/feuillet/feuillet/Node"), accessFlags := 2, slot := 3, constantValue := 0 }]
  methods := #[k3m0, k3m1, k3m2]
  instanceTypes := #[(.object "com/example/feuillet/feuillet/Node$Parent"), (.object "com/example/feuillet/feuillet/Node"), (.object "com/example/feuillet/feuillet/Node"), (.object "com/example/feuillet/feuillet/Node")]
  staticTypes := #[]
  resolved := Array.replicate 40 none
  statics := none }

def pool4 : Array CpInfo := pool [(1, .methodref 2 3), (0, .class_ 4), (0, .nameAndType 5 6), (0, u "com/example/feuillet/feuillet/Node$Parent"), (0, u "<init>"), (0, u "()V"), (1, .class_ 10), (1, u "com/example/feuillet/feuillet/Document")] 18

def k4c0 : Code := { maxStack := 1, maxLocals := 1, code := prog_30_method_1_code, exceptionTable := #[], attributes := #[] }
def k4m0 : Method := { name := "<init>", desc := "()V", sig := { parameters := [], returnType := none }, accessFlags := 0, code := some k4c0 }
/-- com/example/feuillet/feuillet/Document -/
def k4 : Class := { plain "com/example/feuillet/feuillet/Document" (some 3) with
  accessFlags := 48
  interfaces := #[]
  cf := some (fileOf pool4 8 #[] #[{ accessFlags := 0, nameIndex := 5, descriptorIndex := 6, attributes := #[] }] 48 2 #[] #[])
  fields := #[]
  methods := #[k4m0]
  instanceTypes := #[(.object "com/example/feuillet/feuillet/Node$Parent"), (.object "com/example/feuillet/feuillet/Node"), (.object "com/example/feuillet/feuillet/Node"), (.object "com/example/feuillet/feuillet/Node")]
  staticTypes := #[]
  resolved := Array.replicate 29 none
  statics := none }

def pool5 : Array CpInfo := pool [(1, .methodref 2 3), (0, .class_ 4), (0, .nameAndType 5 6), (0, u "com/example/feuillet/feuillet/Node"), (0, u "<init>"), (0, u "()V"), (0, .fieldref 8 9), (0, .class_ 10), (0, .nameAndType 11 12), (0, u "com/example/feuillet/feuillet/ProcessingInstruction"), (0, u "target"), (0, u "Ljava/lang/String;"), (0, .fieldref 8 14), (0, .nameAndType 15 12), (0, u "data"), (0, u "(Ljava/lang/String;Ljava/lang/String;)V")] 7

def k5c0 : Code := { maxStack := 2, maxLocals := 3, code := prog_91_method_1_code, exceptionTable := #[], attributes := #[] }
def k5m0 : Method := { name := "<init>", desc := "(Ljava/lang/String;Ljava/lang/String;)V", sig := { parameters := [(.object "java/lang/String"), (.object "java/lang/String")], returnType := none }, accessFlags := 0, code := some k5c0 }
/-- com/example/feuillet/feuillet/ProcessingInstruction -/
def k5 : Class := { plain "com/example/feuillet/feuillet/ProcessingInstruction" (some 2) with
  accessFlags := 48
  interfaces := #[]
  cf := some (fileOf pool5 8 #[] #[{ accessFlags := 0, nameIndex := 5, descriptorIndex := 16, attributes := #[] }] 48 2 #[] #[{ accessFlags := 18, nameIndex := 11, descriptorIndex := 12, attributes := #[] }, { accessFlags := 18, nameIndex := 15, descriptorIndex := 12, attributes := #[] }])
  fields := #[{ name := "target", type := (.object "java/lang/String"), accessFlags := 18, slot := 2, constantValue := 0 }, { name := "data", type := (.object "java/lang/String"), accessFlags := 18, slot := 3, constantValue := 0 }]
  methods := #[k5m0]
  instanceTypes := #[(.object "com/example/feuillet/feuillet/Node$Parent"), (.object "com/example/feuillet/feuillet/Node"), (.object "java/lang/String"), (.object "java/lang/String")]
  staticTypes := #[]
  resolved := Array.replicate 24 none
  statics := none }

def pool6 : Array CpInfo := pool [(1, .class_ 2), (0, u "java/io/Serializable"), (0, .class_ 4), (0, u "java/lang/Object")] 2

/-- java/io/Serializable -/
def k6 : Class := { plain "java/io/Serializable" (some 0) with
  accessFlags := 1537
  interfaces := #[]
  cf := some (fileOf pool6 1 #[] #[] 1537 3 #[] #[])
  fields := #[]
  methods := #[]
  instanceTypes := #[]
  staticTypes := #[]
  resolved := Array.replicate 7 none
  statics := none }

def pool7 : Array CpInfo := pool [(1, .class_ 2), (0, u "java/lang/Comparable"), (0, .class_ 4), (0, u "java/lang/Object")] 7

/-- java/lang/Comparable -/
def k7 : Class := { plain "java/lang/Comparable" (some 0) with
  accessFlags := 1537
  interfaces := #[]
  cf := some (fileOf pool7 1 #[] #[] 1537 3 #[] #[])
  fields := #[]
  methods := #[]
  instanceTypes := #[]
  staticTypes := #[]
  resolved := Array.replicate 12 none
  statics := none }

def pool8 : Array CpInfo := pool [(2, .class_ 4), (1, u "java/lang/CharSequence"), (42, .class_ 48), (0, u "java/lang/CharSequence$1CodePointIterator"), (10, .class_ 60), (0, u "java/lang/CharSequence$1CharIterator"), (5, .class_ 67), (0, u "java/lang/Object")] 63

/-- java/lang/CharSequence -/
def k8 : Class := { plain "java/lang/CharSequence" (some 0) with
  accessFlags := 1537
  interfaces := #[]
  cf := some (fileOf pool8 2 #[.nestMembers #[47, 59]] #[] 1537 66 #[] #[])
  fields := #[]
  methods := #[]
  instanceTypes := #[]
  staticTypes := #[]
  resolved := Array.replicate 131 none
  statics := none }

def pool9 : Array CpInfo := pool [(1, .class_ 2), (0, u "java/lang/constant/Constable"), (0, .class_ 4), (0, u "java/lang/Object")] 6

/-- java/lang/constant/Constable -/
def k9 : Class := { plain "java/lang/constant/Constable" (some 0) with
  accessFlags := 1537
  interfaces := #[]
  cf := some (fileOf pool9 1 #[] #[] 1537 3 #[] #[])
  fields := #[]
  methods := #[]
  instanceTypes := #[]
  staticTypes := #[]
  resolved := Array.replicate 11 none
  statics := none }

def pool10 : Array CpInfo := pool [(1, .class_ 2), (0, u "java/lang/constant/ConstantDesc"), (0, .class_ 4), (0, u "java/lang/Object")] 32

/-- java/lang/constant/ConstantDesc -/
def k10 : Class := { plain "java/lang/constant/ConstantDesc" (some 0) with
  accessFlags := 1537
  interfaces := #[]
  cf := some (fileOf pool10 1 #[] #[] 1537 3 #[] #[])
  fields := #[]
  methods := #[]
  instanceTypes := #[]
  staticTypes := #[]
  resolved := Array.replicate 37 none
  statics := none }

def pool11 : Array CpInfo := pool [(2, .class_ 4), (1, u "java/lang/Object"), (0, u "<init>"), (0, u "()V"), (3, .class_ 12), (1, u "java/lang/String"), (0, u "value"), (0, u "[B"), (2, u "coder"), (0, u "B"), (2, u "hash"), (0, u "I"), (2, u "hashIsZero"), (0, u "Z"), (13, u "COMPACT_STRINGS"), (534, .class_ 576), (0, u "java/lang/CharSequence"), (22, u "CASE_INSENSITIVE_ORDER"), (0, u "Ljava/util/Comparator;"), (500, u "serialPersistentFields"), (0, u "[Ljava/io/ObjectStreamField;"), (0, .class_ 1104), (0, u "java/lang/String$CaseInsensitiveComparator"), (1, .class_ 1107), (0, u "java/io/Serializable"), (0, .class_ 1109), (0, u "java/lang/Comparable"), (0, .class_ 1111), (0, u "java/lang/constant/Constable"), (0, .class_ 1113), (0, u "java/lang/constant/ConstantDesc"), (2, u "serialVersionUID"), (0, u "J"), (3, u "REPL"), (0, u "C"), (2, u "LATIN1"), (1, u "UTF16")] 323

def k11m0 : Method := { name := "<init>", desc := "()V", sig := { parameters := [], returnType := none }, accessFlags := 1, code := none }
/-- java/lang/String -/
def k11 : Class := { plain "java/lang/String" (some 0) with
  accessFlags := 49
  interfaces := #[6, 7, 8, 9, 10]
  cf := some (fileOf pool11 10 #[.nestMembers #[1103]] #[{ accessFlags := 1, nameIndex := 5, descriptorIndex := 6, attributes := #[] }] 49 2 #[1106, 1108, 575, 1110, 1112] #[{ accessFlags := 18, nameIndex := 13, descriptorIndex := 14, attributes := #[] }, { accessFlags := 18, nameIndex := 17, descriptorIndex := 18, attributes := #[] }, { accessFlags := 2, nameIndex := 21, descriptorIndex := 22, attributes := #[] }, { accessFlags := 2, nameIndex := 25, descriptorIndex := 26, attributes := #[] }, { accessFlags := 26, nameIndex := 1116, descriptorIndex := 1117, attributes := #[] }, { accessFlags := 24, nameIndex := 40, descriptorIndex := 26, attributes := #[] }, { accessFlags := 26, nameIndex := 1101, descriptorIndex := 1102, attributes := #[] }, { accessFlags := 26, nameIndex := 1121, descriptorIndex := 1122, attributes := #[] }, { accessFlags := 25, nameIndex := 599, descriptorIndex := 600, attributes := #[] }, { accessFlags := 24, nameIndex := 1125, descriptorIndex := 18, attributes := #[] }, { accessFlags := 24, nameIndex := 1127, descriptorIndex := 18, attributes := #[] }])
  fields := #[{ name := "value", type := (.array .byte), accessFlags := 18, slot := 0, constantValue := 0 }, { name := "coder", type := .byte, accessFlags := 18, slot := 1, constantValue := 0 }, { name := "hash", type := .int, accessFlags := 2, slot := 2, constantValue := 0 }, { name := "hashIsZero", type := .boolean, accessFlags := 2, slot := 3, constantValue := 0 }, { name := "serialVersionUID", type := .long, accessFlags := 26, slot := 0, constantValue := 0 }, { name := "COMPACT_STRINGS", type := .boolean, accessFlags := 24, slot := 1, constantValue := 0 }, { name := "serialPersistentFields", type := (.array (.object "java/io/ObjectStreamField")), accessFlags := 26, slot := 2, constantValue := 0 }, { name := "REPL", type := .char, accessFlags := 26, slot := 3, constantValue := 0 }, { name := "CASE_INSENSITIVE_ORDER", type := (.object "java/util/Comparator"), accessFlags := 25, slot := 4, constantValue := 0 }, { name := "LATIN1", type := .byte, accessFlags := 24, slot := 5, constantValue := 0 }, { name := "UTF16", type := .byte, accessFlags := 24, slot := 6, constantValue := 0 }]
  methods := #[k11m0]
  instanceTypes := #[(.array .byte), .byte, .int, .boolean]
  staticTypes := #[.long, .boolean, (.array (.object "java/io/ObjectStreamField")), .char, (.object "java/util/Comparator"), .byte, .byte]
  resolved := Array.replicate 1451 none
  statics := none }

def pool12 : Array CpInfo := pool [(1, u "java/lang/Cloneable"), (0, .class_ 1), (0, u "java/lang/Object"), (0, .class_ 3)] 3

/-- java/lang/Cloneable -/
def k12 : Class := { plain "java/lang/Cloneable" (some 0) with
  accessFlags := 1537
  interfaces := #[]
  cf := some (fileOf pool12 2 #[] #[] 1537 4 #[] #[])
  fields := #[]
  methods := #[]
  instanceTypes := #[]
  staticTypes := #[]
  resolved := Array.replicate 8 none
  statics := none }

/-- the primitive byte -/
def k13 : Class := { plain "byte" none with kind := .primitive 'B', accessFlags := 0x411 }
/-- [B -/
def k14 : Class := { plain "[B" (some 0) with kind := .array 13 .byte, interfaces := #[12, 6], accessFlags := 1041 }

/-- the primitive int -/
def k15 : Class := { plain "int" none with kind := .primitive 'I', accessFlags := 0x411 }
/-- [I -/
def k16 : Class := { plain "[I" (some 0) with kind := .array 15 .int, interfaces := #[12, 6], accessFlags := 1041 }

def heap : Heap := #[]
def classes : Array Class := #[k0, k1, k2, k3, k4, k5, k6, k7, k8, k9, k10, k11, k12, k13, k14, k15, k16]
def interned : List (Array UInt16 × Addr) := []
def slotsUsed : Nat := 0
def theMethod : MethodId := ⟨1, 1⟩
def args0 : Array Value := #[.int 5]
def aboutOver (below : List Frame) : State where
  vm := { classes := classes, interned := interned.toArray }
  heap := heap
  slotsUsed := slotsUsed
  threads := #[{ frames := .invoking theMethod args0 :: below }]
def below0 : List Frame := [.native { method := ⟨0, 0⟩, args := #[] }]
def about1 : State := aboutOver below0
def p0 : Program := .bare "" "" ""
def e0 : Env := launch0.env 0 0 0
theorem w_frames : about1.frames = Frame.invoking theMethod args0 :: below0 := rfl
set_option maxRecDepth 65536 in
theorem w_args : argsFit about1.vm theMethod args0 = true := by decide +kernel
set_option maxRecDepth 65536 in
theorem w_heap : heapFits about1 = true := by decide +kernel
set_option maxRecDepth 65536 in
theorem w_runnable : about1.curStatus? = some .runnable := by decide +kernel
set_option maxRecDepth 65536 in
theorem w_alone : about1.alone = true := by decide +kernel
set_option maxRecDepth 65536 in
theorem w_named : about1.methodNamed? x = some theMethod := by decide +kernel
set_option maxRecDepth 65536 in
theorem w_hears : about1.hears theMethod below0 = true := by decide +kernel
set_option maxRecDepth 65536 in
theorem w_ripe : about1.ripe theMethod args0 below0 = true := by decide +kernel
theorem w_running : about1.status = .running := rfl
set_option maxRecDepth 65536 in
theorem w_room : about1.hasRoom e0.platform room_1 = true :=
  launch0.hasRoom_least _ room_1 (by decide +kernel) (by decide +kernel) (by decide +kernel) (by decide +kernel) (by decide +kernel) (by decide +kernel)
theorem allAtoms_all (ts : List Jvm.Cond) (a : Array Jvm.Value) (st : Jvm.State) : (allAtoms ts).before a st = ts.all (fun c => c.before a st) := by
  induction ts with
  | nil => rfl
  | cons c t ih =>
    show (Jvm.Cond.and c (allAtoms t)).before a st = _
    rw [Jvm.Cond.before_and, ih, List.all_cons]
def words1 : List Jvm.Cond := Jvm.Cond.code x code maxLocals ret :: tables_1
/-- a 'code' word, met by the world's own term for the bytes: nothing is compared byte by byte -/
theorem code_word {y : MethodName} {bytes : ByteArray} {mx : Nat} {rt : Option FieldType} {a : Array Value} {s : State} {m : MethodId} {meth : Method} {c : Code} (h1 : s.methodNamed? y = some m) (h2 : s.vm.method? m = some meth) (h3 : meth.code = some c) (h4 : c.code = bytes)
    (h5 : (c.maxLocals == mx && c.exceptionTable.isEmpty && decide (c.maxStack ≤ mostOperands) && decide (meth.sig.returnType = rt) && !meth.locks && decide (parseMethodDescriptor y.desc = some meth.sig)) = true) : (Jvm.Cond.code y bytes mx rt).before a s = true := by
  simp only [Bool.and_eq_true, beq_iff_eq, Bool.not_eq_true', decide_eq_true_eq] at h5
  obtain ⟨⟨⟨⟨⟨g1, g2⟩, g3⟩, g4⟩, g5⟩, g6⟩ := h5
  simp [Cond.before, Cond.holds, Cond.value, h1, h2, h3, h4, g1, g2, g3, g4, g5, g6]
def isCode : Jvm.Cond → Bool
  | .code _ _ _ _ => true
  | _ => false
theorem all_split {L : List Jvm.Cond} {P : Jvm.Cond → Bool} (h1 : L.all (fun c => isCode c || P c) = true) (h2 : ∀ c ∈ L.filter isCode, P c = true) : L.all P = true := by
  refine List.all_eq_true.mpr fun c hc => ?_
  have h := List.all_eq_true.mp h1 c hc
  rcases Bool.eq_false_or_eq_true (isCode c) with hi | hi
  · exact h2 c (List.mem_filter.mpr ⟨hc, hi⟩)
  · simpa [hi] using h
set_option maxRecDepth 65536 in
theorem w_c0 : (Jvm.Cond.code x code maxLocals ret).before args0 about1 = true := code_word (m := ⟨1, 1⟩) (meth := k1m1) (c := k1c1) (by decide +kernel) rfl rfl rfl (by decide +kernel)
set_option maxRecDepth 65536 in
theorem w_c1 : (Jvm.Cond.code ({ cls := "com/example/feuillet/feuillet/Document", name := "<init>", desc := "()V" } : Jvm.MethodName) prog_30_method_1_code (1 : Nat) (Option.none : Option Jvm.ClassFile.FieldType)).before args0 about1 = true := code_word (m := ⟨4, 0⟩) (meth := k4m0) (c := k4c0) (by decide +kernel) rfl rfl rfl (by decide +kernel)
set_option maxRecDepth 65536 in
theorem w_c2 : (Jvm.Cond.code ({ cls := "com/example/feuillet/feuillet/Node$Parent", name := "<init>", desc := "()V" } : Jvm.MethodName) prog_87_method_1_code (1 : Nat) (Option.none : Option Jvm.ClassFile.FieldType)).before args0 about1 = true := code_word (m := ⟨3, 0⟩) (meth := k3m0) (c := k3c0) (by decide +kernel) rfl rfl rfl (by decide +kernel)
set_option maxRecDepth 65536 in
theorem w_c3 : (Jvm.Cond.code ({ cls := "com/example/feuillet/feuillet/Node", name := "<init>", desc := "()V" } : Jvm.MethodName) prog_86_method_1_code (1 : Nat) (Option.none : Option Jvm.ClassFile.FieldType)).before args0 about1 = true := code_word (m := ⟨2, 0⟩) (meth := k2m0) (c := k2c0) (by decide +kernel) rfl rfl rfl (by decide +kernel)
set_option maxRecDepth 65536 in
theorem w_c4 : (Jvm.Cond.code ({ cls := "java/lang/Object", name := "<init>", desc := "()V" } : Jvm.MethodName) object_method_1_code (1 : Nat) (Option.none : Option Jvm.ClassFile.FieldType)).before args0 about1 = true := code_word (m := ⟨0, 0⟩) (meth := k0m0) (c := k0c0) (by decide +kernel) rfl rfl rfl (by decide +kernel)
set_option maxRecDepth 65536 in
theorem w_c5 : (Jvm.Cond.code ({ cls := "com/example/feuillet/feuillet/ProcessingInstruction", name := "<init>", desc := "(Ljava/lang/String;Ljava/lang/String;)V" } : Jvm.MethodName) prog_91_method_1_code (3 : Nat) (Option.none : Option Jvm.ClassFile.FieldType)).before args0 about1 = true := code_word (m := ⟨5, 0⟩) (meth := k5m0) (c := k5c0) (by decide +kernel) rfl rfl rfl (by decide +kernel)
set_option maxRecDepth 65536 in
theorem w_c6 : (Jvm.Cond.code ({ cls := "com/example/feuillet/feuillet/Node$Parent", name := "getFirstChild", desc := "()Lcom/example/feuillet/feuillet/Node;" } : Jvm.MethodName) prog_87_method_2_code (1 : Nat) (Option.some (Jvm.ClassFile.FieldType.object "com/example/feuillet/feuillet/Node"))).before args0 about1 = true := code_word (m := ⟨3, 1⟩) (meth := k3m1) (c := k3c1) (by decide +kernel) rfl rfl rfl (by decide +kernel)
set_option maxRecDepth 65536 in
theorem w_c7 : (Jvm.Cond.code ({ cls := "com/example/feuillet/feuillet/Node", name := "getNextSibling", desc := "()Lcom/example/feuillet/feuillet/Node;" } : Jvm.MethodName) prog_86_method_3_code (1 : Nat) (Option.some (Jvm.ClassFile.FieldType.object "com/example/feuillet/feuillet/Node"))).before args0 about1 = true := code_word (m := ⟨2, 2⟩) (meth := k2m2) (c := k2c2) (by decide +kernel) rfl rfl rfl (by decide +kernel)
set_option maxRecDepth 65536 in
theorem w_c8 : (Jvm.Cond.code ({ cls := "com/example/feuillet/feuillet/Node", name := "getParentNode", desc := "()Lcom/example/feuillet/feuillet/Node$Parent;" } : Jvm.MethodName) prog_86_method_2_code (1 : Nat) (Option.some (Jvm.ClassFile.FieldType.object "com/example/feuillet/feuillet/Node$Parent"))).before args0 about1 = true := code_word (m := ⟨2, 1⟩) (meth := k2m1) (c := k2c1) (by decide +kernel) rfl rfl rfl (by decide +kernel)
set_option maxRecDepth 65536 in
theorem w_c9 : (Jvm.Cond.code ({ cls := "com/example/feuillet/feuillet/Node$Parent", name := "append", desc := "(Lcom/example/feuillet/feuillet/Node;)V" } : Jvm.MethodName) prog_87_method_3_code (2 : Nat) (Option.none : Option Jvm.ClassFile.FieldType)).before args0 about1 = true := code_word (m := ⟨3, 2⟩) (meth := k3m2) (c := k3c2) (by decide +kernel) rfl rfl rfl (by decide +kernel)
def codes1 : List Jvm.Cond := [Jvm.Cond.code x code maxLocals ret, Jvm.Cond.code ({ cls := "com/example/feuillet/feuillet/Document", name := "<init>", desc := "()V" } : Jvm.MethodName) prog_30_method_1_code (1 : Nat) (Option.none : Option Jvm.ClassFile.FieldType), Jvm.Cond.code ({ cls := "com/example/feuillet/feuillet/Node$Parent", name := "<init>", desc := "()V" } : Jvm.MethodName) prog_87_method_1_code (1 : Nat) (Option.none : Option Jvm.ClassFile.FieldType), Jvm.Cond.code ({ cls := "com/example/feuillet/feuillet/Node", name := "<init>", desc := "()V" } : Jvm.MethodName) prog_86_method_1_code (1 : Nat) (Option.none : Option Jvm.ClassFile.FieldType), Jvm.Cond.code ({ cls := "java/lang/Object", name := "<init>", desc := "()V" } : Jvm.MethodName) object_method_1_code (1 : Nat) (Option.none : Option Jvm.ClassFile.FieldType), Jvm.Cond.code ({ cls := "com/example/feuillet/feuillet/ProcessingInstruction", name := "<init>", desc := "(Ljava/lang/String;Ljava/lang/String;)V" } : Jvm.MethodName) prog_91_method_1_code (3 : Nat) (Option.none : Option Jvm.ClassFile.FieldType), Jvm.Cond.code ({ cls := "com/example/feuillet/feuillet/Node$Parent", name := "getFirstChild", desc := "()Lcom/example/feuillet/feuillet/Node;" } : Jvm.MethodName) prog_87_method_2_code (1 : Nat) (Option.some (Jvm.ClassFile.FieldType.object "com/example/feuillet/feuillet/Node")), Jvm.Cond.code ({ cls := "com/example/feuillet/feuillet/Node", name := "getNextSibling", desc := "()Lcom/example/feuillet/feuillet/Node;" } : Jvm.MethodName) prog_86_method_3_code (1 : Nat) (Option.some (Jvm.ClassFile.FieldType.object "com/example/feuillet/feuillet/Node")), Jvm.Cond.code ({ cls := "com/example/feuillet/feuillet/Node", name := "getParentNode", desc := "()Lcom/example/feuillet/feuillet/Node$Parent;" } : Jvm.MethodName) prog_86_method_2_code (1 : Nat) (Option.some (Jvm.ClassFile.FieldType.object "com/example/feuillet/feuillet/Node$Parent")), Jvm.Cond.code ({ cls := "com/example/feuillet/feuillet/Node$Parent", name := "append", desc := "(Lcom/example/feuillet/feuillet/Node;)V" } : Jvm.MethodName) prog_87_method_3_code (2 : Nat) (Option.none : Option Jvm.ClassFile.FieldType)]
set_option maxRecDepth 65536 in
theorem codes_eq : words1.filter isCode = codes1 := rfl
theorem w_codes : ∀ c ∈ words1.filter isCode, c.before args0 about1 = true := by
  rw [codes_eq]
  intro c hc
  simp only [codes1, List.mem_cons, List.not_mem_nil, or_false] at hc
  rcases hc with rfl | rfl | rfl | rfl | rfl | rfl | rfl | rfl | rfl | rfl
  · exact w_c0
  · exact w_c1
  · exact w_c2
  · exact w_c3
  · exact w_c4
  · exact w_c5
  · exact w_c6
  · exact w_c7
  · exact w_c8
  · exact w_c9
set_option maxRecDepth 65536 in
theorem w_t1 : (words1.take 24).all (fun c => isCode c || c.before args0 about1) = true := by decide +kernel
set_option maxRecDepth 65536 in
theorem w_t2 : ((words1.drop 24).take 24).all (fun c => isCode c || c.before args0 about1) = true := by decide +kernel
set_option maxRecDepth 65536 in
theorem w_t3 : (((words1.drop 24).drop 24).take 24).all (fun c => isCode c || c.before args0 about1) = true := by decide +kernel
set_option maxRecDepth 65536 in
theorem w_t4 : (((words1.drop 24).drop 24).drop 24).all (fun c => isCode c || c.before args0 about1) = true := by decide +kernel
theorem w_tables : (allAtoms (Jvm.Cond.code x code maxLocals ret :: tables_1)).before args0 about1 = true := by
  rw [allAtoms_all]
  show words1.all (fun c => c.before args0 about1) = true
  refine all_split ?_ w_codes
  rw [← List.take_append_drop 24 words1, List.all_append, w_t1, ← List.take_append_drop 24 (words1.drop 24), List.all_append, w_t2, ← List.take_append_drop 24 ((words1.drop 24).drop 24), List.all_append, w_t3, w_t4]
  rfl
set_option maxRecDepth 65536 in
theorem w_case : (Jvm.Cond.and given_1 narrow_1).before args0 about1 = true := by decide +kernel
theorem w_applies : (headSpec (Jvm.Cond.code x code maxLocals ret :: tables_1) room_1).applies x e0.platform about1 = true :=
  (Spec.applies_iff w_frames).mpr ⟨w_running, w_runnable, w_alone, w_named, w_hears, w_ripe, w_room, w_tables⟩
theorem atStart : AtStart classFile x code maxLocals ret World_1 tables_1 room_1 Calls_1 rest_1 Pre_1 launch0 p0 e0 about1 theMethod args0 below0 :=
  ⟨lists_1, trivial, launch0.admits_env _ _ _, launch0.least_env, fairChoices_fair.cas, fairChoices_fair.clock, w_frames, w_args, w_heap, w_applies, trivial, trivial, w_case⟩
end start1
theorem witness_1 : WitnessClaimed_1 := ⟨start1.p0, start1.e0, start1.about1, start1.theMethod, start1.args0, start1.below0, start1.atStart⟩
end Jvm.Pilot.@@N@@
