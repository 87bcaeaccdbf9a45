import JvmDerived
import JvmDerived.Pilot.@@N@@Statement
import JvmDerived.Pilot.@@N@@Code
set_option linter.unusedVariables false
set_option linter.unusedSimpArgs false
@@BLOCK:NumsL.lean.txt@@
namespace Jvm.RoadKit
open Sem ClassFile Op Lib Jvm.Stand Jvm.Free Jvm.LawKit
section New
variable {p : Program} {l : Launch} {e : Env} {R : Room} {s : State} {m : MethodId} {args : Array Value} {below : List Frame} {meth : Method} {c : Code} {T : State} {locs : List Loc} {cells slots : Nat}
theorem retI (X : Stand p l e R s m args below meth c T locs cells slots) (hx : p.tables.exec = Jvm.exec) {pc : Nat} {Ls : Array Slot} {z : Int32} {rest : List Value} (hret : meth.sig.returnType = some .int) (hd : decode c.code pc = .ok (.ireturn, 1)) {fs : List Frame}
    (hl : ∀ (f : JFrame) (acts : List Action), f.method = m → f.locked = none → f.entered = [] → (doReturn e (T.setTop f) acts (some (.int z))).1 = T.setFrames fs) : Steps p.tables e below (T.setTop (mkF m pc Ls (.int z :: rest))) (T.setFrames fs) := by
  have hm' : T.vm.method? m = some meth := X.method'
  have hn : narrow .int (.int z) = .int z := rfl
  show Steps p.tables e below (T.setTop { method := m, pc := pc, locals := Ls, stack := _ :: rest, locked := none }) _
  jvm_step X.here [X.here.top, hx, hd, hm', hret, hn]
  first | (intro acts; rw [hl _ acts rfl rfl rfl]) | rw [hl _ _ rfl rfl rfl]
  exact Steps.refl _
end New
end Jvm.RoadKit
namespace Jvm.Pilot.@@N@@
open Jvm Jvm.ClassFile Sem Op Lib Jvm.Free Jvm.Stand Jvm.LawKit Jvm.RoadKit Bundle Jvm.Pilot.@@N@@.Jvm.D
section Own
variable {p : Program} {l : Launch} {e : Env} {R : Room} {s : State} {m : MethodId} {args : Array Value} {below : List Frame} {meth : Method} {c : Code} {T : State} {locs : List Loc} {cells slots : Nat}
/-- from U the run comes to an end that Q allows -/
def own_Go (p : Program) (e : Env) (below : List Frame) (s : State) (kc ks : Nat) (Q : Option Value → Heap → List Loc → Prop) (U : State) : Prop :=
  ∃ s₂ o, Steps p.tables e below U s₂ ∧ s₂.status = .running ∧ Ended s₂ below o ∧ ∃ v L, o = .returned v ∧ Q v s₂.heap L ∧ FrameEnd s o s₂ L kc ks
theorem own_step {kc ks : Nat} {Q : Option Value → Heap → List Loc → Prop} {U U' : State} (k : ∀ t, Steps p.tables e below U' t → Steps p.tables e below U t) (g : own_Go p e below s kc ks Q U') : own_Go p e below s kc ks Q U := by
  obtain ⟨s₂, o, h, r⟩ := g
  exact ⟨s₂, o, k _ h, r⟩
theorem own_ret {kc ks : Nat} {Q : Option Value → Heap → List Loc → Prop} {U : State} (X : Stand p l e R s m args below meth c T locs cells slots) {v : Option Value} (hv : meth.sig.returnType = none → v = none) (hlocks : meth.locks = false) (hk : cells ≤ kc) (hs : slots ≤ ks) (hq : Q v T.heap locs)
    (k : ∀ fs, (∀ (f : JFrame) (acts : List Action), f.method = m → f.locked = none → f.entered = [] → (doReturn e (T.setTop f) acts v).1 = T.setFrames fs) → Steps p.tables e below U (T.setFrames fs)) : own_Go p e below s kc ks Q U := by
  obtain ⟨fs, hr, hrun, hended, hW, hsame⟩ := X.leave (v := v) hv hlocks
  exact ⟨_, _, k fs hr, hrun, hended, v, locs, rfl, hq, ⟨_, rfl⟩, hW, hsame.mono hk hs⟩
theorem own_narR {t : FieldType} {v : Value} (h : v.isRef = true) : narrow t v = v := by cases v <;> first | (cases h; done) | (cases t <;> rfl)
theorem own_fitR {t : String} {v : Value} (h : v.isRef = true) : fits (.object t) v = true := by cases v <;> first | (cases h; done) | rfl
theorem own_at {h : Heap} {a : Addr} {k : Cell} (e : T.heap = h) (q : h[a]? = some k) : T.heap[a]? = some k := e ▸ q
theorem own_pl0 {h : Heap} : ∀ a ∈ ([] : List Addr), ∀ c : Cell, h[a]? = some c → c.vm.isStatics = false := fun _ q => nomatch q
theorem own_plE {Z : State} {h : Heap} {a : Addr} {C : String} {ws : List Addr} (E : Exa Z h a C) (r : ∀ x ∈ ws, ∀ c : Cell, h[x]? = some c → c.vm.isStatics = false) : ∀ x ∈ a :: ws, ∀ c : Cell, h[x]? = some c → c.vm.isStatics = false := fun x hx c hc => by
  rcases List.mem_cons.mp hx with rfl | q
  · obtain ⟨cell, k, h1, -, -, h4, -⟩ := E
    cases h1.symm.trans hc; exact h4
  · exact r x q c hc
theorem own_plF {Z : State} {h : Heap} {a : Addr} {C n d : String} {v : Value} {ws : List Addr} (E : Fld Z h a C n d v) (r : ∀ x ∈ ws, ∀ c : Cell, h[x]? = some c → c.vm.isStatics = false) : ∀ x ∈ a :: ws, ∀ c : Cell, h[x]? = some c → c.vm.isStatics = false := fun x hx c hc => by
  rcases List.mem_cons.mp hx with rfl | q
  · exact old_plain E c hc
  · exact r x q c hc
theorem own_plV {Z : State} {h : Heap} {a : Addr} {k : ClassId} {ty : FieldType} {z : Int32} {vs : List Value} {d : Value} {ws : List Addr} (E : Arv Z h a k ty z vs d) (r : ∀ x ∈ ws, ∀ c : Cell, h[x]? = some c → c.vm.isStatics = false) : ∀ x ∈ a :: ws, ∀ c : Cell, h[x]? = some c → c.vm.isStatics = false := fun x hx c hc => by
  rcases List.mem_cons.mp hx with rfl | q
  · obtain ⟨cl, A, -⟩ := E
    cases A.1.symm.trans hc; exact A.plain
  · exact r x q c hc
theorem own_sta_keep {Z : State} {h h' : Heap} {C n d : String} {w : Value} {ws : List Addr} (F : Sta Z h C n d w) (K : Keep h h' ws) (r : ∀ x ∈ ws, ∀ c : Cell, h[x]? = some c → c.vm.isStatics = false) : Sta Z h' C n d w := by
  obtain ⟨cf, i, k, f, st, cell, h1, h2, h3, h4, h5, h6, h7⟩ := F
  exact ⟨cf, i, k, f, st, cell, h1, h2, h3, h4, K.2.1 st cell h5 (fun q => by rw [r st q cell h5] at h6; cases h6), h6, h7⟩
end Own
theorem own_and3 {x n : Int32} (h : x &&& 3 = n) : 0 ≤ n.toInt ∧ n.toInt < 4 := by
  subst h
  have := Jvm.Kit.i32_mask x 3 (k := 2) (by decide) (by decide)
  omega
theorem own_lt1 {n : Int32} : n < 1 ↔ n.toInt < 1 := by rw [Int32.lt_iff_toInt_lt]; rfl
theorem own_lt2 {n : Int32} : n < 2 ↔ n.toInt < 2 := by rw [Int32.lt_iff_toInt_lt]; rfl
theorem own_lt3 {n : Int32} : n < 3 ↔ n.toInt < 3 := by rw [Int32.lt_iff_toInt_lt]; rfl
theorem own_12 {n : Int32} (h : n < 1) : n < 2 := by rw [own_lt1] at h; rw [own_lt2]; omega
theorem own_23 {n : Int32} (h : n < 2) : n < 3 := by rw [own_lt2] at h; rw [own_lt3]; omega
theorem own_pin0 {x n : Int32} (h : x &&& 3 = n) (h1 : n < 1) : (0 : Int32) = n := by
  have := own_and3 h; rw [own_lt1] at h1; apply Int32.toInt_inj.mp; show 0 = _; omega
theorem own_pin1 {n : Int32} (h1 : ¬ n < 1) (h2 : n < 2) : (0 : Int32) + 1 = n := by
  rw [own_lt1] at h1; rw [own_lt2] at h2; apply Int32.toInt_inj.mp; show 1 = _; omega
theorem own_pin2 {n : Int32} (h1 : ¬ n < 2) (h2 : n < 3) : (0 : Int32) + 1 + 1 = n := by
  rw [own_lt2] at h1; rw [own_lt3] at h2; apply Int32.toInt_inj.mp; show 2 = _; omega
theorem own_pin3 {x n : Int32} (h : x &&& 3 = n) (h1 : ¬ n < 3) : (0 : Int32) + 1 + 1 + 1 = n := by
  have := own_and3 h; rw [own_lt3] at h1; apply Int32.toInt_inj.mp; show 3 = _; omega
theorem own_pn0 : plainName "com/example/skip2/skip2/windowsearch/Matches" = true := by first | (simp [plainName, overriddenIn]; done) | decide +kernel
theorem own_d2_0 : decode prog_30_method_1_code 0 = .ok (.aload_n 0, 1) := by decide +kernel
theorem own_d2_1 : decode prog_30_method_1_code 1 = .ok (.invokespecial 1, 3) := by decide +kernel
theorem own_d2_4 : decode prog_30_method_1_code 4 = .ok (.return_, 1) := by decide +kernel
def own_Q_mi (Z : State) (a1 : Addr) (h0 : Heap) (n0 : Nat) (v : Option Value) (h : Heap) (L : List Loc) : Prop := v = none ∧ Fr n0 L ∧ h = h0
set_option maxRecDepth 65536 in
set_option maxHeartbeats 40000000 in
theorem own_m_mi (l : Launch) (Z : State) (a0 : Array Value) (hw : ∀ d ∈ tables_1, d.before a0 Z = true) (ws : List Jvm.Cond) (a1 : Addr) (h0 : Heap) (n0 : Nat) (Z0 : n0 ≤ h0.size)  :
    MetFree l (⟨"com/example/skip2/skip2/windowsearch/Matches", "<init>", "()V"⟩ : MethodName) (head1 (Jvm.Cond.code (⟨"com/example/skip2/skip2/windowsearch/Matches", "<init>", "()V"⟩ : MethodName) prog_30_method_1_code 1 none :: ws) ({ frames := 1, cells := 0, slots := 0, locals := 12 } : Room)) (fun a U => a = #[(.ref a1)] ∧ Z.Warmed39 U.vm ∧ U.heap = h0) (fun _ _ _ _ _ => True) (fun _ U o U' => ∃ v L, o = .returned v ∧ own_Q_mi Z a1 h0 n0 v U'.heap L ∧ FrameEnd U o U' L ({ frames := 1, cells := 0, slots := 0, locals := 12 } : Room).cells ({ frames := 1, cells := 0, slots := 0, locals := 12 } : Room).slots) := by
  refine MetFree.of_bodySF (plainFor_of_name own_pn0) hisR ?_
  intro p e s m args below meth c s₁ Bd hml0 hP hK
  obtain ⟨rfl, hZ, hh⟩ := hP
  have hx := Bd.exec
  have hby := Bd.bytes
  have hml : c.maxLocals = 1 := hml0
  have hown : s.vm.findClass "com/example/skip2/skip2/windowsearch/Matches" = some m.cls := findClass_of_methodNamed Bd.named
  have hnm := (name_of_methodNamed Bd.named Bd.method).1
  have X0 : Stand p l e ({ frames := 1, cells := 0, slots := 0, locals := 12 } : Room) s m #[(.ref a1)] below meth c s₁ [] 0 0 := Stand.of_body Bd
  have e0 : s₁.heap = h0 := by rw [← hh, Bd.state]; rfl
  have N0 := Fr.nil n0
  have K0 : Keep h0 h0 [] := Keep.refl _ _
  show own_Go p e below s ({ frames := 1, cells := 0, slots := 0, locals := 12 } : Room).cells ({ frames := 1, cells := 0, slots := 0, locals := 12 } : Room).slots (own_Q_mi Z a1 h0 n0) (s₁.setTop (entryFrame m #[(.ref a1)] 1))
  have ef : entryFrame m #[(.ref a1)] 1 = (mkF m 0 #[.val (.ref a1)] []) := by first | rfl | (simp [entryFrame, mkF, argsToLocals, Value.category, maxLocals]; done)
  rw [ef]
  show own_Go p e below s _ _ _ (s₁.setTop (mkF m 0 #[.val (.ref a1)] []))
  refine own_step (U' := (s₁.setTop (mkF m 1 #[.val (.ref a1)] [(.ref a1)]))) (fun t ht => XS.aloadN X0.here hx rfl (hb hby own_d2_0) rfl rfl ht) ?_
  obtain ⟨T1, X1, e1, st1⟩ := initO X0 hx hZ hown (hw _ (List.mem_of_getElem? (i := 11) rfl)) (hw _ (List.mem_of_getElem? (i := 12) rfl)) (hw _ (List.mem_of_getElem? (i := 13) rfl)) e0 (g := (mkF m 1 #[.val (.ref a1)] [(.ref a1)])) rfl (by rw [hml]; rfl) rfl (hb hby own_d2_1) (by decide) (W := 0) (by show 2 * 0 + _ ≤ _; exact Nat.le_of_eq rfl) (by decide)
  refine own_step (U' := (T1.setTop (mkF m 4 #[.val (.ref a1)] []))) (fun t ht => st1 _ ht) ?_
  refine own_ret X1 (v := none) (fun _ => rfl) Bd.notSynchronized (by decide) (by decide) ?_ (fun fs hr => X1.returnOut hx Bd.returns (hb hby own_d2_4) hr)
  show own_Q_mi Z a1 h0 n0 _ T1.heap _
  rw [e1]
  exact ⟨rfl, N0, rfl⟩
theorem own_pn1 : plainName "com/example/skip2/skip2/windowsearch/Matches$Count" = true := by first | (simp [plainName, overriddenIn]; done) | decide +kernel
theorem own_pd0 : parseMethodDescriptor "()V" = some ⟨[], none⟩ := by decide +kernel
theorem own_d1_0 : decode prog_32_method_1_code 0 = .ok (.aload_n 0, 1) := by decide +kernel
theorem own_d1_1 : decode prog_32_method_1_code 1 = .ok (.invokespecial 1, 3) := by decide +kernel
theorem own_d1_4 : decode prog_32_method_1_code 4 = .ok (.return_, 1) := by decide +kernel
def own_Q_ci (Z : State) (a1 : Addr) (h0 : Heap) (n0 : Nat) (v : Option Value) (h : Heap) (L : List Loc) : Prop := v = none ∧ Fr n0 L ∧ h = h0
set_option maxRecDepth 65536 in
set_option maxHeartbeats 40000000 in
theorem own_m_ci (l : Launch) (Z : State) (a0 : Array Value) (hw : ∀ d ∈ tables_1, d.before a0 Z = true) (ws : List Jvm.Cond) (a1 : Addr) (h0 : Heap) (n0 : Nat) (Z0 : n0 ≤ h0.size)  :
    MetFree l (⟨"com/example/skip2/skip2/windowsearch/Matches$Count", "<init>", "()V"⟩ : MethodName) (head1 (Jvm.Cond.code (⟨"com/example/skip2/skip2/windowsearch/Matches$Count", "<init>", "()V"⟩ : MethodName) prog_32_method_1_code 1 none :: ws) ({ frames := 2, cells := 0, slots := 0, locals := 24 } : Room)) (fun a U => a = #[(.ref a1)] ∧ Z.Warmed39 U.vm ∧ U.heap = h0) (fun _ _ _ _ _ => True) (fun _ U o U' => ∃ v L, o = .returned v ∧ own_Q_ci Z a1 h0 n0 v U'.heap L ∧ FrameEnd U o U' L ({ frames := 2, cells := 0, slots := 0, locals := 24 } : Room).cells ({ frames := 2, cells := 0, slots := 0, locals := 24 } : Room).slots) := by
  refine MetFree.of_bodySF (plainFor_of_name own_pn1) hisR ?_
  intro p e s m args below meth c s₁ Bd hml0 hP hK
  obtain ⟨rfl, hZ, hh⟩ := hP
  have hx := Bd.exec
  have hby := Bd.bytes
  have hml : c.maxLocals = 1 := hml0
  have hown : s.vm.findClass "com/example/skip2/skip2/windowsearch/Matches$Count" = some m.cls := findClass_of_methodNamed Bd.named
  have hnm := (name_of_methodNamed Bd.named Bd.method).1
  have X0 : Stand p l e ({ frames := 2, cells := 0, slots := 0, locals := 24 } : Room) s m #[(.ref a1)] below meth c s₁ [] 0 0 := Stand.of_body Bd
  have e0 : s₁.heap = h0 := by rw [← hh, Bd.state]; rfl
  have N0 := Fr.nil n0
  have K0 : Keep h0 h0 [] := Keep.refl _ _
  show own_Go p e below s ({ frames := 2, cells := 0, slots := 0, locals := 24 } : Room).cells ({ frames := 2, cells := 0, slots := 0, locals := 24 } : Room).slots (own_Q_ci Z a1 h0 n0) (s₁.setTop (entryFrame m #[(.ref a1)] 1))
  have ef : entryFrame m #[(.ref a1)] 1 = (mkF m 0 #[.val (.ref a1)] []) := by first | rfl | (simp [entryFrame, mkF, argsToLocals, Value.category, maxLocals]; done)
  rw [ef]
  show own_Go p e below s _ _ _ (s₁.setTop (mkF m 0 #[.val (.ref a1)] []))
  refine own_step (U' := (s₁.setTop (mkF m 1 #[.val (.ref a1)] [(.ref a1)]))) (fun t ht => XS.aloadN X0.here hx rfl (hb hby own_d1_0) rfl rfl ht) ?_
  obtain ⟨_, _, ⟨T2, L2, k2, n2⟩, -, X2, ⟨Lc2, hQ2, l2, y2, z2⟩, st2⟩ := X0.specialBack hx (y := (⟨"com/example/skip2/skip2/windowsearch/Matches", "<init>", "()V"⟩ : MethodName)) rfl hown (mvT hZ (hw _ (List.mem_of_getElem? (i := 6) rfl))) (mvT hZ (hw _ (List.mem_of_getElem? (i := 7) rfl))) (mvT hZ (hw _ (List.mem_of_getElem? (i := 10) rfl))) (by decide) (backOf (W := 0) (own_m_mi l Z a0 hw [] (a1) h0 n0 Z0 ) hZ (hw _ (List.mem_of_getElem? (i := 10) rfl)) (hw _ (List.mem_of_getElem? (i := 9) rfl)) (by decide) (by decide)) (g := (mkF m 1 #[.val (.ref a1)] [(.ref a1)])) rfl (by rw [hml]; rfl) (Steps.refl _) (a := a1) (argsL := []) (rest := []) (lenOf own_pd0 rfl) rfl (by show 2 * 0 + _ ≤ _; exact Nat.le_of_eq rfl) (hb hby own_d1_1) (fun _ _ => ⟨rfl, e0, (by decide : 0 + 0 ≤ _), (by decide : 0 + 0 ≤ _)⟩)
  dsimp only [Pt.U, Pt.locs, Pt.cells, Pt.slots] at X2 l2 y2 z2 st2 hQ2
  subst l2 y2 z2
  obtain ⟨rfl, Nq2, Kq2⟩ := hQ2
  have N2 := Fr.app N0 Nq2
  have e2 : T2.heap = h0 := Kq2
  refine own_step (U' := (T2.setTop (mkF m 4 #[.val (.ref a1)] []))) (fun t ht => st2.trans ht) ?_
  refine own_ret X2 (v := none) (fun _ => rfl) Bd.notSynchronized (by decide) (by decide) ?_ (fun fs hr => X2.returnOut hx Bd.returns (hb hby own_d1_4) hr)
  show own_Q_ci Z a1 h0 n0 _ T2.heap _
  rw [e2]
  exact ⟨rfl, N2, rfl⟩
theorem own_d4_0 : decode prog_32_method_3_code 0 = .ok (.aload_n 0, 1) := by decide +kernel
theorem own_d4_1 : decode prog_32_method_3_code 1 = .ok (.getfield 7, 3) := by decide +kernel
theorem own_d4_4 : decode prog_32_method_3_code 4 = .ok (.ireturn, 1) := by decide +kernel
def own_Q_ct (Z : State) (a1 : Addr) (c1 : Int32) (h0 : Heap) (n0 : Nat) (v : Option Value) (h : Heap) (L : List Loc) : Prop := v = some (.int c1) ∧ Fr n0 L ∧ h = h0
set_option maxRecDepth 65536 in
set_option maxHeartbeats 40000000 in
theorem own_m_ct (l : Launch) (Z : State) (a0 : Array Value) (hw : ∀ d ∈ tables_1, d.before a0 Z = true) (ws : List Jvm.Cond) (a1 : Addr) (c1 : Int32) (h0 : Heap) (n0 : Nat) (Z0 : n0 ≤ h0.size) (F1 : Fld Z h0 a1 "com/example/skip2/skip2/windowsearch/Matches$Count" "count" "I" (.int c1)) :
    MetFree l (⟨"com/example/skip2/skip2/windowsearch/Matches$Count", "count", "()I"⟩ : MethodName) (head1 (Jvm.Cond.code (⟨"com/example/skip2/skip2/windowsearch/Matches$Count", "count", "()I"⟩ : MethodName) prog_32_method_3_code 1 (some .int) :: ws) ({ frames := 0, cells := 0, slots := 0, locals := 0 } : Room)) (fun a U => a = #[(.ref a1)] ∧ Z.Warmed39 U.vm ∧ U.heap = h0) (fun _ _ _ _ _ => True) (fun _ U o U' => ∃ v L, o = .returned v ∧ own_Q_ct Z a1 c1 h0 n0 v U'.heap L ∧ FrameEnd U o U' L ({ frames := 0, cells := 0, slots := 0, locals := 0 } : Room).cells ({ frames := 0, cells := 0, slots := 0, locals := 0 } : Room).slots) := by
  refine MetFree.of_bodySF (plainFor_of_name own_pn1) hisR ?_
  intro p e s m args below meth c s₁ Bd hml0 hP hK
  obtain ⟨rfl, hZ, hh⟩ := hP
  have hx := Bd.exec
  have hby := Bd.bytes
  have hml : c.maxLocals = 1 := hml0
  have hown : s.vm.findClass "com/example/skip2/skip2/windowsearch/Matches$Count" = some m.cls := findClass_of_methodNamed Bd.named
  have hnm := (name_of_methodNamed Bd.named Bd.method).1
  have X0 : Stand p l e ({ frames := 0, cells := 0, slots := 0, locals := 0 } : Room) s m #[(.ref a1)] below meth c s₁ [] 0 0 := Stand.of_body Bd
  have e0 : s₁.heap = h0 := by rw [← hh, Bd.state]; rfl
  have N0 := Fr.nil n0
  have K0 : Keep h0 h0 [] := Keep.refl _ _
  show own_Go p e below s ({ frames := 0, cells := 0, slots := 0, locals := 0 } : Room).cells ({ frames := 0, cells := 0, slots := 0, locals := 0 } : Room).slots (own_Q_ct Z a1 c1 h0 n0) (s₁.setTop (entryFrame m #[(.ref a1)] 1))
  have ef : entryFrame m #[(.ref a1)] 1 = (mkF m 0 #[.val (.ref a1)] []) := by first | rfl | (simp [entryFrame, mkF, argsToLocals, Value.category, maxLocals]; done)
  rw [ef]
  show own_Go p e below s _ _ _ (s₁.setTop (mkF m 0 #[.val (.ref a1)] []))
  refine own_step (U' := (s₁.setTop (mkF m 1 #[.val (.ref a1)] [(.ref a1)]))) (fun t ht => XS.aloadN X0.here hx rfl (hb hby own_d4_0) rfl rfl ht) ?_
  obtain ⟨T3, X3, e3, st3⟩ := getF X0 hx hZ hown (host := "") (Or.inl (hw _ (List.mem_of_getElem? (i := 19) rfl))) Via.refl e0 F1 (g := (mkF m 1 #[.val (.ref a1)] [(.ref a1)])) rfl rfl (hb hby own_d4_1)
  refine own_step (U' := (T3.setTop (mkF m 4 #[.val (.ref a1)] [(.int c1)]))) (fun t ht => st3 _ ht) ?_
  refine own_ret X3 (v := (some (.int c1))) (fun h => by rw [Bd.returns] at h; cases h) Bd.notSynchronized (by decide) (by decide) ?_ (fun fs hr => retI X3 hx Bd.returns (hb hby own_d4_4) hr)
  show own_Q_ct Z a1 c1 h0 n0 _ T3.heap _
  rw [e3]
  exact ⟨rfl, N0, rfl⟩
theorem own_d5_0 : decode prog_32_method_2_code 0 = .ok (.aload_n 0, 1) := by decide +kernel
theorem own_d5_1 : decode prog_32_method_2_code 1 = .ok (.dup, 1) := by decide +kernel
theorem own_d5_2 : decode prog_32_method_2_code 2 = .ok (.getfield 7, 3) := by decide +kernel
theorem own_d5_5 : decode prog_32_method_2_code 5 = .ok (.iconst 1, 1) := by decide +kernel
theorem own_d5_6 : decode prog_32_method_2_code 6 = .ok (.iadd, 1) := by decide +kernel
theorem own_d5_7 : decode prog_32_method_2_code 7 = .ok (.putfield 7, 3) := by decide +kernel
theorem own_d5_10 : decode prog_32_method_2_code 10 = .ok (.iconst 1, 1) := by decide +kernel
theorem own_d5_11 : decode prog_32_method_2_code 11 = .ok (.ireturn, 1) := by decide +kernel
def own_Q_add (Z : State) (a1 : Addr) (x1 : Int32) (c1 : Int32) (h0 : Heap) (n0 : Nat) (v : Option Value) (h : Heap) (L : List Loc) : Prop := v = some (.int (1 : Int32)) ∧ Fr n0 L ∧ Keep h0 h [a1] ∧ (Fld Z h a1 "com/example/skip2/skip2/windowsearch/Matches$Count" "count" "I" (.int (c1 + (1 : Int32)))) ∧ (Exa Z h a1 "com/example/skip2/skip2/windowsearch/Matches$Count")
set_option maxRecDepth 65536 in
set_option maxHeartbeats 40000000 in
theorem own_m_add (l : Launch) (Z : State) (a0 : Array Value) (hw : ∀ d ∈ tables_1, d.before a0 Z = true) (ws : List Jvm.Cond) (a1 : Addr) (x1 : Int32) (c1 : Int32) (h0 : Heap) (n0 : Nat) (Z0 : n0 ≤ h0.size) (g_a1 : n0 ≤ a1) (F1 : Fld Z h0 a1 "com/example/skip2/skip2/windowsearch/Matches$Count" "count" "I" (.int c1)) (E1 : Exa Z h0 a1 "com/example/skip2/skip2/windowsearch/Matches$Count") :
    MetFree l (⟨"com/example/skip2/skip2/windowsearch/Matches$Count", "add", "(I)Z"⟩ : MethodName) (head1 (Jvm.Cond.code (⟨"com/example/skip2/skip2/windowsearch/Matches$Count", "add", "(I)Z"⟩ : MethodName) prog_32_method_2_code 2 (some .boolean) :: ws) ({ frames := 0, cells := 0, slots := 0, locals := 0 } : Room)) (fun a U => a = #[(.ref a1), (.int x1)] ∧ Z.Warmed39 U.vm ∧ U.heap = h0) (fun _ _ _ _ _ => True) (fun _ U o U' => ∃ v L, o = .returned v ∧ own_Q_add Z a1 x1 c1 h0 n0 v U'.heap L ∧ FrameEnd U o U' L ({ frames := 0, cells := 0, slots := 0, locals := 0 } : Room).cells ({ frames := 0, cells := 0, slots := 0, locals := 0 } : Room).slots) := by
  refine MetFree.of_bodySF (plainFor_of_name own_pn1) hisR ?_
  intro p e s m args below meth c s₁ Bd hml0 hP hK
  obtain ⟨rfl, hZ, hh⟩ := hP
  have hx := Bd.exec
  have hby := Bd.bytes
  have hml : c.maxLocals = 2 := hml0
  have hown : s.vm.findClass "com/example/skip2/skip2/windowsearch/Matches$Count" = some m.cls := findClass_of_methodNamed Bd.named
  have hnm := (name_of_methodNamed Bd.named Bd.method).1
  have X0 : Stand p l e ({ frames := 0, cells := 0, slots := 0, locals := 0 } : Room) s m #[(.ref a1), (.int x1)] below meth c s₁ [] 0 0 := Stand.of_body Bd
  have e0 : s₁.heap = h0 := by rw [← hh, Bd.state]; rfl
  have N0 := Fr.nil n0
  have K0 : Keep h0 h0 [a1] := Keep.refl _ _
  show own_Go p e below s ({ frames := 0, cells := 0, slots := 0, locals := 0 } : Room).cells ({ frames := 0, cells := 0, slots := 0, locals := 0 } : Room).slots (own_Q_add Z a1 x1 c1 h0 n0) (s₁.setTop (entryFrame m #[(.ref a1), (.int x1)] 2))
  have ef : entryFrame m #[(.ref a1), (.int x1)] 2 = (mkF m 0 #[.val (.ref a1), .val (.int x1)] []) := by first | rfl | (simp [entryFrame, mkF, argsToLocals, Value.category, maxLocals]; done)
  rw [ef]
  show own_Go p e below s _ _ _ (s₁.setTop (mkF m 0 #[.val (.ref a1), .val (.int x1)] []))
  refine own_step (U' := (s₁.setTop (mkF m 1 #[.val (.ref a1), .val (.int x1)] [(.ref a1)]))) (fun t ht => XS.aloadN X0.here hx rfl (hb hby own_d5_0) rfl rfl ht) ?_
  refine own_step (U' := (s₁.setTop (mkF m 2 #[.val (.ref a1), .val (.int x1)] [(.ref a1), (.ref a1)]))) (fun t ht => XS.dup X0.here hx rfl (hb hby own_d5_1) rfl rfl ht) ?_
  obtain ⟨T4, X4, e4, st4⟩ := getF X0 hx hZ hown (host := "") (Or.inl (hw _ (List.mem_of_getElem? (i := 19) rfl))) Via.refl e0 F1 (g := (mkF m 2 #[.val (.ref a1), .val (.int x1)] [(.ref a1), (.ref a1)])) rfl rfl (hb hby own_d5_2)
  refine own_step (U' := (T4.setTop (mkF m 5 #[.val (.ref a1), .val (.int x1)] [(.int c1), (.ref a1)]))) (fun t ht => st4 _ ht) ?_
  refine own_step (U' := (T4.setTop (mkF m 6 #[.val (.ref a1), .val (.int x1)] [(.int (1 : Int32)), (.int c1), (.ref a1)]))) (fun t ht => XS.iconst X4.here hx rfl (hb hby own_d5_5) ht) ?_
  refine own_step (U' := (T4.setTop (mkF m 7 #[.val (.ref a1), .val (.int x1)] [(.int (c1 + (1 : Int32))), (.ref a1)]))) (fun t ht => XS.iadd X4.here hx rfl (hb hby own_d5_6) rfl ht) ?_
  obtain ⟨T5, h5, X5, e5, W5, st5⟩ := putF X4 hx hZ hown (host := "") (Or.inl (hw _ (List.mem_of_getElem? (i := 19) rfl))) Via.refl e4 F1 E1 (Or.inl (hw _ (List.mem_of_getElem? (i := 20) rfl))) (hw _ (List.mem_of_getElem? (i := 1) rfl)) (ty := .int) (by decide) rfl rfl (g := (mkF m 7 #[.val (.ref a1), .val (.int x1)] [(.int (c1 + (1 : Int32))), (.ref a1)])) rfl rfl (hb hby own_d5_7)
  have f5_1 : Exa Z h5 a1 "com/example/skip2/skip2/windowsearch/Matches$Count" := E1.wr W5
  have F5 := F1.same W5
  have N5 := Fr.snoc X5 N0 g_a1
  have K5 : Keep h0 h5 [a1] := K0.wr W5 (Or.inl (by simp))
  refine own_step (U' := (T5.setTop (mkF m 10 #[.val (.ref a1), .val (.int x1)] []))) (fun t ht => st5 _ ht) ?_
  refine own_step (U' := (T5.setTop (mkF m 11 #[.val (.ref a1), .val (.int x1)] [(.int (1 : Int32))]))) (fun t ht => XS.iconst X5.here hx rfl (hb hby own_d5_10) ht) ?_
  refine own_ret X5 (v := (some (.int (nar .boolean (1 : Int32))))) (fun h => by rw [Bd.returns] at h; cases h) Bd.notSynchronized (by decide) (by decide) ?_ (fun fs hr => retN X5 hx (t := .boolean) Bd.returns (by simp) (hb hby own_d5_11) hr)
  show own_Q_add Z a1 x1 c1 h0 n0 _ T5.heap _
  rw [e5]
  exact ⟨rfl, N5, K5, F5, f5_1⟩
theorem own_pn2 : plainName "com/example/skip2/skip2/windowsearch/CountAddPinLaw" = true := by first | (simp [plainName, overriddenIn]; done) | decide +kernel
theorem own_pd1 : parseMethodDescriptor "()I" = some ⟨[], some .int⟩ := by decide +kernel
theorem own_pd2 : parseMethodDescriptor "(I)Z" = some ⟨[.int], some .boolean⟩ := by decide +kernel
def own_Q_law (Z : State) (p1 : Int32) (p2 : Int32) (p3 : Int32) (p4 : Int32) (h0 : Heap) (n0 : Nat) (v : Option Value) (h : Heap) (L : List Loc) : Prop := v = some (.int 1) ∧ Fr n0 L
set_option maxRecDepth 65536 in
set_option maxHeartbeats 40000000 in
theorem own_m_law (l : Launch) (Z : State) (a0 : Array Value) (hw : ∀ d ∈ tables_1, d.before a0 Z = true) (ws : List Jvm.Cond) (p1 : Int32) (p2 : Int32) (p3 : Int32) (p4 : Int32) (h0 : Heap) (n0 : Nat) (Z0 : n0 ≤ h0.size)  :
    MetFree l x (head1 (Jvm.Cond.code x code maxLocals ret :: ws) room_1) (fun a U => a = #[(.int p1), (.int p2), (.int p3), (.int p4)] ∧ Z.Warmed39 U.vm ∧ U.heap = h0) (fun _ _ _ _ _ => True) (fun _ U o U' => ∃ v L, o = .returned v ∧ own_Q_law Z p1 p2 p3 p4 h0 n0 v U'.heap L ∧ FrameEnd U o U' L 1 1) := by
  refine MetFree.of_bodySF (plainFor_of_name own_pn2) hisR ?_
  intro p e s m args below meth c s₁ Bd hml0 hP hK
  obtain ⟨rfl, hZ, hh⟩ := hP
  have hx := Bd.exec
  have hby := Bd.bytes
  have hml : c.maxLocals = 6 := hml0
  have hown : s.vm.findClass "com/example/skip2/skip2/windowsearch/CountAddPinLaw" = some m.cls := findClass_of_methodNamed Bd.named
  have hnm := (name_of_methodNamed Bd.named Bd.method).1
  have X0 : Stand p l e room_1 s m #[(.int p1), (.int p2), (.int p3), (.int p4)] below meth c s₁ [] 0 0 := Stand.of_body Bd
  have e0 : s₁.heap = h0 := by rw [← hh, Bd.state]; rfl
  have N0 := Fr.nil n0
  have K0 : Keep h0 h0 [] := Keep.refl _ _
  show own_Go p e below s 1 1 (own_Q_law Z p1 p2 p3 p4 h0 n0) (s₁.setTop (entryFrame m #[(.int p1), (.int p2), (.int p3), (.int p4)] maxLocals))
  have ef : entryFrame m #[(.int p1), (.int p2), (.int p3), (.int p4)] maxLocals = (mkF m 0 #[.val (.int p1), .val (.int p2), .val (.int p3), .val (.int p4), .unset, .unset] []) := by first | rfl | (simp [entryFrame, mkF, argsToLocals, Value.category, maxLocals]; done)
  rw [ef]
  show own_Go p e below s _ _ _ (s₁.setTop (mkF m 0 #[.val (.int p1), .val (.int p2), .val (.int p3), .val (.int p4), .unset, .unset] []))
  obtain ⟨T6, h6, X6, e6, E6, A6, D6, -, st6⟩ := newO X0 hx hZ hown (hw _ (List.mem_of_getElem? (i := 0) rfl)) (hw _ (List.mem_of_getElem? (i := 1) rfl)) (hw _ (List.mem_of_getElem? (i := 2) rfl)) e0 (g := (mkF m 0 #[.val (.int p1), .val (.int p2), .val (.int p3), .val (.int p4), .unset, .unset] [])) rfl (hb hby at_0) (by decide) (by decide)
  obtain ⟨b6, g6⟩ : ∃ z, z = (h0).size := ⟨_, rfl⟩
  rw [← g6] at A6 D6 st6
  have g_b6 : n0 ≤ b6 := Nat.le_trans (Nat.le_trans Z0 K0.1) (Nat.le_of_eq g6.symm)
  have sz_b6 : h0.size ≤ b6 := Nat.le_trans K0.1 (Nat.le_of_eq g6.symm)
  have K6 : Keep h0 h6 [] := K0.ext E6
  have F6_20 : Fld Z h6 b6 "com/example/skip2/skip2/windowsearch/Matches$Count" "count" "I" (.int (0 : Int32)) := D6 (Or.inl (hw _ (List.mem_of_getElem? (i := 20) rfl))) (ty := .int) (by decide)
  refine own_step (U' := (T6.setTop (mkF m 3 #[.val (.int p1), .val (.int p2), .val (.int p3), .val (.int p4), .unset, .unset] [(.ref b6)]))) (fun t ht => st6 _ ht) ?_
  refine own_step (U' := (T6.setTop (mkF m 4 #[.val (.int p1), .val (.int p2), .val (.int p3), .val (.int p4), .unset, .unset] [(.ref b6), (.ref b6)]))) (fun t ht => XS.dup X6.here hx rfl (hb hby at_3) rfl rfl ht) ?_
  obtain ⟨_, _, ⟨T7, L7, k7, n7⟩, -, X7, ⟨Lc7, hQ7, l7, y7, z7⟩, st7⟩ := X6.specialBack hx (y := (⟨"com/example/skip2/skip2/windowsearch/Matches$Count", "<init>", "()V"⟩ : MethodName)) rfl hown (mvT hZ (hw _ (List.mem_of_getElem? (i := 3) rfl))) (mvT hZ (hw _ (List.mem_of_getElem? (i := 4) rfl))) (mvT hZ (hw _ (List.mem_of_getElem? (i := 5) rfl))) (by decide) (backOf (W := 1) (own_m_ci l Z a0 hw [] (b6) h6 n0 (Nat.le_trans Z0 K6.1) ) hZ (hw _ (List.mem_of_getElem? (i := 5) rfl)) (hw _ (List.mem_of_getElem? (i := 2) rfl)) (by decide) (by decide)) (g := (mkF m 4 #[.val (.int p1), .val (.int p2), .val (.int p3), .val (.int p4), .unset, .unset] [(.ref b6), (.ref b6)])) rfl (by rw [hml]; rfl) (Steps.refl _) (a := b6) (argsL := []) (rest := [(.ref b6)]) (lenOf own_pd0 rfl) rfl (by show 2 * 0 + _ ≤ _; exact Nat.le_of_eq rfl) (hb hby at_4) (fun _ _ => ⟨rfl, e6, (by decide : 1 + 0 ≤ _), (by decide : 1 + 0 ≤ _)⟩)
  dsimp only [Pt.U, Pt.locs, Pt.cells, Pt.slots] at X7 l7 y7 z7 st7 hQ7
  subst l7 y7 z7
  obtain ⟨rfl, Nq7, Kq7⟩ := hQ7
  have N7 := Fr.app N0 Nq7
  have e7 : T7.heap = h6 := Kq7
  refine own_step (U' := (T7.setTop (mkF m 7 #[.val (.int p1), .val (.int p2), .val (.int p3), .val (.int p4), .unset, .unset] [(.ref b6)]))) (fun t ht => st7.trans ht) ?_
  refine own_step (U' := (T7.setTop (mkF m 9 #[.val (.int p1), .val (.int p2), .val (.int p3), .val (.int p4), .val (.ref b6), .unset] []))) (fun t ht => XS.astore X7.here hx rfl (hb hby at_7) rfl rfl (l' := #[.val (.int p1), .val (.int p2), .val (.int p3), .val (.int p4), .val (.ref b6), .unset]) rfl ht) ?_
  refine own_step (U' := (T7.setTop (mkF m 11 #[.val (.int p1), .val (.int p2), .val (.int p3), .val (.int p4), .val (.ref b6), .unset] [(.ref b6)]))) (fun t ht => XS.aload X7.here hx rfl (hb hby at_9) rfl rfl ht) ?_
  obtain ⟨cq8, kq8, q8a, q8b, q8c⟩ := isOf hZ e7 A6
  obtain ⟨_, _, ⟨T8, L8, k8, n8⟩, -, X8, ⟨Lc8, hQ8, l8, y8, z8⟩, st8⟩ := X7.virtualBack hx (y := (⟨"com/example/skip2/skip2/windowsearch/Matches$Count", "count", "()I"⟩ : MethodName)) (z := (⟨"com/example/skip2/skip2/windowsearch/Matches$Count", "count", "()I"⟩ : MethodName)) hown (mvT hZ (hw _ (List.mem_of_getElem? (i := 14) rfl))) (mvT hZ (hw _ (List.mem_of_getElem? (i := 15) rfl))) (notFace_of_selects (args := #[]) (mvT hZ (hw _ (List.mem_of_getElem? (i := 17) rfl)))) (mvT hZ (hw _ (List.mem_of_getElem? (i := 17) rfl))) (mvT hZ (hw _ (List.mem_of_getElem? (i := 16) rfl))) (by decide) (backOf (W := 0) (own_m_ct l Z a0 hw [] (b6) ((0 : Int32)) h6 n0 (Nat.le_trans Z0 K6.1) F6_20) hZ (hw _ (List.mem_of_getElem? (i := 18) rfl)) (hw _ (List.mem_of_getElem? (i := 2) rfl)) (by decide) (by decide)) q8a q8c (g := (mkF m 11 #[.val (.int p1), .val (.int p2), .val (.int p3), .val (.int p4), .val (.ref b6), .unset] [(.ref b6)])) rfl (by rw [hml]; rfl) (Steps.refl _) (argsL := []) (rest := []) (lenOf own_pd1 rfl) rfl (by show 2 * 0 + _ ≤ _; exact Nat.le_of_eq rfl) (hb hby at_11) (fun _ _ => ⟨rfl, e7, (by decide : 1 + 0 ≤ _), (by decide : 1 + 0 ≤ _)⟩)
  dsimp only [Pt.U, Pt.locs, Pt.cells, Pt.slots] at X8 l8 y8 z8 st8 hQ8
  subst l8 y8 z8
  obtain ⟨rfl, Nq8, Kq8⟩ := hQ8
  have N8 := Fr.app N7 Nq8
  have e8 : T8.heap = h6 := Kq8
  refine own_step (U' := (T8.setTop (mkF m 14 #[.val (.int p1), .val (.int p2), .val (.int p3), .val (.int p4), .val (.ref b6), .unset] [(.int (0 : Int32))]))) (fun t ht => st8.trans ht) ?_
  refine own_step (U' := (T8.setTop (mkF m 19 #[.val (.int p1), .val (.int p2), .val (.int p3), .val (.int p4), .val (.ref b6), .unset] []))) (fun t ht => XS.ifYes X8.here hx rfl (pc0 := 14) (pc' := 19) rfl (hb hby at_14) rfl (XT.i0_eq_t ((by decide) : (0 : Int32) = 0)) (by decide) (by decide) ht) ?_
  refine own_step (U' := (T8.setTop (mkF m 20 #[.val (.int p1), .val (.int p2), .val (.int p3), .val (.int p4), .val (.ref b6), .unset] [(.int p4)]))) (fun t ht => XS.iloadN X8.here hx rfl (hb hby at_19) rfl ht) ?_
  refine own_step (U' := (T8.setTop (mkF m 21 #[.val (.int p1), .val (.int p2), .val (.int p3), .val (.int p4), .val (.ref b6), .unset] [(.int (3 : Int32)), (.int p4)]))) (fun t ht => XS.iconst X8.here hx rfl (hb hby at_20) ht) ?_
  refine own_step (U' := (T8.setTop (mkF m 22 #[.val (.int p1), .val (.int p2), .val (.int p3), .val (.int p4), .val (.ref b6), .unset] [(.int (p4 &&& (3 : Int32)))]))) (fun t ht => XS.iand X8.here hx rfl (hb hby at_21) rfl ht) ?_
  refine own_step (U' := (T8.setTop (mkF m 24 #[.val (.int p1), .val (.int p2), .val (.int p3), .val (.int p4), .val (.ref b6), .val (.int (p4 &&& (3 : Int32)))] []))) (fun t ht => XS.istore X8.here hx rfl (hb hby at_22) rfl (l' := #[.val (.int p1), .val (.int p2), .val (.int p3), .val (.int p4), .val (.ref b6), .val (.int (p4 &&& (3 : Int32)))]) rfl ht) ?_
  generalize h_n : (p4 &&& (3 : Int32)) = n
  refine own_step (U' := (T8.setTop (mkF m 26 #[.val (.int p1), .val (.int p2), .val (.int p3), .val (.int p4), .val (.ref b6), .val (.int n)] [(.int n)]))) (fun t ht => XS.iload X8.here hx rfl (hb hby at_24) rfl ht) ?_
  refine own_step (U' := (T8.setTop (mkF m 27 #[.val (.int p1), .val (.int p2), .val (.int p3), .val (.int p4), .val (.ref b6), .val (.int n)] [(.int (1 : Int32)), (.int n)]))) (fun t ht => XS.iconst X8.here hx rfl (hb hby at_26) ht) ?_
  by_cases hc27_9 : n < (1 : Int32)
  ·
    refine own_step (U' := (T8.setTop (mkF m 52 #[.val (.int p1), .val (.int p2), .val (.int p3), .val (.int p4), .val (.ref b6), .val (.int n)] []))) (fun t ht => XS.icmpYes X8.here hx rfl (pc0 := 27) (pc' := 52) rfl (hb hby at_27) rfl (XT.ii_lt_t hc27_9) (by decide) (by decide) ht) ?_
    refine own_step (U' := (T8.setTop (mkF m 54 #[.val (.int p1), .val (.int p2), .val (.int p3), .val (.int p4), .val (.ref b6), .val (.int n)] [(.int n)]))) (fun t ht => XS.iload X8.here hx rfl (hb hby at_52) rfl ht) ?_
    refine own_step (U' := (T8.setTop (mkF m 55 #[.val (.int p1), .val (.int p2), .val (.int p3), .val (.int p4), .val (.ref b6), .val (.int n)] [(.int (2 : Int32)), (.int n)]))) (fun t ht => XS.iconst X8.here hx rfl (hb hby at_54) ht) ?_
    refine own_step (U' := (T8.setTop (mkF m 80 #[.val (.int p1), .val (.int p2), .val (.int p3), .val (.int p4), .val (.ref b6), .val (.int n)] []))) (fun t ht => XS.icmpYes X8.here hx rfl (pc0 := 55) (pc' := 80) rfl (hb hby at_55) rfl (XT.ii_lt_t ((own_12 hc27_9) : n < (2 : Int32))) (by decide) (by decide) ht) ?_
    refine own_step (U' := (T8.setTop (mkF m 82 #[.val (.int p1), .val (.int p2), .val (.int p3), .val (.int p4), .val (.ref b6), .val (.int n)] [(.int n)]))) (fun t ht => XS.iload X8.here hx rfl (hb hby at_80) rfl ht) ?_
    refine own_step (U' := (T8.setTop (mkF m 83 #[.val (.int p1), .val (.int p2), .val (.int p3), .val (.int p4), .val (.ref b6), .val (.int n)] [(.int (3 : Int32)), (.int n)]))) (fun t ht => XS.iconst X8.here hx rfl (hb hby at_82) ht) ?_
    refine own_step (U' := (T8.setTop (mkF m 97 #[.val (.int p1), .val (.int p2), .val (.int p3), .val (.int p4), .val (.ref b6), .val (.int n)] []))) (fun t ht => XS.icmpYes X8.here hx rfl (pc0 := 83) (pc' := 97) rfl (hb hby at_83) rfl (XT.ii_lt_t ((own_23 (own_12 hc27_9)) : n < (3 : Int32))) (by decide) (by decide) ht) ?_
    refine own_step (U' := (T8.setTop (mkF m 99 #[.val (.int p1), .val (.int p2), .val (.int p3), .val (.int p4), .val (.ref b6), .val (.int n)] [(.ref b6)]))) (fun t ht => XS.aload X8.here hx rfl (hb hby at_97) rfl rfl ht) ?_
    obtain ⟨cq10, kq10, q10a, q10b, q10c⟩ := isOf hZ e8 A6
    obtain ⟨_, _, ⟨T10, L10, k10, n10⟩, -, X10, ⟨Lc10, hQ10, l10, y10, z10⟩, st10⟩ := X8.virtualBack hx (y := (⟨"com/example/skip2/skip2/windowsearch/Matches$Count", "count", "()I"⟩ : MethodName)) (z := (⟨"com/example/skip2/skip2/windowsearch/Matches$Count", "count", "()I"⟩ : MethodName)) hown (mvT hZ (hw _ (List.mem_of_getElem? (i := 14) rfl))) (mvT hZ (hw _ (List.mem_of_getElem? (i := 15) rfl))) (notFace_of_selects (args := #[]) (mvT hZ (hw _ (List.mem_of_getElem? (i := 17) rfl)))) (mvT hZ (hw _ (List.mem_of_getElem? (i := 17) rfl))) (mvT hZ (hw _ (List.mem_of_getElem? (i := 16) rfl))) (by decide) (backOf (W := 0) (own_m_ct l Z a0 hw [] (b6) ((0 : Int32)) h6 n0 (Nat.le_trans Z0 K6.1) F6_20) hZ (hw _ (List.mem_of_getElem? (i := 18) rfl)) (hw _ (List.mem_of_getElem? (i := 2) rfl)) (by decide) (by decide)) q10a q10c (g := (mkF m 99 #[.val (.int p1), .val (.int p2), .val (.int p3), .val (.int p4), .val (.ref b6), .val (.int n)] [(.ref b6)])) rfl (by rw [hml]; rfl) (Steps.refl _) (argsL := []) (rest := []) (lenOf own_pd1 rfl) rfl (by show 2 * 0 + _ ≤ _; exact Nat.le_of_eq rfl) (hb hby at_99) (fun _ _ => ⟨rfl, e8, (by decide : 1 + 0 ≤ _), (by decide : 1 + 0 ≤ _)⟩)
    dsimp only [Pt.U, Pt.locs, Pt.cells, Pt.slots] at X10 l10 y10 z10 st10 hQ10
    subst l10 y10 z10
    obtain ⟨rfl, Nq10, Kq10⟩ := hQ10
    have N10 := Fr.app N8 Nq10
    have e10 : T10.heap = h6 := Kq10
    refine own_step (U' := (T10.setTop (mkF m 102 #[.val (.int p1), .val (.int p2), .val (.int p3), .val (.int p4), .val (.ref b6), .val (.int n)] [(.int (0 : Int32))]))) (fun t ht => st10.trans ht) ?_
    refine own_step (U' := (T10.setTop (mkF m 104 #[.val (.int p1), .val (.int p2), .val (.int p3), .val (.int p4), .val (.ref b6), .val (.int n)] [(.int n), (.int (0 : Int32))]))) (fun t ht => XS.iload X10.here hx rfl (hb hby at_102) rfl ht) ?_
    refine own_step (U' := (T10.setTop (mkF m 107 #[.val (.int p1), .val (.int p2), .val (.int p3), .val (.int p4), .val (.ref b6), .val (.int n)] []))) (fun t ht => XS.icmpNo X10.here hx rfl (hb hby at_104) rfl (XT.ii_ne_f ((own_pin0 h_n hc27_9) : (0 : Int32) = n)) ht) ?_
    refine own_step (U' := (T10.setTop (mkF m 108 #[.val (.int p1), .val (.int p2), .val (.int p3), .val (.int p4), .val (.ref b6), .val (.int n)] [(.int (1 : Int32))]))) (fun t ht => XS.iconst X10.here hx rfl (hb hby at_107) ht) ?_
    refine own_step (U' := (T10.setTop (mkF m 112 #[.val (.int p1), .val (.int p2), .val (.int p3), .val (.int p4), .val (.ref b6), .val (.int n)] [(.int (1 : Int32))]))) (fun t ht => XS.goto X10.here hx rfl (pc0 := 108) (pc' := 112) rfl (hb hby at_108) (by decide) (by decide) ht) ?_
    refine own_ret X10 (v := (some (.int (nar .boolean (1 : Int32))))) (fun h => by rw [Bd.returns] at h; cases h) Bd.notSynchronized (by decide) (by decide) ?_ (fun fs hr => retN X10 hx (t := .boolean) Bd.returns (by simp) (hb hby at_112) hr)
    show own_Q_law Z p1 p2 p3 p4 h0 n0 _ T10.heap _
    rw [e10]
    exact ⟨rfl, N10⟩
  ·
    refine own_step (U' := (T8.setTop (mkF m 30 #[.val (.int p1), .val (.int p2), .val (.int p3), .val (.int p4), .val (.ref b6), .val (.int n)] []))) (fun t ht => XS.icmpNo X8.here hx rfl (hb hby at_27) rfl (XT.ii_lt_f hc27_9) ht) ?_
    refine own_step (U' := (T8.setTop (mkF m 32 #[.val (.int p1), .val (.int p2), .val (.int p3), .val (.int p4), .val (.ref b6), .val (.int n)] [(.ref b6)]))) (fun t ht => XS.aload X8.here hx rfl (hb hby at_30) rfl rfl ht) ?_
    refine own_step (U' := (T8.setTop (mkF m 33 #[.val (.int p1), .val (.int p2), .val (.int p3), .val (.int p4), .val (.ref b6), .val (.int n)] [(.int p1), (.ref b6)]))) (fun t ht => XS.iloadN X8.here hx rfl (hb hby at_32) rfl ht) ?_
    obtain ⟨cq11, kq11, q11a, q11b, q11c⟩ := isOf hZ e8 A6
    obtain ⟨_, _, ⟨T11, L11, k11, n11⟩, -, X11, ⟨Lc11, hQ11, l11, y11, z11⟩, st11⟩ := X8.virtualBack hx (y := (⟨"com/example/skip2/skip2/windowsearch/Matches$Count", "add", "(I)Z"⟩ : MethodName)) (z := (⟨"com/example/skip2/skip2/windowsearch/Matches$Count", "add", "(I)Z"⟩ : MethodName)) hown (mvT hZ (hw _ (List.mem_of_getElem? (i := 21) rfl))) (mvT hZ (hw _ (List.mem_of_getElem? (i := 22) rfl))) (notFace_of_selects (args := #[]) (mvT hZ (hw _ (List.mem_of_getElem? (i := 24) rfl)))) (mvT hZ (hw _ (List.mem_of_getElem? (i := 24) rfl))) (mvT hZ (hw _ (List.mem_of_getElem? (i := 23) rfl))) (by decide) (backOf (W := 0) (own_m_add l Z a0 hw [] (b6) (p1) ((0 : Int32)) h6 n0 (Nat.le_trans Z0 K6.1) g_b6 F6_20 A6) hZ (hw _ (List.mem_of_getElem? (i := 25) rfl)) (hw _ (List.mem_of_getElem? (i := 2) rfl)) (by decide) (by decide)) q11a q11c (g := (mkF m 33 #[.val (.int p1), .val (.int p2), .val (.int p3), .val (.int p4), .val (.ref b6), .val (.int n)] [(.int p1), (.ref b6)])) rfl (by rw [hml]; rfl) (Steps.refl _) (argsL := [(.int p1)]) (rest := []) (lenOf own_pd2 rfl) rfl (by show 2 * 0 + _ ≤ _; exact Nat.le_of_eq rfl) (hb hby at_33) (fun _ _ => ⟨rfl, e8, (by decide : 1 + 0 ≤ _), (by decide : 1 + 0 ≤ _)⟩)
    dsimp only [Pt.U, Pt.locs, Pt.cells, Pt.slots] at X11 l11 y11 z11 st11 hQ11
    subst l11 y11 z11
    obtain ⟨rfl, Nq11, Kq11, Fq11_0, Fq11_1⟩ := hQ11
    have N11 := Fr.app N8 Nq11
    have f11_0 : Exa Z T11.heap b6 "com/example/skip2/skip2/windowsearch/Matches$Count" := A6.keep Kq11
    have K11 : Keep h0 T11.heap [] := K6.trans Kq11 (allS (Or.inr sz_b6) all0)
    refine own_step (U' := (T11.setTop (mkF m 36 #[.val (.int p1), .val (.int p2), .val (.int p3), .val (.int p4), .val (.ref b6), .val (.int n)] [(.int (1 : Int32))]))) (fun t ht => st11.trans ht) ?_
    refine own_step (U' := (T11.setTop (mkF m 41 #[.val (.int p1), .val (.int p2), .val (.int p3), .val (.int p4), .val (.ref b6), .val (.int n)] []))) (fun t ht => XS.ifYes X11.here hx rfl (pc0 := 36) (pc' := 41) rfl (hb hby at_36) rfl (XT.i0_ne_t ((by decide) : ¬ ((1 : Int32) = 0))) (by decide) (by decide) ht) ?_
    refine own_step (U' := (T11.setTop (mkF m 43 #[.val (.int p1), .val (.int p2), .val (.int p3), .val (.int p4), .val (.ref b6), .val (.int n)] [(.ref b6)]))) (fun t ht => XS.aload X11.here hx rfl (hb hby at_41) rfl rfl ht) ?_
    obtain ⟨cq12, kq12, q12a, q12b, q12c⟩ := isOf hZ rfl Fq11_1
    obtain ⟨_, _, ⟨T12, L12, k12, n12⟩, -, X12, ⟨Lc12, hQ12, l12, y12, z12⟩, st12⟩ := X11.virtualBack hx (y := (⟨"com/example/skip2/skip2/windowsearch/Matches$Count", "count", "()I"⟩ : MethodName)) (z := (⟨"com/example/skip2/skip2/windowsearch/Matches$Count", "count", "()I"⟩ : MethodName)) hown (mvT hZ (hw _ (List.mem_of_getElem? (i := 14) rfl))) (mvT hZ (hw _ (List.mem_of_getElem? (i := 15) rfl))) (notFace_of_selects (args := #[]) (mvT hZ (hw _ (List.mem_of_getElem? (i := 17) rfl)))) (mvT hZ (hw _ (List.mem_of_getElem? (i := 17) rfl))) (mvT hZ (hw _ (List.mem_of_getElem? (i := 16) rfl))) (by decide) (backOf (W := 0) (own_m_ct l Z a0 hw [] (b6) (((0 : Int32) + (1 : Int32))) T11.heap n0 (Nat.le_trans Z0 K11.1) Fq11_0) hZ (hw _ (List.mem_of_getElem? (i := 18) rfl)) (hw _ (List.mem_of_getElem? (i := 2) rfl)) (by decide) (by decide)) q12a q12c (g := (mkF m 43 #[.val (.int p1), .val (.int p2), .val (.int p3), .val (.int p4), .val (.ref b6), .val (.int n)] [(.ref b6)])) rfl (by rw [hml]; rfl) (Steps.refl _) (argsL := []) (rest := []) (lenOf own_pd1 rfl) rfl (by show 2 * 0 + _ ≤ _; exact Nat.le_of_eq rfl) (hb hby at_43) (fun _ _ => ⟨rfl, rfl, (by decide : 1 + 0 ≤ _), (by decide : 1 + 0 ≤ _)⟩)
    dsimp only [Pt.U, Pt.locs, Pt.cells, Pt.slots] at X12 l12 y12 z12 st12 hQ12
    subst l12 y12 z12
    obtain ⟨rfl, Nq12, Kq12⟩ := hQ12
    have N12 := Fr.app N11 Nq12
    have e12 : T12.heap = T11.heap := Kq12
    refine own_step (U' := (T12.setTop (mkF m 46 #[.val (.int p1), .val (.int p2), .val (.int p3), .val (.int p4), .val (.ref b6), .val (.int n)] [(.int ((0 : Int32) + (1 : Int32)))]))) (fun t ht => st12.trans ht) ?_
    refine own_step (U' := (T12.setTop (mkF m 47 #[.val (.int p1), .val (.int p2), .val (.int p3), .val (.int p4), .val (.ref b6), .val (.int n)] [(.int (1 : Int32)), (.int ((0 : Int32) + (1 : Int32)))]))) (fun t ht => XS.iconst X12.here hx rfl (hb hby at_46) ht) ?_
    refine own_step (U' := (T12.setTop (mkF m 52 #[.val (.int p1), .val (.int p2), .val (.int p3), .val (.int p4), .val (.ref b6), .val (.int n)] []))) (fun t ht => XS.icmpYes X12.here hx rfl (pc0 := 47) (pc' := 52) rfl (hb hby at_47) rfl (XT.ii_eq_t ((by decide) : ((0 : Int32) + (1 : Int32)) = (1 : Int32))) (by decide) (by decide) ht) ?_
    refine own_step (U' := (T12.setTop (mkF m 54 #[.val (.int p1), .val (.int p2), .val (.int p3), .val (.int p4), .val (.ref b6), .val (.int n)] [(.int n)]))) (fun t ht => XS.iload X12.here hx rfl (hb hby at_52) rfl ht) ?_
    refine own_step (U' := (T12.setTop (mkF m 55 #[.val (.int p1), .val (.int p2), .val (.int p3), .val (.int p4), .val (.ref b6), .val (.int n)] [(.int (2 : Int32)), (.int n)]))) (fun t ht => XS.iconst X12.here hx rfl (hb hby at_54) ht) ?_
    by_cases hc55_13 : n < (2 : Int32)
    ·
      refine own_step (U' := (T12.setTop (mkF m 80 #[.val (.int p1), .val (.int p2), .val (.int p3), .val (.int p4), .val (.ref b6), .val (.int n)] []))) (fun t ht => XS.icmpYes X12.here hx rfl (pc0 := 55) (pc' := 80) rfl (hb hby at_55) rfl (XT.ii_lt_t hc55_13) (by decide) (by decide) ht) ?_
      refine own_step (U' := (T12.setTop (mkF m 82 #[.val (.int p1), .val (.int p2), .val (.int p3), .val (.int p4), .val (.ref b6), .val (.int n)] [(.int n)]))) (fun t ht => XS.iload X12.here hx rfl (hb hby at_80) rfl ht) ?_
      refine own_step (U' := (T12.setTop (mkF m 83 #[.val (.int p1), .val (.int p2), .val (.int p3), .val (.int p4), .val (.ref b6), .val (.int n)] [(.int (3 : Int32)), (.int n)]))) (fun t ht => XS.iconst X12.here hx rfl (hb hby at_82) ht) ?_
      refine own_step (U' := (T12.setTop (mkF m 97 #[.val (.int p1), .val (.int p2), .val (.int p3), .val (.int p4), .val (.ref b6), .val (.int n)] []))) (fun t ht => XS.icmpYes X12.here hx rfl (pc0 := 83) (pc' := 97) rfl (hb hby at_83) rfl (XT.ii_lt_t ((own_23 hc55_13) : n < (3 : Int32))) (by decide) (by decide) ht) ?_
      refine own_step (U' := (T12.setTop (mkF m 99 #[.val (.int p1), .val (.int p2), .val (.int p3), .val (.int p4), .val (.ref b6), .val (.int n)] [(.ref b6)]))) (fun t ht => XS.aload X12.here hx rfl (hb hby at_97) rfl rfl ht) ?_
      obtain ⟨cq14, kq14, q14a, q14b, q14c⟩ := isOf hZ e12 Fq11_1
      obtain ⟨_, _, ⟨T14, L14, k14, n14⟩, -, X14, ⟨Lc14, hQ14, l14, y14, z14⟩, st14⟩ := X12.virtualBack hx (y := (⟨"com/example/skip2/skip2/windowsearch/Matches$Count", "count", "()I"⟩ : MethodName)) (z := (⟨"com/example/skip2/skip2/windowsearch/Matches$Count", "count", "()I"⟩ : MethodName)) hown (mvT hZ (hw _ (List.mem_of_getElem? (i := 14) rfl))) (mvT hZ (hw _ (List.mem_of_getElem? (i := 15) rfl))) (notFace_of_selects (args := #[]) (mvT hZ (hw _ (List.mem_of_getElem? (i := 17) rfl)))) (mvT hZ (hw _ (List.mem_of_getElem? (i := 17) rfl))) (mvT hZ (hw _ (List.mem_of_getElem? (i := 16) rfl))) (by decide) (backOf (W := 0) (own_m_ct l Z a0 hw [] (b6) (((0 : Int32) + (1 : Int32))) T11.heap n0 (Nat.le_trans Z0 K11.1) Fq11_0) hZ (hw _ (List.mem_of_getElem? (i := 18) rfl)) (hw _ (List.mem_of_getElem? (i := 2) rfl)) (by decide) (by decide)) q14a q14c (g := (mkF m 99 #[.val (.int p1), .val (.int p2), .val (.int p3), .val (.int p4), .val (.ref b6), .val (.int n)] [(.ref b6)])) rfl (by rw [hml]; rfl) (Steps.refl _) (argsL := []) (rest := []) (lenOf own_pd1 rfl) rfl (by show 2 * 0 + _ ≤ _; exact Nat.le_of_eq rfl) (hb hby at_99) (fun _ _ => ⟨rfl, e12, (by decide : 1 + 0 ≤ _), (by decide : 1 + 0 ≤ _)⟩)
      dsimp only [Pt.U, Pt.locs, Pt.cells, Pt.slots] at X14 l14 y14 z14 st14 hQ14
      subst l14 y14 z14
      obtain ⟨rfl, Nq14, Kq14⟩ := hQ14
      have N14 := Fr.app N12 Nq14
      have e14 : T14.heap = T11.heap := Kq14
      refine own_step (U' := (T14.setTop (mkF m 102 #[.val (.int p1), .val (.int p2), .val (.int p3), .val (.int p4), .val (.ref b6), .val (.int n)] [(.int ((0 : Int32) + (1 : Int32)))]))) (fun t ht => st14.trans ht) ?_
      refine own_step (U' := (T14.setTop (mkF m 104 #[.val (.int p1), .val (.int p2), .val (.int p3), .val (.int p4), .val (.ref b6), .val (.int n)] [(.int n), (.int ((0 : Int32) + (1 : Int32)))]))) (fun t ht => XS.iload X14.here hx rfl (hb hby at_102) rfl ht) ?_
      refine own_step (U' := (T14.setTop (mkF m 107 #[.val (.int p1), .val (.int p2), .val (.int p3), .val (.int p4), .val (.ref b6), .val (.int n)] []))) (fun t ht => XS.icmpNo X14.here hx rfl (hb hby at_104) rfl (XT.ii_ne_f ((own_pin1 hc27_9 hc55_13) : ((0 : Int32) + (1 : Int32)) = n)) ht) ?_
      refine own_step (U' := (T14.setTop (mkF m 108 #[.val (.int p1), .val (.int p2), .val (.int p3), .val (.int p4), .val (.ref b6), .val (.int n)] [(.int (1 : Int32))]))) (fun t ht => XS.iconst X14.here hx rfl (hb hby at_107) ht) ?_
      refine own_step (U' := (T14.setTop (mkF m 112 #[.val (.int p1), .val (.int p2), .val (.int p3), .val (.int p4), .val (.ref b6), .val (.int n)] [(.int (1 : Int32))]))) (fun t ht => XS.goto X14.here hx rfl (pc0 := 108) (pc' := 112) rfl (hb hby at_108) (by decide) (by decide) ht) ?_
      refine own_ret X14 (v := (some (.int (nar .boolean (1 : Int32))))) (fun h => by rw [Bd.returns] at h; cases h) Bd.notSynchronized (by decide) (by decide) ?_ (fun fs hr => retN X14 hx (t := .boolean) Bd.returns (by simp) (hb hby at_112) hr)
      show own_Q_law Z p1 p2 p3 p4 h0 n0 _ T14.heap _
      rw [e14]
      exact ⟨rfl, N14⟩
    ·
      refine own_step (U' := (T12.setTop (mkF m 58 #[.val (.int p1), .val (.int p2), .val (.int p3), .val (.int p4), .val (.ref b6), .val (.int n)] []))) (fun t ht => XS.icmpNo X12.here hx rfl (hb hby at_55) rfl (XT.ii_lt_f hc55_13) ht) ?_
      refine own_step (U' := (T12.setTop (mkF m 60 #[.val (.int p1), .val (.int p2), .val (.int p3), .val (.int p4), .val (.ref b6), .val (.int n)] [(.ref b6)]))) (fun t ht => XS.aload X12.here hx rfl (hb hby at_58) rfl rfl ht) ?_
      refine own_step (U' := (T12.setTop (mkF m 61 #[.val (.int p1), .val (.int p2), .val (.int p3), .val (.int p4), .val (.ref b6), .val (.int n)] [(.int p2), (.ref b6)]))) (fun t ht => XS.iloadN X12.here hx rfl (hb hby at_60) rfl ht) ?_
      obtain ⟨cq15, kq15, q15a, q15b, q15c⟩ := isOf hZ e12 Fq11_1
      obtain ⟨_, _, ⟨T15, L15, k15, n15⟩, -, X15, ⟨Lc15, hQ15, l15, y15, z15⟩, st15⟩ := X12.virtualBack hx (y := (⟨"com/example/skip2/skip2/windowsearch/Matches$Count", "add", "(I)Z"⟩ : MethodName)) (z := (⟨"com/example/skip2/skip2/windowsearch/Matches$Count", "add", "(I)Z"⟩ : MethodName)) hown (mvT hZ (hw _ (List.mem_of_getElem? (i := 21) rfl))) (mvT hZ (hw _ (List.mem_of_getElem? (i := 22) rfl))) (notFace_of_selects (args := #[]) (mvT hZ (hw _ (List.mem_of_getElem? (i := 24) rfl)))) (mvT hZ (hw _ (List.mem_of_getElem? (i := 24) rfl))) (mvT hZ (hw _ (List.mem_of_getElem? (i := 23) rfl))) (by decide) (backOf (W := 0) (own_m_add l Z a0 hw [] (b6) (p2) (((0 : Int32) + (1 : Int32))) T11.heap n0 (Nat.le_trans Z0 K11.1) g_b6 Fq11_0 Fq11_1) hZ (hw _ (List.mem_of_getElem? (i := 25) rfl)) (hw _ (List.mem_of_getElem? (i := 2) rfl)) (by decide) (by decide)) q15a q15c (g := (mkF m 61 #[.val (.int p1), .val (.int p2), .val (.int p3), .val (.int p4), .val (.ref b6), .val (.int n)] [(.int p2), (.ref b6)])) rfl (by rw [hml]; rfl) (Steps.refl _) (argsL := [(.int p2)]) (rest := []) (lenOf own_pd2 rfl) rfl (by show 2 * 0 + _ ≤ _; exact Nat.le_of_eq rfl) (hb hby at_61) (fun _ _ => ⟨rfl, e12, (by decide : 1 + 0 ≤ _), (by decide : 1 + 0 ≤ _)⟩)
      dsimp only [Pt.U, Pt.locs, Pt.cells, Pt.slots] at X15 l15 y15 z15 st15 hQ15
      subst l15 y15 z15
      obtain ⟨rfl, Nq15, Kq15, Fq15_0, Fq15_1⟩ := hQ15
      have N15 := Fr.app N12 Nq15
      have f15_1 : Exa Z T15.heap b6 "com/example/skip2/skip2/windowsearch/Matches$Count" := Fq11_1.keep Kq15
      have K15 : Keep h0 T15.heap [] := K11.trans Kq15 (allS (Or.inr sz_b6) all0)
      refine own_step (U' := (T15.setTop (mkF m 64 #[.val (.int p1), .val (.int p2), .val (.int p3), .val (.int p4), .val (.ref b6), .val (.int n)] [(.int (1 : Int32))]))) (fun t ht => st15.trans ht) ?_
      refine own_step (U' := (T15.setTop (mkF m 69 #[.val (.int p1), .val (.int p2), .val (.int p3), .val (.int p4), .val (.ref b6), .val (.int n)] []))) (fun t ht => XS.ifYes X15.here hx rfl (pc0 := 64) (pc' := 69) rfl (hb hby at_64) rfl (XT.i0_ne_t ((by decide) : ¬ ((1 : Int32) = 0))) (by decide) (by decide) ht) ?_
      refine own_step (U' := (T15.setTop (mkF m 71 #[.val (.int p1), .val (.int p2), .val (.int p3), .val (.int p4), .val (.ref b6), .val (.int n)] [(.ref b6)]))) (fun t ht => XS.aload X15.here hx rfl (hb hby at_69) rfl rfl ht) ?_
      obtain ⟨cq16, kq16, q16a, q16b, q16c⟩ := isOf hZ rfl Fq15_1
      obtain ⟨_, _, ⟨T16, L16, k16, n16⟩, -, X16, ⟨Lc16, hQ16, l16, y16, z16⟩, st16⟩ := X15.virtualBack hx (y := (⟨"com/example/skip2/skip2/windowsearch/Matches$Count", "count", "()I"⟩ : MethodName)) (z := (⟨"com/example/skip2/skip2/windowsearch/Matches$Count", "count", "()I"⟩ : MethodName)) hown (mvT hZ (hw _ (List.mem_of_getElem? (i := 14) rfl))) (mvT hZ (hw _ (List.mem_of_getElem? (i := 15) rfl))) (notFace_of_selects (args := #[]) (mvT hZ (hw _ (List.mem_of_getElem? (i := 17) rfl)))) (mvT hZ (hw _ (List.mem_of_getElem? (i := 17) rfl))) (mvT hZ (hw _ (List.mem_of_getElem? (i := 16) rfl))) (by decide) (backOf (W := 0) (own_m_ct l Z a0 hw [] (b6) ((((0 : Int32) + (1 : Int32)) + (1 : Int32))) T15.heap n0 (Nat.le_trans Z0 K15.1) Fq15_0) hZ (hw _ (List.mem_of_getElem? (i := 18) rfl)) (hw _ (List.mem_of_getElem? (i := 2) rfl)) (by decide) (by decide)) q16a q16c (g := (mkF m 71 #[.val (.int p1), .val (.int p2), .val (.int p3), .val (.int p4), .val (.ref b6), .val (.int n)] [(.ref b6)])) rfl (by rw [hml]; rfl) (Steps.refl _) (argsL := []) (rest := []) (lenOf own_pd1 rfl) rfl (by show 2 * 0 + _ ≤ _; exact Nat.le_of_eq rfl) (hb hby at_71) (fun _ _ => ⟨rfl, rfl, (by decide : 1 + 0 ≤ _), (by decide : 1 + 0 ≤ _)⟩)
      dsimp only [Pt.U, Pt.locs, Pt.cells, Pt.slots] at X16 l16 y16 z16 st16 hQ16
      subst l16 y16 z16
      obtain ⟨rfl, Nq16, Kq16⟩ := hQ16
      have N16 := Fr.app N15 Nq16
      have e16 : T16.heap = T15.heap := Kq16
      refine own_step (U' := (T16.setTop (mkF m 74 #[.val (.int p1), .val (.int p2), .val (.int p3), .val (.int p4), .val (.ref b6), .val (.int n)] [(.int (((0 : Int32) + (1 : Int32)) + (1 : Int32)))]))) (fun t ht => st16.trans ht) ?_
      refine own_step (U' := (T16.setTop (mkF m 75 #[.val (.int p1), .val (.int p2), .val (.int p3), .val (.int p4), .val (.ref b6), .val (.int n)] [(.int (2 : Int32)), (.int (((0 : Int32) + (1 : Int32)) + (1 : Int32)))]))) (fun t ht => XS.iconst X16.here hx rfl (hb hby at_74) ht) ?_
      refine own_step (U' := (T16.setTop (mkF m 80 #[.val (.int p1), .val (.int p2), .val (.int p3), .val (.int p4), .val (.ref b6), .val (.int n)] []))) (fun t ht => XS.icmpYes X16.here hx rfl (pc0 := 75) (pc' := 80) rfl (hb hby at_75) rfl (XT.ii_eq_t ((by decide) : (((0 : Int32) + (1 : Int32)) + (1 : Int32)) = (2 : Int32))) (by decide) (by decide) ht) ?_
      refine own_step (U' := (T16.setTop (mkF m 82 #[.val (.int p1), .val (.int p2), .val (.int p3), .val (.int p4), .val (.ref b6), .val (.int n)] [(.int n)]))) (fun t ht => XS.iload X16.here hx rfl (hb hby at_80) rfl ht) ?_
      refine own_step (U' := (T16.setTop (mkF m 83 #[.val (.int p1), .val (.int p2), .val (.int p3), .val (.int p4), .val (.ref b6), .val (.int n)] [(.int (3 : Int32)), (.int n)]))) (fun t ht => XS.iconst X16.here hx rfl (hb hby at_82) ht) ?_
      by_cases hc83_17 : n < (3 : Int32)
      ·
        refine own_step (U' := (T16.setTop (mkF m 97 #[.val (.int p1), .val (.int p2), .val (.int p3), .val (.int p4), .val (.ref b6), .val (.int n)] []))) (fun t ht => XS.icmpYes X16.here hx rfl (pc0 := 83) (pc' := 97) rfl (hb hby at_83) rfl (XT.ii_lt_t hc83_17) (by decide) (by decide) ht) ?_
        refine own_step (U' := (T16.setTop (mkF m 99 #[.val (.int p1), .val (.int p2), .val (.int p3), .val (.int p4), .val (.ref b6), .val (.int n)] [(.ref b6)]))) (fun t ht => XS.aload X16.here hx rfl (hb hby at_97) rfl rfl ht) ?_
        obtain ⟨cq18, kq18, q18a, q18b, q18c⟩ := isOf hZ e16 Fq15_1
        obtain ⟨_, _, ⟨T18, L18, k18, n18⟩, -, X18, ⟨Lc18, hQ18, l18, y18, z18⟩, st18⟩ := X16.virtualBack hx (y := (⟨"com/example/skip2/skip2/windowsearch/Matches$Count", "count", "()I"⟩ : MethodName)) (z := (⟨"com/example/skip2/skip2/windowsearch/Matches$Count", "count", "()I"⟩ : MethodName)) hown (mvT hZ (hw _ (List.mem_of_getElem? (i := 14) rfl))) (mvT hZ (hw _ (List.mem_of_getElem? (i := 15) rfl))) (notFace_of_selects (args := #[]) (mvT hZ (hw _ (List.mem_of_getElem? (i := 17) rfl)))) (mvT hZ (hw _ (List.mem_of_getElem? (i := 17) rfl))) (mvT hZ (hw _ (List.mem_of_getElem? (i := 16) rfl))) (by decide) (backOf (W := 0) (own_m_ct l Z a0 hw [] (b6) ((((0 : Int32) + (1 : Int32)) + (1 : Int32))) T15.heap n0 (Nat.le_trans Z0 K15.1) Fq15_0) hZ (hw _ (List.mem_of_getElem? (i := 18) rfl)) (hw _ (List.mem_of_getElem? (i := 2) rfl)) (by decide) (by decide)) q18a q18c (g := (mkF m 99 #[.val (.int p1), .val (.int p2), .val (.int p3), .val (.int p4), .val (.ref b6), .val (.int n)] [(.ref b6)])) rfl (by rw [hml]; rfl) (Steps.refl _) (argsL := []) (rest := []) (lenOf own_pd1 rfl) rfl (by show 2 * 0 + _ ≤ _; exact Nat.le_of_eq rfl) (hb hby at_99) (fun _ _ => ⟨rfl, e16, (by decide : 1 + 0 ≤ _), (by decide : 1 + 0 ≤ _)⟩)
        dsimp only [Pt.U, Pt.locs, Pt.cells, Pt.slots] at X18 l18 y18 z18 st18 hQ18
        subst l18 y18 z18
        obtain ⟨rfl, Nq18, Kq18⟩ := hQ18
        have N18 := Fr.app N16 Nq18
        have e18 : T18.heap = T15.heap := Kq18
        refine own_step (U' := (T18.setTop (mkF m 102 #[.val (.int p1), .val (.int p2), .val (.int p3), .val (.int p4), .val (.ref b6), .val (.int n)] [(.int (((0 : Int32) + (1 : Int32)) + (1 : Int32)))]))) (fun t ht => st18.trans ht) ?_
        refine own_step (U' := (T18.setTop (mkF m 104 #[.val (.int p1), .val (.int p2), .val (.int p3), .val (.int p4), .val (.ref b6), .val (.int n)] [(.int n), (.int (((0 : Int32) + (1 : Int32)) + (1 : Int32)))]))) (fun t ht => XS.iload X18.here hx rfl (hb hby at_102) rfl ht) ?_
        refine own_step (U' := (T18.setTop (mkF m 107 #[.val (.int p1), .val (.int p2), .val (.int p3), .val (.int p4), .val (.ref b6), .val (.int n)] []))) (fun t ht => XS.icmpNo X18.here hx rfl (hb hby at_104) rfl (XT.ii_ne_f ((own_pin2 hc55_13 hc83_17) : (((0 : Int32) + (1 : Int32)) + (1 : Int32)) = n)) ht) ?_
        refine own_step (U' := (T18.setTop (mkF m 108 #[.val (.int p1), .val (.int p2), .val (.int p3), .val (.int p4), .val (.ref b6), .val (.int n)] [(.int (1 : Int32))]))) (fun t ht => XS.iconst X18.here hx rfl (hb hby at_107) ht) ?_
        refine own_step (U' := (T18.setTop (mkF m 112 #[.val (.int p1), .val (.int p2), .val (.int p3), .val (.int p4), .val (.ref b6), .val (.int n)] [(.int (1 : Int32))]))) (fun t ht => XS.goto X18.here hx rfl (pc0 := 108) (pc' := 112) rfl (hb hby at_108) (by decide) (by decide) ht) ?_
        refine own_ret X18 (v := (some (.int (nar .boolean (1 : Int32))))) (fun h => by rw [Bd.returns] at h; cases h) Bd.notSynchronized (by decide) (by decide) ?_ (fun fs hr => retN X18 hx (t := .boolean) Bd.returns (by simp) (hb hby at_112) hr)
        show own_Q_law Z p1 p2 p3 p4 h0 n0 _ T18.heap _
        rw [e18]
        exact ⟨rfl, N18⟩
      ·
        refine own_step (U' := (T16.setTop (mkF m 86 #[.val (.int p1), .val (.int p2), .val (.int p3), .val (.int p4), .val (.ref b6), .val (.int n)] []))) (fun t ht => XS.icmpNo X16.here hx rfl (hb hby at_83) rfl (XT.ii_lt_f hc83_17) ht) ?_
        refine own_step (U' := (T16.setTop (mkF m 88 #[.val (.int p1), .val (.int p2), .val (.int p3), .val (.int p4), .val (.ref b6), .val (.int n)] [(.ref b6)]))) (fun t ht => XS.aload X16.here hx rfl (hb hby at_86) rfl rfl ht) ?_
        refine own_step (U' := (T16.setTop (mkF m 89 #[.val (.int p1), .val (.int p2), .val (.int p3), .val (.int p4), .val (.ref b6), .val (.int n)] [(.int p3), (.ref b6)]))) (fun t ht => XS.iloadN X16.here hx rfl (hb hby at_88) rfl ht) ?_
        obtain ⟨cq19, kq19, q19a, q19b, q19c⟩ := isOf hZ e16 Fq15_1
        obtain ⟨_, _, ⟨T19, L19, k19, n19⟩, -, X19, ⟨Lc19, hQ19, l19, y19, z19⟩, st19⟩ := X16.virtualBack hx (y := (⟨"com/example/skip2/skip2/windowsearch/Matches$Count", "add", "(I)Z"⟩ : MethodName)) (z := (⟨"com/example/skip2/skip2/windowsearch/Matches$Count", "add", "(I)Z"⟩ : MethodName)) hown (mvT hZ (hw _ (List.mem_of_getElem? (i := 21) rfl))) (mvT hZ (hw _ (List.mem_of_getElem? (i := 22) rfl))) (notFace_of_selects (args := #[]) (mvT hZ (hw _ (List.mem_of_getElem? (i := 24) rfl)))) (mvT hZ (hw _ (List.mem_of_getElem? (i := 24) rfl))) (mvT hZ (hw _ (List.mem_of_getElem? (i := 23) rfl))) (by decide) (backOf (W := 0) (own_m_add l Z a0 hw [] (b6) (p3) ((((0 : Int32) + (1 : Int32)) + (1 : Int32))) T15.heap n0 (Nat.le_trans Z0 K15.1) g_b6 Fq15_0 Fq15_1) hZ (hw _ (List.mem_of_getElem? (i := 25) rfl)) (hw _ (List.mem_of_getElem? (i := 2) rfl)) (by decide) (by decide)) q19a q19c (g := (mkF m 89 #[.val (.int p1), .val (.int p2), .val (.int p3), .val (.int p4), .val (.ref b6), .val (.int n)] [(.int p3), (.ref b6)])) rfl (by rw [hml]; rfl) (Steps.refl _) (argsL := [(.int p3)]) (rest := []) (lenOf own_pd2 rfl) rfl (by show 2 * 0 + _ ≤ _; exact Nat.le_of_eq rfl) (hb hby at_89) (fun _ _ => ⟨rfl, e16, (by decide : 1 + 0 ≤ _), (by decide : 1 + 0 ≤ _)⟩)
        dsimp only [Pt.U, Pt.locs, Pt.cells, Pt.slots] at X19 l19 y19 z19 st19 hQ19
        subst l19 y19 z19
        obtain ⟨rfl, Nq19, Kq19, Fq19_0, Fq19_1⟩ := hQ19
        have N19 := Fr.app N16 Nq19
        have f19_1 : Exa Z T19.heap b6 "com/example/skip2/skip2/windowsearch/Matches$Count" := Fq15_1.keep Kq19
        have K19 : Keep h0 T19.heap [] := K15.trans Kq19 (allS (Or.inr sz_b6) all0)
        refine own_step (U' := (T19.setTop (mkF m 92 #[.val (.int p1), .val (.int p2), .val (.int p3), .val (.int p4), .val (.ref b6), .val (.int n)] [(.int (1 : Int32))]))) (fun t ht => st19.trans ht) ?_
        refine own_step (U' := (T19.setTop (mkF m 97 #[.val (.int p1), .val (.int p2), .val (.int p3), .val (.int p4), .val (.ref b6), .val (.int n)] []))) (fun t ht => XS.ifYes X19.here hx rfl (pc0 := 92) (pc' := 97) rfl (hb hby at_92) rfl (XT.i0_ne_t ((by decide) : ¬ ((1 : Int32) = 0))) (by decide) (by decide) ht) ?_
        refine own_step (U' := (T19.setTop (mkF m 99 #[.val (.int p1), .val (.int p2), .val (.int p3), .val (.int p4), .val (.ref b6), .val (.int n)] [(.ref b6)]))) (fun t ht => XS.aload X19.here hx rfl (hb hby at_97) rfl rfl ht) ?_
        obtain ⟨cq20, kq20, q20a, q20b, q20c⟩ := isOf hZ rfl Fq19_1
        obtain ⟨_, _, ⟨T20, L20, k20, n20⟩, -, X20, ⟨Lc20, hQ20, l20, y20, z20⟩, st20⟩ := X19.virtualBack hx (y := (⟨"com/example/skip2/skip2/windowsearch/Matches$Count", "count", "()I"⟩ : MethodName)) (z := (⟨"com/example/skip2/skip2/windowsearch/Matches$Count", "count", "()I"⟩ : MethodName)) hown (mvT hZ (hw _ (List.mem_of_getElem? (i := 14) rfl))) (mvT hZ (hw _ (List.mem_of_getElem? (i := 15) rfl))) (notFace_of_selects (args := #[]) (mvT hZ (hw _ (List.mem_of_getElem? (i := 17) rfl)))) (mvT hZ (hw _ (List.mem_of_getElem? (i := 17) rfl))) (mvT hZ (hw _ (List.mem_of_getElem? (i := 16) rfl))) (by decide) (backOf (W := 0) (own_m_ct l Z a0 hw [] (b6) (((((0 : Int32) + (1 : Int32)) + (1 : Int32)) + (1 : Int32))) T19.heap n0 (Nat.le_trans Z0 K19.1) Fq19_0) hZ (hw _ (List.mem_of_getElem? (i := 18) rfl)) (hw _ (List.mem_of_getElem? (i := 2) rfl)) (by decide) (by decide)) q20a q20c (g := (mkF m 99 #[.val (.int p1), .val (.int p2), .val (.int p3), .val (.int p4), .val (.ref b6), .val (.int n)] [(.ref b6)])) rfl (by rw [hml]; rfl) (Steps.refl _) (argsL := []) (rest := []) (lenOf own_pd1 rfl) rfl (by show 2 * 0 + _ ≤ _; exact Nat.le_of_eq rfl) (hb hby at_99) (fun _ _ => ⟨rfl, rfl, (by decide : 1 + 0 ≤ _), (by decide : 1 + 0 ≤ _)⟩)
        dsimp only [Pt.U, Pt.locs, Pt.cells, Pt.slots] at X20 l20 y20 z20 st20 hQ20
        subst l20 y20 z20
        obtain ⟨rfl, Nq20, Kq20⟩ := hQ20
        have N20 := Fr.app N19 Nq20
        have e20 : T20.heap = T19.heap := Kq20
        refine own_step (U' := (T20.setTop (mkF m 102 #[.val (.int p1), .val (.int p2), .val (.int p3), .val (.int p4), .val (.ref b6), .val (.int n)] [(.int ((((0 : Int32) + (1 : Int32)) + (1 : Int32)) + (1 : Int32)))]))) (fun t ht => st20.trans ht) ?_
        refine own_step (U' := (T20.setTop (mkF m 104 #[.val (.int p1), .val (.int p2), .val (.int p3), .val (.int p4), .val (.ref b6), .val (.int n)] [(.int n), (.int ((((0 : Int32) + (1 : Int32)) + (1 : Int32)) + (1 : Int32)))]))) (fun t ht => XS.iload X20.here hx rfl (hb hby at_102) rfl ht) ?_
        refine own_step (U' := (T20.setTop (mkF m 107 #[.val (.int p1), .val (.int p2), .val (.int p3), .val (.int p4), .val (.ref b6), .val (.int n)] []))) (fun t ht => XS.icmpNo X20.here hx rfl (hb hby at_104) rfl (XT.ii_ne_f ((own_pin3 h_n hc83_17) : ((((0 : Int32) + (1 : Int32)) + (1 : Int32)) + (1 : Int32)) = n)) ht) ?_
        refine own_step (U' := (T20.setTop (mkF m 108 #[.val (.int p1), .val (.int p2), .val (.int p3), .val (.int p4), .val (.ref b6), .val (.int n)] [(.int (1 : Int32))]))) (fun t ht => XS.iconst X20.here hx rfl (hb hby at_107) ht) ?_
        refine own_step (U' := (T20.setTop (mkF m 112 #[.val (.int p1), .val (.int p2), .val (.int p3), .val (.int p4), .val (.ref b6), .val (.int n)] [(.int (1 : Int32))]))) (fun t ht => XS.goto X20.here hx rfl (pc0 := 108) (pc' := 112) rfl (hb hby at_108) (by decide) (by decide) ht) ?_
        refine own_ret X20 (v := (some (.int (nar .boolean (1 : Int32))))) (fun h => by rw [Bd.returns] at h; cases h) Bd.notSynchronized (by decide) (by decide) ?_ (fun fs hr => retN X20 hx (t := .boolean) Bd.returns (by simp) (hb hby at_112) hr)
        show own_Q_law Z p1 p2 p3 p4 h0 n0 _ T20.heap _
        rw [e20]
        exact ⟨rfl, N20⟩
set_option maxRecDepth 65536 in
set_option maxHeartbeats 40000000 in
theorem own_comes {Post : Tables → Env → Array Value → State → Outcome → State → Prop} (hpost : ∀ tb e args s v u, (limb_1_1.after args s (.returned v) u = true ∧ limb_1_2.after args s (.returned v) u = true ∧ True) → FrameEnd s (.returned v) u (Jvm.fieldLocs frame_1_writes args s ++ Jvm.arrayLocs frame_1_arrays args s ++ Jvm.staticLocs frame_1_statics s) 16 128 → Post tb e args s (.returned v) u) :
    ArmFor flags0 classFile x code maxLocals ret World_1 tables_1 room_1 Calls_1 rest_1 Pre_1 Post := by
  intro l hfl _ _ p e ha hc hk s m args below hf hA hF happ hP
  obtain ⟨hcalls, hrest, hpre⟩ := hP
  obtain ⟨-, -, -, hnamed, -, -, -, hat⟩ := (Spec.applies_iff hf).mp happ
  obtain ⟨hg, hn⟩ := and_e (Cond.before_iff.mp (show (Jvm.Cond.and given_1 narrow_1).before args s = true from hpre))
  obtain ⟨hcount, q0⟩ := and_e hg
  obtain ⟨a0, q1⟩ := and_e q0
  obtain ⟨a1, q2⟩ := and_e q1
  obtain ⟨a2, q3⟩ := and_e q2
  have a3 := q3
  obtain ⟨w0, w1, w2, w3, rfl⟩ : ∃ w0 w1 w2 w3 : Value, args = #[w0, w1, w2, w3] := by
    have hs : args.size = 4 := by simpa [Cond.value, given_1] using hcount
    obtain ⟨L⟩ := args
    match L, hs with
    | [w0, w1, w2, w3], _ => exact ⟨w0, w1, w2, w3, rfl⟩
  obtain ⟨i0, e0⟩ := is_v a0
  obtain rfl : w0 = (.int i0) := Option.some.inj e0
  obtain ⟨i1, e1⟩ := is_v a1
  obtain rfl : w1 = (.int i1) := Option.some.inj e1
  obtain ⟨i2, e2⟩ := is_v a2
  obtain rfl : w2 = (.int i2) := Option.some.inj e2
  obtain ⟨i3, e3⟩ := is_v a3
  obtain rfl : w3 = (.int i3) := Option.some.inj e3
  have hw := fun d (hd : d ∈ tables_1) => atoms_spec (ws := Jvm.Cond.code x code maxLocals ret :: tables_1) hat d (List.mem_cons_of_mem _ hd)
  have hfit : Fit s := fun {y c} hc i hi => by
    obtain ⟨ha, rfl⟩ := Array.getElem?_eq_some_iff.mp hc
    have q := List.all_eq_true.mp ((Array.all_eq_true_iff_forall_mem.mp hF) _ (Array.getElem_mem ha)) i (List.mem_range.mpr hi)
    simpa [Array.getElem?_eq_getElem hi] using q

  obtain ⟨n, o, h1, h2, h3, _, L, rfl, ⟨rfl, N⟩, hq⟩ := own_m_law l s _ hw tables_1 i0 i1 i2 i3  s.heap s.heap.size (Nat.le_refl _)  p e ha hc hk s m _ below hf ((Spec.applies_iff_loose hf).mp happ).1 ⟨rfl, State.Warmed39.refl s, rfl⟩ trivial
  refine ⟨n, _, h1, h2, h3, hpost _ _ _ _ _ _ ⟨Cond.after_iff.mpr rfl, Cond.after_iff.mpr (eq_i res_at (Term.int_eval (1)) rfl), trivial⟩ ⟨hq.1, hq.2.1, (hq.2.2.sift fun y hy => Or.inr (N y hy)).mono (by decide) (by decide)⟩⟩
theorem main_1_1 : Claimed_1_1 := own_comes fun _ _ _ _ _ _ h hF => ⟨h.1, hF⟩
theorem main_1_2 : Claimed_1_2 := own_comes fun _ _ _ _ _ _ h hF => ⟨h.2.1, hF⟩
end Jvm.Pilot.@@N@@
namespace Jvm.Pilot.@@N@@
open Jvm Jvm.ClassFile Sem Op Lib Jvm.Free Jvm.Stand Jvm.Pilot.@@N@@.Jvm.D
/-! MADE BY PROGRAM (witnessworld.py) out of the Statement's table words and the real class files: 8 classes; the members and pool entries that the words name. The judged class is class 1, her method 1. -/
namespace start1
open Jvm.ClassFile
def u (s : String) : CpInfo := .utf8 (stringToUtf16 s)
/-- a pool by its gaps: so many unusable entries, then the entry; so many at the end -/
def gap : Nat → List CpInfo → List CpInfo
  | 0, r => r
  | n + 1, r => .unusable :: gap n r
def poolList (es : List (Nat × CpInfo)) (last : Nat) : List CpInfo := es.foldr (fun e r => gap e.1 (e.2 :: r)) (gap last [])
def pool (es : List (Nat × CpInfo)) (last : Nat) : Array CpInfo := ⟨poolList es last⟩
def fileOf (pool : Array CpInfo) (this : Nat) (attrs : Array Attribute := #[]) (ms : Array MethodInfo := #[]) (fl : Nat := 33) (sup : Nat := 0) (ifs : Array Nat := #[]) (fds : Array FieldInfo := #[]) : ClassFile where
  minorVersion := 0
  majorVersion := 65
  constantPool := pool
  accessFlags := fl
  thisClass := this
  superClass := sup
  interfaces := ifs
  fields := fds
  methods := ms
  attributes := attrs
def plain (name : String) (sup : Option ClassId) : Class where
  name := name
  kind := .ordinary
  loader := none
  accessFlags := 33
  super := sup
  interfaces := #[]
  cf := none
  fields := #[]
  methods := #[]
  instanceTypes := #[]
  staticTypes := #[]
  resolved := #[]
  callSites := []
  init := .initialized
  statics := none
  mirror := none

def pool0 : Array CpInfo := pool [(5, u "<init>"), (0, u "()V"), (1, .class_ 10), (1, u "java/lang/Object")] 113

def k0c0 : Code := { maxStack := 0, maxLocals := 1, code := object_method_1_code, exceptionTable := #[], attributes := #[] }
def k0m0 : Method := { name := "<init>", desc := "()V", sig := { parameters := [], returnType := none }, accessFlags := 1, code := some k0c0 }
/-- java/lang/Object -/
def k0 : Class := { plain "java/lang/Object" none with
  accessFlags := 33
  interfaces := #[]
  cf := some (fileOf pool0 8 #[] #[{ accessFlags := 1, nameIndex := 5, descriptorIndex := 6, attributes := #[] }] 33 0 #[] #[])
  fields := #[]
  methods := #[k0m0]
  instanceTypes := #[]
  staticTypes := #[]
  resolved := Array.replicate 124 none
  statics := none }

def pool1 : Array CpInfo := pool [(2, .class_ 4), (0, .nameAndType 5 6), (0, u "java/lang/Object"), (0, u "<init>"), (0, u "()V"), (0, .class_ 8), (0, u "com/example/skip2/skip2/windowsearch/Matches$Count"), (0, .methodref 7 3), (0, .methodref 7 11), (0, .nameAndType 12 13), (0, u "count"), (0, u "()I"), (0, .methodref 7 15), (0, .nameAndType 16 17), (0, u "add"), (0, u "(I)Z"), (0, .class_ 19), (0, u "com/example/skip2/skip2/windowsearch/CountAddPinLaw"), (2, u "law"), (0, u "(IIII)Z")] 7

def k1m0 : Method := { name := "<init>", desc := "()V", sig := { parameters := [], returnType := none }, accessFlags := 1, code := none }
def k1c1 : Code := { maxStack := 2, maxLocals := 6, code := code, exceptionTable := #[], attributes := #[] }
def k1m1 : Method := { name := "law", desc := "(IIII)Z", sig := { parameters := [.int, .int, .int, .int], returnType := some .boolean }, accessFlags := 9, code := some k1c1 }
/-- com/example/skip2/skip2/windowsearch/CountAddPinLaw -/
def k1 : Class := { plain "com/example/skip2/skip2/windowsearch/CountAddPinLaw" (some 0) with
  accessFlags := 49
  interfaces := #[]
  cf := some (fileOf pool1 18 #[] #[{ accessFlags := 1, nameIndex := 5, descriptorIndex := 6, attributes := #[] }, { accessFlags := 9, nameIndex := 22, descriptorIndex := 23, attributes := #[] }] 49 2 #[] #[])
  fields := #[]
  methods := #[k1m0, k1m1]
  instanceTypes := #[]
  staticTypes := #[]
  resolved := Array.replicate 31 none
  statics := none }

def pool2 : Array CpInfo := pool [(1, .methodref 2 3), (0, .class_ 4), (0, .nameAndType 5 6), (0, u "java/lang/Object"), (0, u "<init>"), (0, u "()V"), (0, .class_ 8), (0, u "com/example/skip2/skip2/windowsearch/Matches$All"), (10, .class_ 21), (1, u "com/example/skip2/skip2/windowsearch/Matches"), (14, .class_ 37), (0, u "com/example/skip2/skip2/windowsearch/Matches$Each"), (0, .class_ 39), (0, u "com/example/skip2/skip2/windowsearch/Matches$Count"), (0, .class_ 41), (0, u "com/example/skip2/skip2/windowsearch/Matches$First")] 5

def k2c0 : Code := { maxStack := 1, maxLocals := 1, code := prog_30_method_1_code, exceptionTable := #[], attributes := #[] }
def k2m0 : Method := { name := "<init>", desc := "()V", sig := { parameters := [], returnType := none }, accessFlags := 1, code := some k2c0 }
/-- com/example/skip2/skip2/windowsearch/Matches -/
def k2 : Class := { plain "com/example/skip2/skip2/windowsearch/Matches" (some 0) with
  accessFlags := 1057
  interfaces := #[]
  cf := some (fileOf pool2 19 #[.nestMembers #[36, 7, 38, 40]] #[{ accessFlags := 1, nameIndex := 5, descriptorIndex := 6, attributes := #[] }] 1057 2 #[] #[])
  fields := #[]
  methods := #[k2m0]
  instanceTypes := #[]
  staticTypes := #[]
  resolved := Array.replicate 47 none
  statics := none }

def pool3 : Array CpInfo := pool [(1, .methodref 2 3), (0, .class_ 4), (0, .nameAndType 5 6), (0, u "com/example/skip2/skip2/windowsearch/Matches"), (0, u "<init>"), (0, u "()V"), (0, .fieldref 8 9), (0, .class_ 10), (0, .nameAndType 11 12), (0, u "com/example/skip2/skip2/windowsearch/Matches$Count"), (0, u "count"), (0, u "I"), (2, u "add"), (0, u "(I)Z"), (0, u "()I")] 11

def k3c0 : Code := { maxStack := 1, maxLocals := 1, code := prog_32_method_1_code, exceptionTable := #[], attributes := #[] }
def k3m0 : Method := { name := "<init>", desc := "()V", sig := { parameters := [], returnType := none }, accessFlags := 0, code := some k3c0 }
def k3c1 : Code := { maxStack := 3, maxLocals := 2, code := prog_32_method_2_code, exceptionTable := #[], attributes := #[] }
def k3m1 : Method := { name := "add", desc := "(I)Z", sig := { parameters := [.int], returnType := some .boolean }, accessFlags := 1, code := some k3c1 }
def k3c2 : Code := { maxStack := 1, maxLocals := 1, code := prog_32_method_3_code, exceptionTable := #[], attributes := #[] }
def k3m2 : Method := { name := "count", desc := "()I", sig := { parameters := [], returnType := some .int }, accessFlags := 0, code := some k3c2 }
/-- com/example/skip2/skip2/windowsearch/Matches$Count -/
def k3 : Class := { plain "com/example/skip2/skip2/windowsearch/Matches$Count" (some 2) with
  accessFlags := 32
  interfaces := #[]
  cf := some (fileOf pool3 8 #[.nestHost 2] #[{ accessFlags := 0, nameIndex := 5, descriptorIndex := 6, attributes := #[] }, { accessFlags := 1, nameIndex := 15, descriptorIndex := 16, attributes := #[] }, { accessFlags := 0, nameIndex := 11, descriptorIndex := 17, attributes := #[] }] 32 2 #[] #[{ accessFlags := 2, nameIndex := 11, descriptorIndex := 12, attributes := #[] }])
  fields := #[{ name := "count", type := .int, accessFlags := 2, slot := 0, constantValue := 0 }]
  methods := #[k3m0, k3m1, k3m2]
  instanceTypes := #[.int]
  staticTypes := #[]
  resolved := Array.replicate 29 none
  statics := none }

def pool4 : Array CpInfo := pool [(1, u "java/lang/Cloneable"), (0, .class_ 1), (0, u "java/lang/Object"), (0, .class_ 3)] 3

/-- java/lang/Cloneable -/
def k4 : Class := { plain "java/lang/Cloneable" (some 0) with
  accessFlags := 1537
  interfaces := #[]
  cf := some (fileOf pool4 2 #[] #[] 1537 4 #[] #[])
  fields := #[]
  methods := #[]
  instanceTypes := #[]
  staticTypes := #[]
  resolved := Array.replicate 8 none
  statics := none }

def pool5 : Array CpInfo := pool [(1, u "java/io/Serializable"), (0, .class_ 1), (0, u "java/lang/Object"), (0, .class_ 3)] 3

/-- java/io/Serializable -/
def k5 : Class := { plain "java/io/Serializable" (some 0) with
  accessFlags := 1537
  interfaces := #[]
  cf := some (fileOf pool5 2 #[] #[] 1537 4 #[] #[])
  fields := #[]
  methods := #[]
  instanceTypes := #[]
  staticTypes := #[]
  resolved := Array.replicate 8 none
  statics := none }

/-- the primitive byte -/
def k6 : Class := { plain "byte" none with kind := .primitive 'B', accessFlags := 0x411 }
/-- [B -/
def k7 : Class := { plain "[B" (some 0) with kind := .array 6 .byte, interfaces := #[4, 5], accessFlags := 1041 }

def heap : Heap := #[]
def classes : Array Class := #[k0, k1, k2, k3, k4, k5, k6, k7]
def interned : List (Array UInt16 × Addr) := []
def slotsUsed : Nat := 0
def theMethod : MethodId := ⟨1, 1⟩
def args0 : Array Value := #[.int 5, .int 7, .int 8, .int 2]
def aboutOver (below : List Frame) : State where
  vm := { classes := classes, interned := interned.toArray }
  heap := heap
  slotsUsed := slotsUsed
  threads := #[{ frames := .invoking theMethod args0 :: below }]
def below0 : List Frame := [.native { method := ⟨0, 0⟩, args := #[] }]
def about1 : State := aboutOver below0
def p0 : Program := .bare "" "" ""
def e0 : Env := launch0.env 0 0 0
theorem w_frames : about1.frames = Frame.invoking theMethod args0 :: below0 := rfl
set_option maxRecDepth 65536 in
theorem w_args : argsFit about1.vm theMethod args0 = true := by decide +kernel
set_option maxRecDepth 65536 in
theorem w_heap : heapFits about1 = true := by decide +kernel
set_option maxRecDepth 65536 in
theorem w_runnable : about1.curStatus? = some .runnable := by decide +kernel
set_option maxRecDepth 65536 in
theorem w_alone : about1.alone = true := by decide +kernel
set_option maxRecDepth 65536 in
theorem w_named : about1.methodNamed? x = some theMethod := by decide +kernel
set_option maxRecDepth 65536 in
theorem w_hears : about1.hears theMethod below0 = true := by decide +kernel
set_option maxRecDepth 65536 in
theorem w_ripe : about1.ripe theMethod args0 below0 = true := by decide +kernel
theorem w_running : about1.status = .running := rfl
set_option maxRecDepth 65536 in
theorem w_room : about1.hasRoom e0.platform room_1 = true :=
  launch0.hasRoom_least _ room_1 (by decide +kernel) (by decide +kernel) (by decide +kernel) (by decide +kernel) (by decide +kernel) (by decide +kernel)
theorem allAtoms_all (ts : List Jvm.Cond) (a : Array Jvm.Value) (st : Jvm.State) : (allAtoms ts).before a st = ts.all (fun c => c.before a st) := by
  induction ts with
  | nil => rfl
  | cons c t ih =>
    show (Jvm.Cond.and c (allAtoms t)).before a st = _
    rw [Jvm.Cond.before_and, ih, List.all_cons]
def words1 : List Jvm.Cond := Jvm.Cond.code x code maxLocals ret :: tables_1
/-- a 'code' word, met by the world's own term for the bytes: nothing is compared byte by byte -/
theorem code_word {y : MethodName} {bytes : ByteArray} {mx : Nat} {rt : Option FieldType} {a : Array Value} {s : State} {m : MethodId} {meth : Method} {c : Code} (h1 : s.methodNamed? y = some m) (h2 : s.vm.method? m = some meth) (h3 : meth.code = some c) (h4 : c.code = bytes)
    (h5 : (c.maxLocals == mx && c.exceptionTable.isEmpty && decide (c.maxStack ≤ mostOperands) && decide (meth.sig.returnType = rt) && !meth.locks && decide (parseMethodDescriptor y.desc = some meth.sig)) = true) : (Jvm.Cond.code y bytes mx rt).before a s = true := by
  simp only [Bool.and_eq_true, beq_iff_eq, Bool.not_eq_true', decide_eq_true_eq] at h5
  obtain ⟨⟨⟨⟨⟨g1, g2⟩, g3⟩, g4⟩, g5⟩, g6⟩ := h5
  simp [Cond.before, Cond.holds, Cond.value, h1, h2, h3, h4, g1, g2, g3, g4, g5, g6]
def isCode : Jvm.Cond → Bool
  | .code _ _ _ _ => true
  | _ => false
theorem all_split {L : List Jvm.Cond} {P : Jvm.Cond → Bool} (h1 : L.all (fun c => isCode c || P c) = true) (h2 : ∀ c ∈ L.filter isCode, P c = true) : L.all P = true := by
  refine List.all_eq_true.mpr fun c hc => ?_
  have h := List.all_eq_true.mp h1 c hc
  rcases Bool.eq_false_or_eq_true (isCode c) with hi | hi
  · exact h2 c (List.mem_filter.mpr ⟨hc, hi⟩)
  · simpa [hi] using h
set_option maxRecDepth 65536 in
theorem w_c0 : (Jvm.Cond.code x code maxLocals ret).before args0 about1 = true := code_word (m := ⟨1, 1⟩) (meth := k1m1) (c := k1c1) (by decide +kernel) rfl rfl rfl (by decide +kernel)
set_option maxRecDepth 65536 in
theorem w_c1 : (Jvm.Cond.code ({ cls := "com/example/skip2/skip2/windowsearch/Matches$Count", name := "<init>", desc := "()V" } : Jvm.MethodName) prog_32_method_1_code (1 : Nat) (Option.none : Option Jvm.ClassFile.FieldType)).before args0 about1 = true := code_word (m := ⟨3, 0⟩) (meth := k3m0) (c := k3c0) (by decide +kernel) rfl rfl rfl (by decide +kernel)
set_option maxRecDepth 65536 in
theorem w_c2 : (Jvm.Cond.code ({ cls := "com/example/skip2/skip2/windowsearch/Matches", name := "<init>", desc := "()V" } : Jvm.MethodName) prog_30_method_1_code (1 : Nat) (Option.none : Option Jvm.ClassFile.FieldType)).before args0 about1 = true := code_word (m := ⟨2, 0⟩) (meth := k2m0) (c := k2c0) (by decide +kernel) rfl rfl rfl (by decide +kernel)
set_option maxRecDepth 65536 in
theorem w_c3 : (Jvm.Cond.code ({ cls := "java/lang/Object", name := "<init>", desc := "()V" } : Jvm.MethodName) object_method_1_code (1 : Nat) (Option.none : Option Jvm.ClassFile.FieldType)).before args0 about1 = true := code_word (m := ⟨0, 0⟩) (meth := k0m0) (c := k0c0) (by decide +kernel) rfl rfl rfl (by decide +kernel)
set_option maxRecDepth 65536 in
theorem w_c4 : (Jvm.Cond.code ({ cls := "com/example/skip2/skip2/windowsearch/Matches$Count", name := "count", desc := "()I" } : Jvm.MethodName) prog_32_method_3_code (1 : Nat) (Option.some Jvm.ClassFile.FieldType.int)).before args0 about1 = true := code_word (m := ⟨3, 2⟩) (meth := k3m2) (c := k3c2) (by decide +kernel) rfl rfl rfl (by decide +kernel)
set_option maxRecDepth 65536 in
theorem w_c5 : (Jvm.Cond.code ({ cls := "com/example/skip2/skip2/windowsearch/Matches$Count", name := "add", desc := "(I)Z" } : Jvm.MethodName) prog_32_method_2_code (2 : Nat) (Option.some Jvm.ClassFile.FieldType.boolean)).before args0 about1 = true := code_word (m := ⟨3, 1⟩) (meth := k3m1) (c := k3c1) (by decide +kernel) rfl rfl rfl (by decide +kernel)
def codes1 : List Jvm.Cond := [Jvm.Cond.code x code maxLocals ret, Jvm.Cond.code ({ cls := "com/example/skip2/skip2/windowsearch/Matches$Count", name := "<init>", desc := "()V" } : Jvm.MethodName) prog_32_method_1_code (1 : Nat) (Option.none : Option Jvm.ClassFile.FieldType), Jvm.Cond.code ({ cls := "com/example/skip2/skip2/windowsearch/Matches", name := "<init>", desc := "()V" } : Jvm.MethodName) prog_30_method_1_code (1 : Nat) (Option.none : Option Jvm.ClassFile.FieldType), Jvm.Cond.code ({ cls := "java/lang/Object", name := "<init>", desc := "()V" } : Jvm.MethodName) object_method_1_code (1 : Nat) (Option.none : Option Jvm.ClassFile.FieldType), Jvm.Cond.code ({ cls := "com/example/skip2/skip2/windowsearch/Matches$Count", name := "count", desc := "()I" } : Jvm.MethodName) prog_32_method_3_code (1 : Nat) (Option.some Jvm.ClassFile.FieldType.int), Jvm.Cond.code ({ cls := "com/example/skip2/skip2/windowsearch/Matches$Count", name := "add", desc := "(I)Z" } : Jvm.MethodName) prog_32_method_2_code (2 : Nat) (Option.some Jvm.ClassFile.FieldType.boolean)]
set_option maxRecDepth 65536 in
theorem codes_eq : words1.filter isCode = codes1 := rfl
theorem w_codes : ∀ c ∈ words1.filter isCode, c.before args0 about1 = true := by
  rw [codes_eq]
  intro c hc
  simp only [codes1, List.mem_cons, List.not_mem_nil, or_false] at hc
  rcases hc with rfl | rfl | rfl | rfl | rfl | rfl
  · exact w_c0
  · exact w_c1
  · exact w_c2
  · exact w_c3
  · exact w_c4
  · exact w_c5
set_option maxRecDepth 65536 in
theorem w_t1 : (words1.take 24).all (fun c => isCode c || c.before args0 about1) = true := by decide +kernel
set_option maxRecDepth 65536 in
theorem w_t2 : (words1.drop 24).all (fun c => isCode c || c.before args0 about1) = true := by decide +kernel
theorem w_tables : (allAtoms (Jvm.Cond.code x code maxLocals ret :: tables_1)).before args0 about1 = true := by
  rw [allAtoms_all]
  show words1.all (fun c => c.before args0 about1) = true
  refine all_split ?_ w_codes
  rw [← List.take_append_drop 24 words1, List.all_append, w_t1, w_t2]
  rfl
set_option maxRecDepth 65536 in
theorem w_case : (Jvm.Cond.and given_1 narrow_1).before args0 about1 = true := by decide +kernel
theorem w_applies : (headSpec (Jvm.Cond.code x code maxLocals ret :: tables_1) room_1).applies x e0.platform about1 = true :=
  (Spec.applies_iff w_frames).mpr ⟨w_running, w_runnable, w_alone, w_named, w_hears, w_ripe, w_room, w_tables⟩
theorem atStart : AtStart classFile x code maxLocals ret World_1 tables_1 room_1 Calls_1 rest_1 Pre_1 launch0 p0 e0 about1 theMethod args0 below0 :=
  ⟨lists_1, trivial, launch0.admits_env _ _ _, launch0.least_env, fairChoices_fair.cas, fairChoices_fair.clock, w_frames, w_args, w_heap, w_applies, trivial, trivial, w_case⟩
end start1
theorem witness_1 : WitnessClaimed_1 := ⟨start1.p0, start1.e0, start1.about1, start1.theMethod, start1.args0, start1.below0, start1.atStart⟩
end Jvm.Pilot.@@N@@
