import JvmDerived
import JvmDerived.Pilot.@@N@@Statement
import JvmDerived.Pilot.@@N@@Code
set_option linter.unusedVariables false
set_option linter.unusedSimpArgs false
namespace Jvm.RoadKit
open Sem ClassFile Op Lib Jvm.Stand Jvm.Free Jvm.LawKit
section New
variable {p : Program} {l : Launch} {e : Env} {R : Room} {s : State} {m : MethodId} {args : Array Value} {below : List Frame} {meth : Method} {c : Code} {T : State} {locs : List Loc} {cells slots : Nat}
theorem retI (X : Stand p l e R s m args below meth c T locs cells slots) (hx : p.tables.exec = Jvm.exec) {pc : Nat} {Ls : Array Slot} {z : Int32} {rest : List Value} (hret : meth.sig.returnType = some .int) (hd : decode c.code pc = .ok (.ireturn, 1)) {fs : List Frame}
    (hl : ∀ (f : JFrame) (acts : List Action), f.method = m → f.locked = none → f.entered = [] → (doReturn e (T.setTop f) acts (some (.int z))).1 = T.setFrames fs) : Steps p.tables e below (T.setTop (mkF m pc Ls (.int z :: rest))) (T.setFrames fs) := by
  have hm' : T.vm.method? m = some meth := X.method'
  have hn : narrow .int (.int z) = .int z := rfl
  show Steps p.tables e below (T.setTop { method := m, pc := pc, locals := Ls, stack := _ :: rest, locked := none }) _
  jvm_step X.here [X.here.top, hx, hd, hm', hret, hn]
  first | (intro acts; rw [hl _ acts rfl rfl rfl]) | rw [hl _ _ rfl rfl rfl]
  exact Steps.refl _
end New
end Jvm.RoadKit
namespace Jvm.Pilot.@@N@@
open Jvm Jvm.ClassFile Sem Op Lib Jvm.Free Jvm.Stand Jvm.LawKit Jvm.RoadKit Bundle Jvm.Pilot.@@N@@.Jvm.D
section Own
variable {p : Program} {l : Launch} {e : Env} {R : Room} {s : State} {m : MethodId} {args : Array Value} {below : List Frame} {meth : Method} {c : Code} {T : State} {locs : List Loc} {cells slots : Nat}
/-- from U the run comes to an end that Q allows -/
def own_Go (p : Program) (e : Env) (below : List Frame) (s : State) (kc ks : Nat) (Q : Option Value → Heap → List Loc → Prop) (U : State) : Prop :=
  ∃ s₂ o, Steps p.tables e below U s₂ ∧ s₂.status = .running ∧ Ended s₂ below o ∧ ∃ v L, o = .returned v ∧ Q v s₂.heap L ∧ FrameEnd s o s₂ L kc ks
theorem own_step {kc ks : Nat} {Q : Option Value → Heap → List Loc → Prop} {U U' : State} (k : ∀ t, Steps p.tables e below U' t → Steps p.tables e below U t) (g : own_Go p e below s kc ks Q U') : own_Go p e below s kc ks Q U := by
  obtain ⟨s₂, o, h, r⟩ := g
  exact ⟨s₂, o, k _ h, r⟩
theorem own_ret {kc ks : Nat} {Q : Option Value → Heap → List Loc → Prop} {U : State} (X : Stand p l e R s m args below meth c T locs cells slots) {v : Option Value} (hv : meth.sig.returnType = none → v = none) (hlocks : meth.locks = false) (hk : cells ≤ kc) (hs : slots ≤ ks) (hq : Q v T.heap locs)
    (k : ∀ fs, (∀ (f : JFrame) (acts : List Action), f.method = m → f.locked = none → f.entered = [] → (doReturn e (T.setTop f) acts v).1 = T.setFrames fs) → Steps p.tables e below U (T.setFrames fs)) : own_Go p e below s kc ks Q U := by
  obtain ⟨fs, hr, hrun, hended, hW, hsame⟩ := X.leave (v := v) hv hlocks
  exact ⟨_, _, k fs hr, hrun, hended, v, locs, rfl, hq, ⟨_, rfl⟩, hW, hsame.mono hk hs⟩
theorem own_narR {t : FieldType} {v : Value} (h : v.isRef = true) : narrow t v = v := by cases v <;> first | (cases h; done) | (cases t <;> rfl)
theorem own_fitR {t : String} {v : Value} (h : v.isRef = true) : fits (.object t) v = true := by cases v <;> first | (cases h; done) | rfl
theorem own_at {h : Heap} {a : Addr} {k : Cell} (e : T.heap = h) (q : h[a]? = some k) : T.heap[a]? = some k := e ▸ q
theorem own_pl0 {h : Heap} : ∀ a ∈ ([] : List Addr), ∀ c : Cell, h[a]? = some c → c.vm.isStatics = false := fun _ q => nomatch q
theorem own_plE {Z : State} {h : Heap} {a : Addr} {C : String} {ws : List Addr} (E : Exa Z h a C) (r : ∀ x ∈ ws, ∀ c : Cell, h[x]? = some c → c.vm.isStatics = false) : ∀ x ∈ a :: ws, ∀ c : Cell, h[x]? = some c → c.vm.isStatics = false := fun x hx c hc => by
  rcases List.mem_cons.mp hx with rfl | q
  · obtain ⟨cell, k, h1, -, -, h4, -⟩ := E
    cases h1.symm.trans hc; exact h4
  · exact r x q c hc
theorem own_plF {Z : State} {h : Heap} {a : Addr} {C n d : String} {v : Value} {ws : List Addr} (E : Fld Z h a C n d v) (r : ∀ x ∈ ws, ∀ c : Cell, h[x]? = some c → c.vm.isStatics = false) : ∀ x ∈ a :: ws, ∀ c : Cell, h[x]? = some c → c.vm.isStatics = false := fun x hx c hc => by
  rcases List.mem_cons.mp hx with rfl | q
  · exact old_plain E c hc
  · exact r x q c hc
theorem own_plV {Z : State} {h : Heap} {a : Addr} {k : ClassId} {ty : FieldType} {z : Int32} {vs : List Value} {d : Value} {ws : List Addr} (E : Arv Z h a k ty z vs d) (r : ∀ x ∈ ws, ∀ c : Cell, h[x]? = some c → c.vm.isStatics = false) : ∀ x ∈ a :: ws, ∀ c : Cell, h[x]? = some c → c.vm.isStatics = false := fun x hx c hc => by
  rcases List.mem_cons.mp hx with rfl | q
  · obtain ⟨cl, A, -⟩ := E
    cases A.1.symm.trans hc; exact A.plain
  · exact r x q c hc
theorem own_sta_keep {Z : State} {h h' : Heap} {C n d : String} {w : Value} {ws : List Addr} (F : Sta Z h C n d w) (K : Keep h h' ws) (r : ∀ x ∈ ws, ∀ c : Cell, h[x]? = some c → c.vm.isStatics = false) : Sta Z h' C n d w := by
  obtain ⟨cf, i, k, f, st, cell, h1, h2, h3, h4, h5, h6, h7⟩ := F
  exact ⟨cf, i, k, f, st, cell, h1, h2, h3, h4, K.2.1 st cell h5 (fun q => by rw [r st q cell h5] at h6; cases h6), h6, h7⟩
end Own
def own_canO (f k : Int32) : Int32 := if 0 < f then 1 else 0
def own_canA (f k : Int32) : Int32 := if 0 < f then (if f = k then 1 else 0) else 0
theorem own_fieldint {args : Array Value} {s : State} {t : Term} {x : Addr} {C n d : String} {k : Int32} (ht : t.eval args s none [] s = some (.ref x)) (h : (Cond.eq (Term.field t C n d) (Term.int k)).value args s none s [] = some true) : Fld s s.heap x C n d (.int k) := by
  obtain ⟨v, y, h1, h2, -, k2⟩ := cmp_v (Or.inl h)
  obtain rfl : (.int k) = y := Option.some.inj h2
  obtain ⟨z, rfl⟩ : ∃ z, v = .int z := k2
  have e : z = k := by simpa [Cond.value, h1, h2] using h
  subst e
  exact Fld.start ((fld_at ht).symm.trans h1)
theorem own_pn0 : plainName "com/example/eigentuple/eigentuple/rank/Mode" = true := by first | (simp [plainName, overriddenIn]; done) | decide +kernel
theorem own_d1_0 : decode prog_24_method_5_code 0 = .ok (.iload_n 1, 1) := by decide +kernel
theorem own_d1_1 : decode prog_24_method_5_code 1 = .ok (.ifCond .le 19, 3) := by decide +kernel
theorem own_d1_4 : decode prog_24_method_5_code 4 = .ok (.aload_n 0, 1) := by decide +kernel
theorem own_d1_5 : decode prog_24_method_5_code 5 = .ok (.getstatic 7, 3) := by decide +kernel
theorem own_d1_8 : decode prog_24_method_5_code 8 = .ok (.if_acmp .eq 8, 3) := by decide +kernel
theorem own_d1_16 : decode prog_24_method_5_code 16 = .ok (.iconst 1, 1) := by decide +kernel
theorem own_d1_17 : decode prog_24_method_5_code 17 = .ok (.goto 4, 3) := by decide +kernel
theorem own_d1_20 : decode prog_24_method_5_code 20 = .ok (.iconst 0, 1) := by decide +kernel
theorem own_d1_21 : decode prog_24_method_5_code 21 = .ok (.ireturn, 1) := by decide +kernel
def own_Q_canO (Z : State) (a1 : Addr) (p2 : Int32) (p3 : Int32) (h0 : Heap) (n0 : Nat) (v : Option Value) (h : Heap) (L : List Loc) : Prop := v = some (.int (own_canO p2 p3)) ∧ Fr n0 L ∧ h = h0
set_option maxRecDepth 65536 in
set_option maxHeartbeats 40000000 in
theorem own_m_canO (l : Launch) (Z : State) (a0 : Array Value) (hw : ∀ d ∈ tables_1, d.before a0 Z = true) (ws : List Jvm.Cond) (a1 : Addr) (p2 : Int32) (p3 : Int32) (h0 : Heap) (n0 : Nat) (Z0 : n0 ≤ h0.size) (S_OR : Sta Z h0 "com/example/eigentuple/eigentuple/rank/Mode" "OR" "Lcom/example/eigentuple/eigentuple/rank/Mode;" (.ref a1)) :
    MetFree l (⟨"com/example/eigentuple/eigentuple/rank/Mode", "canAnswer", "(II)Z"⟩ : MethodName) (head1 (Jvm.Cond.code (⟨"com/example/eigentuple/eigentuple/rank/Mode", "canAnswer", "(II)Z"⟩ : MethodName) prog_24_method_5_code 3 (some .boolean) :: ws) ({ frames := 0, cells := 0, slots := 0, locals := 0 } : Room)) (fun a U => a = #[(.ref a1), (.int p2), (.int p3)] ∧ Z.Warmed39 U.vm ∧ U.heap = h0) (fun _ _ _ _ _ => True) (fun _ U o U' => ∃ v L, o = .returned v ∧ own_Q_canO Z a1 p2 p3 h0 n0 v U'.heap L ∧ FrameEnd U o U' L ({ frames := 0, cells := 0, slots := 0, locals := 0 } : Room).cells ({ frames := 0, cells := 0, slots := 0, locals := 0 } : Room).slots) := by
  refine MetFree.of_bodySF (plainFor_of_name own_pn0) hisR ?_
  intro p e s m args below meth c s₁ Bd hml0 hP hK
  obtain ⟨rfl, hZ, hh⟩ := hP
  have hx := Bd.exec
  have hby := Bd.bytes
  have hml : c.maxLocals = 3 := hml0
  have hown : s.vm.findClass "com/example/eigentuple/eigentuple/rank/Mode" = some m.cls := findClass_of_methodNamed Bd.named
  have hnm := (name_of_methodNamed Bd.named Bd.method).1
  have X0 : Stand p l e ({ frames := 0, cells := 0, slots := 0, locals := 0 } : Room) s m #[(.ref a1), (.int p2), (.int p3)] below meth c s₁ [] 0 0 := Stand.of_body Bd
  have e0 : s₁.heap = h0 := by rw [← hh, Bd.state]; rfl
  have N0 := Fr.nil n0
  have K0 : Keep h0 h0 [] := Keep.refl _ _
  show own_Go p e below s ({ frames := 0, cells := 0, slots := 0, locals := 0 } : Room).cells ({ frames := 0, cells := 0, slots := 0, locals := 0 } : Room).slots (own_Q_canO Z a1 p2 p3 h0 n0) (s₁.setTop (entryFrame m #[(.ref a1), (.int p2), (.int p3)] 3))
  have ef : entryFrame m #[(.ref a1), (.int p2), (.int p3)] 3 = (mkF m 0 #[.val (.ref a1), .val (.int p2), .val (.int p3)] []) := by first | rfl | (simp [entryFrame, mkF, argsToLocals, Value.category, maxLocals]; done)
  rw [ef]
  show own_Go p e below s _ _ _ (s₁.setTop (mkF m 0 #[.val (.ref a1), .val (.int p2), .val (.int p3)] []))
  refine own_step (U' := (s₁.setTop (mkF m 1 #[.val (.ref a1), .val (.int p2), .val (.int p3)] [(.int p2)]))) (fun t ht => XS.iloadN X0.here hx rfl (hb hby own_d1_0) rfl ht) ?_
  by_cases hc1_1 : 0 < p2
  ·
    refine own_step (U' := (s₁.setTop (mkF m 4 #[.val (.ref a1), .val (.int p2), .val (.int p3)] []))) (fun t ht => XS.ifNo X0.here hx rfl (hb hby own_d1_1) rfl (XT.i0_le_f hc1_1) ht) ?_
    refine own_step (U' := (s₁.setTop (mkF m 5 #[.val (.ref a1), .val (.int p2), .val (.int p3)] [(.ref a1)]))) (fun t ht => XS.aloadN X0.here hx rfl (hb hby own_d1_4) rfl rfl ht) ?_
    obtain ⟨T2, X2, e2, st2⟩ := getS2 X0 hx hZ hown (host := "") (Or.inl (hw _ (List.mem_of_getElem? (i := 10) rfl))) Via.refl e0 S_OR (g := (mkF m 5 #[.val (.ref a1), .val (.int p2), .val (.int p3)] [(.ref a1)])) rfl (hb hby own_d1_5)
    refine own_step (U' := (T2.setTop (mkF m 8 #[.val (.ref a1), .val (.int p2), .val (.int p3)] [(.ref a1), (.ref a1)]))) (fun t ht => st2 _ ht) ?_
    refine own_step (U' := (T2.setTop (mkF m 16 #[.val (.ref a1), .val (.int p2), .val (.int p3)] []))) (fun t ht => Jvm.RoadKit.acmp (g := (mkF m 8 #[.val (.ref a1), .val (.int p2), .val (.int p3)] [(.ref a1), (.ref a1)])) X2 hx rfl rfl rfl (pc0 := 8) (pc' := 16) (same := true) rfl (hb hby own_d1_8) rfl (decide_eq_true (rfl : (.ref a1 : Value) = (.ref a1 : Value))) (by decide) (by decide) ht) ?_
    refine own_step (U' := (T2.setTop (mkF m 17 #[.val (.ref a1), .val (.int p2), .val (.int p3)] [(.int (1 : Int32))]))) (fun t ht => XS.iconst X2.here hx rfl (hb hby own_d1_16) ht) ?_
    refine own_step (U' := (T2.setTop (mkF m 21 #[.val (.ref a1), .val (.int p2), .val (.int p3)] [(.int (1 : Int32))]))) (fun t ht => XS.goto X2.here hx rfl (pc0 := 17) (pc' := 21) rfl (hb hby own_d1_17) (by decide) (by decide) ht) ?_
    refine own_ret X2 (v := (some (.int (nar .boolean (1 : Int32))))) (fun h => by rw [Bd.returns] at h; cases h) Bd.notSynchronized (by decide) (by decide) ?_ (fun fs hr => retN X2 hx (t := .boolean) Bd.returns (by simp) (hb hby own_d1_21) hr)
    show own_Q_canO Z a1 p2 p3 h0 n0 _ T2.heap _
    rw [e2]
    refine ⟨?_, N0, rfl⟩
    exact congrArg (fun z => some (Value.int z)) (by rw [own_canO, if_pos hc1_1] <;> rfl)
  ·
    refine own_step (U' := (s₁.setTop (mkF m 20 #[.val (.ref a1), .val (.int p2), .val (.int p3)] []))) (fun t ht => XS.ifYes X0.here hx rfl (pc0 := 1) (pc' := 20) rfl (hb hby own_d1_1) rfl (XT.i0_le_t hc1_1) (by decide) (by decide) ht) ?_
    refine own_step (U' := (s₁.setTop (mkF m 21 #[.val (.ref a1), .val (.int p2), .val (.int p3)] [(.int (0 : Int32))]))) (fun t ht => XS.iconst X0.here hx rfl (hb hby own_d1_20) ht) ?_
    refine own_ret X0 (v := (some (.int (nar .boolean (0 : Int32))))) (fun h => by rw [Bd.returns] at h; cases h) Bd.notSynchronized (by decide) (by decide) ?_ (fun fs hr => retN X0 hx (t := .boolean) Bd.returns (by simp) (hb hby own_d1_21) hr)
    show own_Q_canO Z a1 p2 p3 h0 n0 _ s₁.heap _
    rw [e0]
    refine ⟨?_, N0, rfl⟩
    exact congrArg (fun z => some (Value.int z)) (by rw [own_canO, if_neg hc1_1] <;> rfl)
theorem own_d1_11 : decode prog_24_method_5_code 11 = .ok (.iload_n 1, 1) := by decide +kernel
theorem own_d1_12 : decode prog_24_method_5_code 12 = .ok (.iload_n 2, 1) := by decide +kernel
theorem own_d1_13 : decode prog_24_method_5_code 13 = .ok (.if_icmp .ne 7, 3) := by decide +kernel
def own_Q_canA (Z : State) (a1 : Addr) (p2 : Int32) (p3 : Int32) (o1 : Addr) (h0 : Heap) (n0 : Nat) (v : Option Value) (h : Heap) (L : List Loc) : Prop := v = some (.int (own_canA p2 p3)) ∧ Fr n0 L ∧ h = h0
set_option maxRecDepth 65536 in
set_option maxHeartbeats 40000000 in
theorem own_m_canA (l : Launch) (Z : State) (a0 : Array Value) (hw : ∀ d ∈ tables_1, d.before a0 Z = true) (ws : List Jvm.Cond) (a1 : Addr) (p2 : Int32) (p3 : Int32) (o1 : Addr) (h0 : Heap) (n0 : Nat) (Z0 : n0 ≤ h0.size) (ne_a1_o1 : a1 ≠ o1) (S_OR : Sta Z h0 "com/example/eigentuple/eigentuple/rank/Mode" "OR" "Lcom/example/eigentuple/eigentuple/rank/Mode;" (.ref o1)) :
    MetFree l (⟨"com/example/eigentuple/eigentuple/rank/Mode", "canAnswer", "(II)Z"⟩ : MethodName) (head1 (Jvm.Cond.code (⟨"com/example/eigentuple/eigentuple/rank/Mode", "canAnswer", "(II)Z"⟩ : MethodName) prog_24_method_5_code 3 (some .boolean) :: ws) ({ frames := 0, cells := 0, slots := 0, locals := 0 } : Room)) (fun a U => a = #[(.ref a1), (.int p2), (.int p3)] ∧ Z.Warmed39 U.vm ∧ U.heap = h0) (fun _ _ _ _ _ => True) (fun _ U o U' => ∃ v L, o = .returned v ∧ own_Q_canA Z a1 p2 p3 o1 h0 n0 v U'.heap L ∧ FrameEnd U o U' L ({ frames := 0, cells := 0, slots := 0, locals := 0 } : Room).cells ({ frames := 0, cells := 0, slots := 0, locals := 0 } : Room).slots) := by
  refine MetFree.of_bodySF (plainFor_of_name own_pn0) hisR ?_
  intro p e s m args below meth c s₁ Bd hml0 hP hK
  obtain ⟨rfl, hZ, hh⟩ := hP
  have hx := Bd.exec
  have hby := Bd.bytes
  have hml : c.maxLocals = 3 := hml0
  have hown : s.vm.findClass "com/example/eigentuple/eigentuple/rank/Mode" = some m.cls := findClass_of_methodNamed Bd.named
  have hnm := (name_of_methodNamed Bd.named Bd.method).1
  have X0 : Stand p l e ({ frames := 0, cells := 0, slots := 0, locals := 0 } : Room) s m #[(.ref a1), (.int p2), (.int p3)] below meth c s₁ [] 0 0 := Stand.of_body Bd
  have e0 : s₁.heap = h0 := by rw [← hh, Bd.state]; rfl
  have N0 := Fr.nil n0
  have K0 : Keep h0 h0 [] := Keep.refl _ _
  show own_Go p e below s ({ frames := 0, cells := 0, slots := 0, locals := 0 } : Room).cells ({ frames := 0, cells := 0, slots := 0, locals := 0 } : Room).slots (own_Q_canA Z a1 p2 p3 o1 h0 n0) (s₁.setTop (entryFrame m #[(.ref a1), (.int p2), (.int p3)] 3))
  have ef : entryFrame m #[(.ref a1), (.int p2), (.int p3)] 3 = (mkF m 0 #[.val (.ref a1), .val (.int p2), .val (.int p3)] []) := by first | rfl | (simp [entryFrame, mkF, argsToLocals, Value.category, maxLocals]; done)
  rw [ef]
  show own_Go p e below s _ _ _ (s₁.setTop (mkF m 0 #[.val (.ref a1), .val (.int p2), .val (.int p3)] []))
  refine own_step (U' := (s₁.setTop (mkF m 1 #[.val (.ref a1), .val (.int p2), .val (.int p3)] [(.int p2)]))) (fun t ht => XS.iloadN X0.here hx rfl (hb hby own_d1_0) rfl ht) ?_
  by_cases hc1_3 : 0 < p2
  ·
    refine own_step (U' := (s₁.setTop (mkF m 4 #[.val (.ref a1), .val (.int p2), .val (.int p3)] []))) (fun t ht => XS.ifNo X0.here hx rfl (hb hby own_d1_1) rfl (XT.i0_le_f hc1_3) ht) ?_
    refine own_step (U' := (s₁.setTop (mkF m 5 #[.val (.ref a1), .val (.int p2), .val (.int p3)] [(.ref a1)]))) (fun t ht => XS.aloadN X0.here hx rfl (hb hby own_d1_4) rfl rfl ht) ?_
    obtain ⟨T4, X4, e4, st4⟩ := getS2 X0 hx hZ hown (host := "") (Or.inl (hw _ (List.mem_of_getElem? (i := 10) rfl))) Via.refl e0 S_OR (g := (mkF m 5 #[.val (.ref a1), .val (.int p2), .val (.int p3)] [(.ref a1)])) rfl (hb hby own_d1_5)
    refine own_step (U' := (T4.setTop (mkF m 8 #[.val (.ref a1), .val (.int p2), .val (.int p3)] [(.ref o1), (.ref a1)]))) (fun t ht => st4 _ ht) ?_
    refine own_step (U' := (T4.setTop (mkF m 11 #[.val (.ref a1), .val (.int p2), .val (.int p3)] []))) (fun t ht => Jvm.RoadKit.acmp (g := (mkF m 8 #[.val (.ref a1), .val (.int p2), .val (.int p3)] [(.ref o1), (.ref a1)])) X4 hx rfl rfl rfl (pc0 := 8) (pc' := 11) (same := false) rfl (hb hby own_d1_8) rfl (decide_eq_false ((fun q => ne_a1_o1 (Value.ref.inj q)) : ¬ ((.ref a1 : Value) = (.ref o1 : Value)))) (by decide) (by decide) ht) ?_
    refine own_step (U' := (T4.setTop (mkF m 12 #[.val (.ref a1), .val (.int p2), .val (.int p3)] [(.int p2)]))) (fun t ht => XS.iloadN X4.here hx rfl (hb hby own_d1_11) rfl ht) ?_
    refine own_step (U' := (T4.setTop (mkF m 13 #[.val (.ref a1), .val (.int p2), .val (.int p3)] [(.int p3), (.int p2)]))) (fun t ht => XS.iloadN X4.here hx rfl (hb hby own_d1_12) rfl ht) ?_
    by_cases hc13_5 : p2 = p3
    ·
      refine own_step (U' := (T4.setTop (mkF m 16 #[.val (.ref a1), .val (.int p2), .val (.int p3)] []))) (fun t ht => XS.icmpNo X4.here hx rfl (hb hby own_d1_13) rfl (XT.ii_ne_f hc13_5) ht) ?_
      refine own_step (U' := (T4.setTop (mkF m 17 #[.val (.ref a1), .val (.int p2), .val (.int p3)] [(.int (1 : Int32))]))) (fun t ht => XS.iconst X4.here hx rfl (hb hby own_d1_16) ht) ?_
      refine own_step (U' := (T4.setTop (mkF m 21 #[.val (.ref a1), .val (.int p2), .val (.int p3)] [(.int (1 : Int32))]))) (fun t ht => XS.goto X4.here hx rfl (pc0 := 17) (pc' := 21) rfl (hb hby own_d1_17) (by decide) (by decide) ht) ?_
      refine own_ret X4 (v := (some (.int (nar .boolean (1 : Int32))))) (fun h => by rw [Bd.returns] at h; cases h) Bd.notSynchronized (by decide) (by decide) ?_ (fun fs hr => retN X4 hx (t := .boolean) Bd.returns (by simp) (hb hby own_d1_21) hr)
      show own_Q_canA Z a1 p2 p3 o1 h0 n0 _ T4.heap _
      rw [e4]
      refine ⟨?_, N0, rfl⟩
      exact congrArg (fun z => some (Value.int z)) (by rw [own_canA, if_pos hc1_3, if_pos hc13_5] <;> rfl)
    ·
      refine own_step (U' := (T4.setTop (mkF m 20 #[.val (.ref a1), .val (.int p2), .val (.int p3)] []))) (fun t ht => XS.icmpYes X4.here hx rfl (pc0 := 13) (pc' := 20) rfl (hb hby own_d1_13) rfl (XT.ii_ne_t hc13_5) (by decide) (by decide) ht) ?_
      refine own_step (U' := (T4.setTop (mkF m 21 #[.val (.ref a1), .val (.int p2), .val (.int p3)] [(.int (0 : Int32))]))) (fun t ht => XS.iconst X4.here hx rfl (hb hby own_d1_20) ht) ?_
      refine own_ret X4 (v := (some (.int (nar .boolean (0 : Int32))))) (fun h => by rw [Bd.returns] at h; cases h) Bd.notSynchronized (by decide) (by decide) ?_ (fun fs hr => retN X4 hx (t := .boolean) Bd.returns (by simp) (hb hby own_d1_21) hr)
      show own_Q_canA Z a1 p2 p3 o1 h0 n0 _ T4.heap _
      rw [e4]
      refine ⟨?_, N0, rfl⟩
      exact congrArg (fun z => some (Value.int z)) (by rw [own_canA, if_pos hc1_3, if_neg hc13_5] <;> rfl)
  ·
    refine own_step (U' := (s₁.setTop (mkF m 20 #[.val (.ref a1), .val (.int p2), .val (.int p3)] []))) (fun t ht => XS.ifYes X0.here hx rfl (pc0 := 1) (pc' := 20) rfl (hb hby own_d1_1) rfl (XT.i0_le_t hc1_3) (by decide) (by decide) ht) ?_
    refine own_step (U' := (s₁.setTop (mkF m 21 #[.val (.ref a1), .val (.int p2), .val (.int p3)] [(.int (0 : Int32))]))) (fun t ht => XS.iconst X0.here hx rfl (hb hby own_d1_20) ht) ?_
    refine own_ret X0 (v := (some (.int (nar .boolean (0 : Int32))))) (fun h => by rw [Bd.returns] at h; cases h) Bd.notSynchronized (by decide) (by decide) ?_ (fun fs hr => retN X0 hx (t := .boolean) Bd.returns (by simp) (hb hby own_d1_21) hr)
    show own_Q_canA Z a1 p2 p3 o1 h0 n0 _ s₁.heap _
    rw [e0]
    refine ⟨?_, N0, rfl⟩
    exact congrArg (fun z => some (Value.int z)) (by rw [own_canA, if_neg hc1_3] <;> rfl)
theorem own_pn1 : plainName "com/example/eigentuple/eigentuple/rank/ModeCanAnswerPinLaw" = true := by first | (simp [plainName, overriddenIn]; done) | decide +kernel
theorem own_pd0 : parseMethodDescriptor "(II)Z" = some ⟨[.int, .int], some .boolean⟩ := by decide +kernel
def own_Q_law (Z : State) (p1 : Int32) (p2 : Int32) (p3 : Int32) (or1 : Addr) (an1 : Addr) (h0 : Heap) (n0 : Nat) (v : Option Value) (h : Heap) (L : List Loc) : Prop := v = some (.int 1) ∧ Fr n0 L
set_option maxRecDepth 65536 in
set_option maxHeartbeats 40000000 in
theorem own_m_law (l : Launch) (Z : State) (a0 : Array Value) (hw : ∀ d ∈ tables_1, d.before a0 Z = true) (ws : List Jvm.Cond) (p1 : Int32) (p2 : Int32) (p3 : Int32) (or1 : Addr) (an1 : Addr) (h0 : Heap) (n0 : Nat) (Z0 : n0 ≤ h0.size) (S_OR : Sta Z h0 "com/example/eigentuple/eigentuple/rank/Mode" "OR" "Lcom/example/eigentuple/eigentuple/rank/Mode;" (.ref or1)) (S_AND : Sta Z h0 "com/example/eigentuple/eigentuple/rank/Mode" "AND" "Lcom/example/eigentuple/eigentuple/rank/Mode;" (.ref an1)) (E_or : Exa Z h0 or1 "com/example/eigentuple/eigentuple/rank/Mode") (E_an : Exa Z h0 an1 "com/example/eigentuple/eigentuple/rank/Mode") (ne_an1_or1 : an1 ≠ or1) :
    MetFree l x (head1 (Jvm.Cond.code x code maxLocals ret :: ws) room_1) (fun a U => a = #[(.int p1), (.int p2), (.int p3)] ∧ Z.Warmed39 U.vm ∧ U.heap = h0) (fun _ _ _ _ _ => True) (fun _ U o U' => ∃ v L, o = .returned v ∧ own_Q_law Z p1 p2 p3 or1 an1 h0 n0 v U'.heap L ∧ FrameEnd U o U' L 0 0) := by
  refine MetFree.of_bodySF (plainFor_of_name own_pn1) hisR ?_
  intro p e s m args below meth c s₁ Bd hml0 hP hK
  obtain ⟨rfl, hZ, hh⟩ := hP
  have hx := Bd.exec
  have hby := Bd.bytes
  have hml : c.maxLocals = 11 := hml0
  have hown : s.vm.findClass "com/example/eigentuple/eigentuple/rank/ModeCanAnswerPinLaw" = some m.cls := findClass_of_methodNamed Bd.named
  have hnm := (name_of_methodNamed Bd.named Bd.method).1
  have X0 : Stand p l e room_1 s m #[(.int p1), (.int p2), (.int p3)] below meth c s₁ [] 0 0 := Stand.of_body Bd
  have e0 : s₁.heap = h0 := by rw [← hh, Bd.state]; rfl
  have N0 := Fr.nil n0
  have K0 : Keep h0 h0 [] := Keep.refl _ _
  show own_Go p e below s 0 0 (own_Q_law Z p1 p2 p3 or1 an1 h0 n0) (s₁.setTop (entryFrame m #[(.int p1), (.int p2), (.int p3)] maxLocals))
  have ef : entryFrame m #[(.int p1), (.int p2), (.int p3)] maxLocals = (mkF m 0 #[.val (.int p1), .val (.int p2), .val (.int p3), .unset, .unset, .unset, .unset, .unset, .unset, .unset, .unset] []) := by first | rfl | (simp [entryFrame, mkF, argsToLocals, Value.category, maxLocals]; done)
  rw [ef]
  show own_Go p e below s _ _ _ (s₁.setTop (mkF m 0 #[.val (.int p1), .val (.int p2), .val (.int p3), .unset, .unset, .unset, .unset, .unset, .unset, .unset, .unset] []))
  obtain ⟨T6, X6, e6, st6⟩ := getS2 X0 hx hZ hown (host := "") (Or.inl (hw _ (List.mem_of_getElem? (i := 0) rfl))) Via.refl e0 S_OR (g := (mkF m 0 #[.val (.int p1), .val (.int p2), .val (.int p3), .unset, .unset, .unset, .unset, .unset, .unset, .unset, .unset] [])) rfl (hb hby at_0)
  refine own_step (U' := (T6.setTop (mkF m 3 #[.val (.int p1), .val (.int p2), .val (.int p3), .unset, .unset, .unset, .unset, .unset, .unset, .unset, .unset] [(.ref or1)]))) (fun t ht => st6 _ ht) ?_
  refine own_step (U' := (T6.setTop (mkF m 4 #[.val (.int p1), .val (.int p2), .val (.int p3), .unset, .unset, .unset, .unset, .unset, .unset, .unset, .unset] [(.int p1), (.ref or1)]))) (fun t ht => XS.iloadN X6.here hx rfl (hb hby at_3) rfl ht) ?_
  refine own_step (U' := (T6.setTop (mkF m 5 #[.val (.int p1), .val (.int p2), .val (.int p3), .unset, .unset, .unset, .unset, .unset, .unset, .unset, .unset] [(.int p2), (.int p1), (.ref or1)]))) (fun t ht => XS.iloadN X6.here hx rfl (hb hby at_4) rfl ht) ?_
  obtain ⟨cq7, kq7, q7a, q7b, q7c⟩ := isOf hZ e6 E_or
  obtain ⟨_, _, ⟨T7, L7, k7, n7⟩, -, X7, ⟨Lc7, hQ7, l7, y7, z7⟩, st7⟩ := X6.virtualBack hx (y := (⟨"com/example/eigentuple/eigentuple/rank/Mode", "canAnswer", "(II)Z"⟩ : MethodName)) (z := (⟨"com/example/eigentuple/eigentuple/rank/Mode", "canAnswer", "(II)Z"⟩ : MethodName)) hown (mvT hZ (hw _ (List.mem_of_getElem? (i := 3) rfl))) (mvT hZ (hw _ (List.mem_of_getElem? (i := 4) rfl))) (notFace_of_selects (args := #[]) (mvT hZ (hw _ (List.mem_of_getElem? (i := 6) rfl)))) (mvT hZ (hw _ (List.mem_of_getElem? (i := 6) rfl))) (mvT hZ (hw _ (List.mem_of_getElem? (i := 5) rfl))) (by decide) (backOf (W := 0) (own_m_canO l Z a0 hw [] (or1) (p1) (p2) h0 n0 Z0 S_OR) hZ (hw _ (List.mem_of_getElem? (i := 7) rfl)) (hw _ (List.mem_of_getElem? (i := 1) rfl)) (by decide) (by decide)) q7a q7c (g := (mkF m 5 #[.val (.int p1), .val (.int p2), .val (.int p3), .unset, .unset, .unset, .unset, .unset, .unset, .unset, .unset] [(.int p2), (.int p1), (.ref or1)])) rfl (by rw [hml]; rfl) (Steps.refl _) (argsL := [(.int p1), (.int p2)]) (rest := []) (lenOf own_pd0 rfl) rfl (by show 2 * 0 + _ ≤ _; exact Nat.le_of_eq rfl) (hb hby at_5) (fun _ _ => ⟨rfl, e6, (by decide : 0 + 0 ≤ _), (by decide : 0 + 0 ≤ _)⟩)
  dsimp only [Pt.U, Pt.locs, Pt.cells, Pt.slots] at X7 l7 y7 z7 st7 hQ7
  subst l7 y7 z7
  obtain ⟨rfl, Nq7, Kq7⟩ := hQ7
  have N7 := Fr.app N0 Nq7
  have e7 : T7.heap = h0 := Kq7
  refine own_step (U' := (T7.setTop (mkF m 8 #[.val (.int p1), .val (.int p2), .val (.int p3), .unset, .unset, .unset, .unset, .unset, .unset, .unset, .unset] [(.int (own_canO p1 p2))]))) (fun t ht => st7.trans ht) ?_
  refine own_step (U' := (T7.setTop (mkF m 9 #[.val (.int p1), .val (.int p2), .val (.int p3), .val (.int (own_canO p1 p2)), .unset, .unset, .unset, .unset, .unset, .unset, .unset] []))) (fun t ht => XS.istoreN X7.here hx rfl (hb hby at_8) rfl (l' := #[.val (.int p1), .val (.int p2), .val (.int p3), .val (.int (own_canO p1 p2)), .unset, .unset, .unset, .unset, .unset, .unset, .unset]) rfl ht) ?_
  obtain ⟨T8, X8, e8, st8⟩ := getS2 X7 hx hZ hown (host := "") (Or.inl (hw _ (List.mem_of_getElem? (i := 0) rfl))) Via.refl e7 S_OR (g := (mkF m 9 #[.val (.int p1), .val (.int p2), .val (.int p3), .val (.int (own_canO p1 p2)), .unset, .unset, .unset, .unset, .unset, .unset, .unset] [])) rfl (hb hby at_9)
  refine own_step (U' := (T8.setTop (mkF m 12 #[.val (.int p1), .val (.int p2), .val (.int p3), .val (.int (own_canO p1 p2)), .unset, .unset, .unset, .unset, .unset, .unset, .unset] [(.ref or1)]))) (fun t ht => st8 _ ht) ?_
  refine own_step (U' := (T8.setTop (mkF m 13 #[.val (.int p1), .val (.int p2), .val (.int p3), .val (.int (own_canO p1 p2)), .unset, .unset, .unset, .unset, .unset, .unset, .unset] [(.int p1), (.ref or1)]))) (fun t ht => XS.iloadN X8.here hx rfl (hb hby at_12) rfl ht) ?_
  refine own_step (U' := (T8.setTop (mkF m 14 #[.val (.int p1), .val (.int p2), .val (.int p3), .val (.int (own_canO p1 p2)), .unset, .unset, .unset, .unset, .unset, .unset, .unset] [(.int p3), (.int p1), (.ref or1)]))) (fun t ht => XS.iloadN X8.here hx rfl (hb hby at_13) rfl ht) ?_
  obtain ⟨cq9, kq9, q9a, q9b, q9c⟩ := isOf hZ e8 E_or
  obtain ⟨_, _, ⟨T9, L9, k9, n9⟩, -, X9, ⟨Lc9, hQ9, l9, y9, z9⟩, st9⟩ := X8.virtualBack hx (y := (⟨"com/example/eigentuple/eigentuple/rank/Mode", "canAnswer", "(II)Z"⟩ : MethodName)) (z := (⟨"com/example/eigentuple/eigentuple/rank/Mode", "canAnswer", "(II)Z"⟩ : MethodName)) hown (mvT hZ (hw _ (List.mem_of_getElem? (i := 3) rfl))) (mvT hZ (hw _ (List.mem_of_getElem? (i := 4) rfl))) (notFace_of_selects (args := #[]) (mvT hZ (hw _ (List.mem_of_getElem? (i := 6) rfl)))) (mvT hZ (hw _ (List.mem_of_getElem? (i := 6) rfl))) (mvT hZ (hw _ (List.mem_of_getElem? (i := 5) rfl))) (by decide) (backOf (W := 0) (own_m_canO l Z a0 hw [] (or1) (p1) (p3) h0 n0 Z0 S_OR) hZ (hw _ (List.mem_of_getElem? (i := 7) rfl)) (hw _ (List.mem_of_getElem? (i := 1) rfl)) (by decide) (by decide)) q9a q9c (g := (mkF m 14 #[.val (.int p1), .val (.int p2), .val (.int p3), .val (.int (own_canO p1 p2)), .unset, .unset, .unset, .unset, .unset, .unset, .unset] [(.int p3), (.int p1), (.ref or1)])) rfl (by rw [hml]; rfl) (Steps.refl _) (argsL := [(.int p1), (.int p3)]) (rest := []) (lenOf own_pd0 rfl) rfl (by show 2 * 0 + _ ≤ _; exact Nat.le_of_eq rfl) (hb hby at_14) (fun _ _ => ⟨rfl, e8, (by decide : 0 + 0 ≤ _), (by decide : 0 + 0 ≤ _)⟩)
  dsimp only [Pt.U, Pt.locs, Pt.cells, Pt.slots] at X9 l9 y9 z9 st9 hQ9
  subst l9 y9 z9
  obtain ⟨rfl, Nq9, Kq9⟩ := hQ9
  have N9 := Fr.app N7 Nq9
  have e9 : T9.heap = h0 := Kq9
  refine own_step (U' := (T9.setTop (mkF m 17 #[.val (.int p1), .val (.int p2), .val (.int p3), .val (.int (own_canO p1 p2)), .unset, .unset, .unset, .unset, .unset, .unset, .unset] [(.int (own_canO p1 p3))]))) (fun t ht => st9.trans ht) ?_
  refine own_step (U' := (T9.setTop (mkF m 19 #[.val (.int p1), .val (.int p2), .val (.int p3), .val (.int (own_canO p1 p2)), .val (.int (own_canO p1 p3)), .unset, .unset, .unset, .unset, .unset, .unset] []))) (fun t ht => XS.istore X9.here hx rfl (hb hby at_17) rfl (l' := #[.val (.int p1), .val (.int p2), .val (.int p3), .val (.int (own_canO p1 p2)), .val (.int (own_canO p1 p3)), .unset, .unset, .unset, .unset, .unset, .unset]) rfl ht) ?_
  obtain ⟨T10, X10, e10, st10⟩ := getS2 X9 hx hZ hown (host := "") (Or.inl (hw _ (List.mem_of_getElem? (i := 8) rfl))) Via.refl e9 S_AND (g := (mkF m 19 #[.val (.int p1), .val (.int p2), .val (.int p3), .val (.int (own_canO p1 p2)), .val (.int (own_canO p1 p3)), .unset, .unset, .unset, .unset, .unset, .unset] [])) rfl (hb hby at_19)
  refine own_step (U' := (T10.setTop (mkF m 22 #[.val (.int p1), .val (.int p2), .val (.int p3), .val (.int (own_canO p1 p2)), .val (.int (own_canO p1 p3)), .unset, .unset, .unset, .unset, .unset, .unset] [(.ref an1)]))) (fun t ht => st10 _ ht) ?_
  refine own_step (U' := (T10.setTop (mkF m 23 #[.val (.int p1), .val (.int p2), .val (.int p3), .val (.int (own_canO p1 p2)), .val (.int (own_canO p1 p3)), .unset, .unset, .unset, .unset, .unset, .unset] [(.int p1), (.ref an1)]))) (fun t ht => XS.iloadN X10.here hx rfl (hb hby at_22) rfl ht) ?_
  refine own_step (U' := (T10.setTop (mkF m 24 #[.val (.int p1), .val (.int p2), .val (.int p3), .val (.int (own_canO p1 p2)), .val (.int (own_canO p1 p3)), .unset, .unset, .unset, .unset, .unset, .unset] [(.int p2), (.int p1), (.ref an1)]))) (fun t ht => XS.iloadN X10.here hx rfl (hb hby at_23) rfl ht) ?_
  obtain ⟨cq11, kq11, q11a, q11b, q11c⟩ := isOf hZ e10 E_an
  obtain ⟨_, _, ⟨T11, L11, k11, n11⟩, -, X11, ⟨Lc11, hQ11, l11, y11, z11⟩, st11⟩ := X10.virtualBack hx (y := (⟨"com/example/eigentuple/eigentuple/rank/Mode", "canAnswer", "(II)Z"⟩ : MethodName)) (z := (⟨"com/example/eigentuple/eigentuple/rank/Mode", "canAnswer", "(II)Z"⟩ : MethodName)) hown (mvT hZ (hw _ (List.mem_of_getElem? (i := 3) rfl))) (mvT hZ (hw _ (List.mem_of_getElem? (i := 4) rfl))) (notFace_of_selects (args := #[]) (mvT hZ (hw _ (List.mem_of_getElem? (i := 6) rfl)))) (mvT hZ (hw _ (List.mem_of_getElem? (i := 6) rfl))) (mvT hZ (hw _ (List.mem_of_getElem? (i := 5) rfl))) (by decide) (backOf (W := 0) (own_m_canA l Z a0 hw [] (an1) (p1) (p2) (or1) h0 n0 Z0 ne_an1_or1 S_OR) hZ (hw _ (List.mem_of_getElem? (i := 7) rfl)) (hw _ (List.mem_of_getElem? (i := 1) rfl)) (by decide) (by decide)) q11a q11c (g := (mkF m 24 #[.val (.int p1), .val (.int p2), .val (.int p3), .val (.int (own_canO p1 p2)), .val (.int (own_canO p1 p3)), .unset, .unset, .unset, .unset, .unset, .unset] [(.int p2), (.int p1), (.ref an1)])) rfl (by rw [hml]; rfl) (Steps.refl _) (argsL := [(.int p1), (.int p2)]) (rest := []) (lenOf own_pd0 rfl) rfl (by show 2 * 0 + _ ≤ _; exact Nat.le_of_eq rfl) (hb hby at_24) (fun _ _ => ⟨rfl, e10, (by decide : 0 + 0 ≤ _), (by decide : 0 + 0 ≤ _)⟩)
  dsimp only [Pt.U, Pt.locs, Pt.cells, Pt.slots] at X11 l11 y11 z11 st11 hQ11
  subst l11 y11 z11
  obtain ⟨rfl, Nq11, Kq11⟩ := hQ11
  have N11 := Fr.app N9 Nq11
  have e11 : T11.heap = h0 := Kq11
  refine own_step (U' := (T11.setTop (mkF m 27 #[.val (.int p1), .val (.int p2), .val (.int p3), .val (.int (own_canO p1 p2)), .val (.int (own_canO p1 p3)), .unset, .unset, .unset, .unset, .unset, .unset] [(.int (own_canA p1 p2))]))) (fun t ht => st11.trans ht) ?_
  refine own_step (U' := (T11.setTop (mkF m 29 #[.val (.int p1), .val (.int p2), .val (.int p3), .val (.int (own_canO p1 p2)), .val (.int (own_canO p1 p3)), .val (.int (own_canA p1 p2)), .unset, .unset, .unset, .unset, .unset] []))) (fun t ht => XS.istore X11.here hx rfl (hb hby at_27) rfl (l' := #[.val (.int p1), .val (.int p2), .val (.int p3), .val (.int (own_canO p1 p2)), .val (.int (own_canO p1 p3)), .val (.int (own_canA p1 p2)), .unset, .unset, .unset, .unset, .unset]) rfl ht) ?_
  obtain ⟨T12, X12, e12, st12⟩ := getS2 X11 hx hZ hown (host := "") (Or.inl (hw _ (List.mem_of_getElem? (i := 8) rfl))) Via.refl e11 S_AND (g := (mkF m 29 #[.val (.int p1), .val (.int p2), .val (.int p3), .val (.int (own_canO p1 p2)), .val (.int (own_canO p1 p3)), .val (.int (own_canA p1 p2)), .unset, .unset, .unset, .unset, .unset] [])) rfl (hb hby at_29)
  refine own_step (U' := (T12.setTop (mkF m 32 #[.val (.int p1), .val (.int p2), .val (.int p3), .val (.int (own_canO p1 p2)), .val (.int (own_canO p1 p3)), .val (.int (own_canA p1 p2)), .unset, .unset, .unset, .unset, .unset] [(.ref an1)]))) (fun t ht => st12 _ ht) ?_
  refine own_step (U' := (T12.setTop (mkF m 33 #[.val (.int p1), .val (.int p2), .val (.int p3), .val (.int (own_canO p1 p2)), .val (.int (own_canO p1 p3)), .val (.int (own_canA p1 p2)), .unset, .unset, .unset, .unset, .unset] [(.int p1), (.ref an1)]))) (fun t ht => XS.iloadN X12.here hx rfl (hb hby at_32) rfl ht) ?_
  refine own_step (U' := (T12.setTop (mkF m 34 #[.val (.int p1), .val (.int p2), .val (.int p3), .val (.int (own_canO p1 p2)), .val (.int (own_canO p1 p3)), .val (.int (own_canA p1 p2)), .unset, .unset, .unset, .unset, .unset] [(.int p1), (.int p1), (.ref an1)]))) (fun t ht => XS.iloadN X12.here hx rfl (hb hby at_33) rfl ht) ?_
  obtain ⟨cq13, kq13, q13a, q13b, q13c⟩ := isOf hZ e12 E_an
  obtain ⟨_, _, ⟨T13, L13, k13, n13⟩, -, X13, ⟨Lc13, hQ13, l13, y13, z13⟩, st13⟩ := X12.virtualBack hx (y := (⟨"com/example/eigentuple/eigentuple/rank/Mode", "canAnswer", "(II)Z"⟩ : MethodName)) (z := (⟨"com/example/eigentuple/eigentuple/rank/Mode", "canAnswer", "(II)Z"⟩ : MethodName)) hown (mvT hZ (hw _ (List.mem_of_getElem? (i := 3) rfl))) (mvT hZ (hw _ (List.mem_of_getElem? (i := 4) rfl))) (notFace_of_selects (args := #[]) (mvT hZ (hw _ (List.mem_of_getElem? (i := 6) rfl)))) (mvT hZ (hw _ (List.mem_of_getElem? (i := 6) rfl))) (mvT hZ (hw _ (List.mem_of_getElem? (i := 5) rfl))) (by decide) (backOf (W := 0) (own_m_canA l Z a0 hw [] (an1) (p1) (p1) (or1) h0 n0 Z0 ne_an1_or1 S_OR) hZ (hw _ (List.mem_of_getElem? (i := 7) rfl)) (hw _ (List.mem_of_getElem? (i := 1) rfl)) (by decide) (by decide)) q13a q13c (g := (mkF m 34 #[.val (.int p1), .val (.int p2), .val (.int p3), .val (.int (own_canO p1 p2)), .val (.int (own_canO p1 p3)), .val (.int (own_canA p1 p2)), .unset, .unset, .unset, .unset, .unset] [(.int p1), (.int p1), (.ref an1)])) rfl (by rw [hml]; rfl) (Steps.refl _) (argsL := [(.int p1), (.int p1)]) (rest := []) (lenOf own_pd0 rfl) rfl (by show 2 * 0 + _ ≤ _; exact Nat.le_of_eq rfl) (hb hby at_34) (fun _ _ => ⟨rfl, e12, (by decide : 0 + 0 ≤ _), (by decide : 0 + 0 ≤ _)⟩)
  dsimp only [Pt.U, Pt.locs, Pt.cells, Pt.slots] at X13 l13 y13 z13 st13 hQ13
  subst l13 y13 z13
  obtain ⟨rfl, Nq13, Kq13⟩ := hQ13
  have N13 := Fr.app N11 Nq13
  have e13 : T13.heap = h0 := Kq13
  refine own_step (U' := (T13.setTop (mkF m 37 #[.val (.int p1), .val (.int p2), .val (.int p3), .val (.int (own_canO p1 p2)), .val (.int (own_canO p1 p3)), .val (.int (own_canA p1 p2)), .unset, .unset, .unset, .unset, .unset] [(.int (own_canA p1 p1))]))) (fun t ht => st13.trans ht) ?_
  refine own_step (U' := (T13.setTop (mkF m 39 #[.val (.int p1), .val (.int p2), .val (.int p3), .val (.int (own_canO p1 p2)), .val (.int (own_canO p1 p3)), .val (.int (own_canA p1 p2)), .val (.int (own_canA p1 p1)), .unset, .unset, .unset, .unset] []))) (fun t ht => XS.istore X13.here hx rfl (hb hby at_37) rfl (l' := #[.val (.int p1), .val (.int p2), .val (.int p3), .val (.int (own_canO p1 p2)), .val (.int (own_canO p1 p3)), .val (.int (own_canA p1 p2)), .val (.int (own_canA p1 p1)), .unset, .unset, .unset, .unset]) rfl ht) ?_
  refine own_step (U' := (T13.setTop (mkF m 40 #[.val (.int p1), .val (.int p2), .val (.int p3), .val (.int (own_canO p1 p2)), .val (.int (own_canO p1 p3)), .val (.int (own_canA p1 p2)), .val (.int (own_canA p1 p1)), .unset, .unset, .unset, .unset] [(.int (own_canO p1 p2))]))) (fun t ht => XS.iloadN X13.here hx rfl (hb hby at_39) rfl ht) ?_
  refine own_step (U' := (T13.setTop (mkF m 41 #[.val (.int p1), .val (.int p2), .val (.int p3), .val (.int (own_canO p1 p2)), .val (.int (own_canO p1 p3)), .val (.int (own_canA p1 p2)), .val (.int (own_canA p1 p1)), .unset, .unset, .unset, .unset] [(.int p1), (.int (own_canO p1 p2))]))) (fun t ht => XS.iloadN X13.here hx rfl (hb hby at_40) rfl ht) ?_
  by_cases hc41_14 : 0 < p1
  ·
    refine own_step (U' := (T13.setTop (mkF m 44 #[.val (.int p1), .val (.int p2), .val (.int p3), .val (.int (own_canO p1 p2)), .val (.int (own_canO p1 p3)), .val (.int (own_canA p1 p2)), .val (.int (own_canA p1 p1)), .unset, .unset, .unset, .unset] [(.int (own_canO p1 p2))]))) (fun t ht => XS.ifNo X13.here hx rfl (hb hby at_41) rfl (XT.i0_le_f hc41_14) ht) ?_
    refine own_step (U' := (T13.setTop (mkF m 45 #[.val (.int p1), .val (.int p2), .val (.int p3), .val (.int (own_canO p1 p2)), .val (.int (own_canO p1 p3)), .val (.int (own_canA p1 p2)), .val (.int (own_canA p1 p1)), .unset, .unset, .unset, .unset] [(.int (1 : Int32)), (.int (own_canO p1 p2))]))) (fun t ht => XS.iconst X13.here hx rfl (hb hby at_44) ht) ?_
    refine own_step (U' := (T13.setTop (mkF m 49 #[.val (.int p1), .val (.int p2), .val (.int p3), .val (.int (own_canO p1 p2)), .val (.int (own_canO p1 p3)), .val (.int (own_canA p1 p2)), .val (.int (own_canA p1 p1)), .unset, .unset, .unset, .unset] [(.int (1 : Int32)), (.int (own_canO p1 p2))]))) (fun t ht => XS.goto X13.here hx rfl (pc0 := 45) (pc' := 49) rfl (hb hby at_45) (by decide) (by decide) ht) ?_
    refine own_step (U' := (T13.setTop (mkF m 52 #[.val (.int p1), .val (.int p2), .val (.int p3), .val (.int (own_canO p1 p2)), .val (.int (own_canO p1 p3)), .val (.int (own_canA p1 p2)), .val (.int (own_canA p1 p1)), .unset, .unset, .unset, .unset] []))) (fun t ht => XS.icmpNo X13.here hx rfl (hb hby at_49) rfl (XT.ii_ne_f ((by simp [own_canO, hc41_14]) : (own_canO p1 p2) = (1 : Int32))) ht) ?_
    refine own_step (U' := (T13.setTop (mkF m 53 #[.val (.int p1), .val (.int p2), .val (.int p3), .val (.int (own_canO p1 p2)), .val (.int (own_canO p1 p3)), .val (.int (own_canA p1 p2)), .val (.int (own_canA p1 p1)), .unset, .unset, .unset, .unset] [(.int (1 : Int32))]))) (fun t ht => XS.iconst X13.here hx rfl (hb hby at_52) ht) ?_
    refine own_step (U' := (T13.setTop (mkF m 57 #[.val (.int p1), .val (.int p2), .val (.int p3), .val (.int (own_canO p1 p2)), .val (.int (own_canO p1 p3)), .val (.int (own_canA p1 p2)), .val (.int (own_canA p1 p1)), .unset, .unset, .unset, .unset] [(.int (1 : Int32))]))) (fun t ht => XS.goto X13.here hx rfl (pc0 := 53) (pc' := 57) rfl (hb hby at_53) (by decide) (by decide) ht) ?_
    refine own_step (U' := (T13.setTop (mkF m 59 #[.val (.int p1), .val (.int p2), .val (.int p3), .val (.int (own_canO p1 p2)), .val (.int (own_canO p1 p3)), .val (.int (own_canA p1 p2)), .val (.int (own_canA p1 p1)), .val (.int (1 : Int32)), .unset, .unset, .unset] []))) (fun t ht => XS.istore X13.here hx rfl (hb hby at_57) rfl (l' := #[.val (.int p1), .val (.int p2), .val (.int p3), .val (.int (own_canO p1 p2)), .val (.int (own_canO p1 p3)), .val (.int (own_canA p1 p2)), .val (.int (own_canA p1 p1)), .val (.int (1 : Int32)), .unset, .unset, .unset]) rfl ht) ?_
    refine own_step (U' := (T13.setTop (mkF m 60 #[.val (.int p1), .val (.int p2), .val (.int p3), .val (.int (own_canO p1 p2)), .val (.int (own_canO p1 p3)), .val (.int (own_canA p1 p2)), .val (.int (own_canA p1 p1)), .val (.int (1 : Int32)), .unset, .unset, .unset] [(.int (own_canO p1 p2))]))) (fun t ht => XS.iloadN X13.here hx rfl (hb hby at_59) rfl ht) ?_
    refine own_step (U' := (T13.setTop (mkF m 62 #[.val (.int p1), .val (.int p2), .val (.int p3), .val (.int (own_canO p1 p2)), .val (.int (own_canO p1 p3)), .val (.int (own_canA p1 p2)), .val (.int (own_canA p1 p1)), .val (.int (1 : Int32)), .unset, .unset, .unset] [(.int (own_canO p1 p3)), (.int (own_canO p1 p2))]))) (fun t ht => XS.iload X13.here hx rfl (hb hby at_60) rfl ht) ?_
    refine own_step (U' := (T13.setTop (mkF m 65 #[.val (.int p1), .val (.int p2), .val (.int p3), .val (.int (own_canO p1 p2)), .val (.int (own_canO p1 p3)), .val (.int (own_canA p1 p2)), .val (.int (own_canA p1 p1)), .val (.int (1 : Int32)), .unset, .unset, .unset] []))) (fun t ht => XS.icmpNo X13.here hx rfl (hb hby at_62) rfl (XT.ii_ne_f (rfl : (own_canO p1 p2) = (own_canO p1 p3))) ht) ?_
    refine own_step (U' := (T13.setTop (mkF m 66 #[.val (.int p1), .val (.int p2), .val (.int p3), .val (.int (own_canO p1 p2)), .val (.int (own_canO p1 p3)), .val (.int (own_canA p1 p2)), .val (.int (own_canA p1 p1)), .val (.int (1 : Int32)), .unset, .unset, .unset] [(.int (1 : Int32))]))) (fun t ht => XS.iconst X13.here hx rfl (hb hby at_65) ht) ?_
    refine own_step (U' := (T13.setTop (mkF m 70 #[.val (.int p1), .val (.int p2), .val (.int p3), .val (.int (own_canO p1 p2)), .val (.int (own_canO p1 p3)), .val (.int (own_canA p1 p2)), .val (.int (own_canA p1 p1)), .val (.int (1 : Int32)), .unset, .unset, .unset] [(.int (1 : Int32))]))) (fun t ht => XS.goto X13.here hx rfl (pc0 := 66) (pc' := 70) rfl (hb hby at_66) (by decide) (by decide) ht) ?_
    refine own_step (U' := (T13.setTop (mkF m 72 #[.val (.int p1), .val (.int p2), .val (.int p3), .val (.int (own_canO p1 p2)), .val (.int (own_canO p1 p3)), .val (.int (own_canA p1 p2)), .val (.int (own_canA p1 p1)), .val (.int (1 : Int32)), .val (.int (1 : Int32)), .unset, .unset] []))) (fun t ht => XS.istore X13.here hx rfl (hb hby at_70) rfl (l' := #[.val (.int p1), .val (.int p2), .val (.int p3), .val (.int (own_canO p1 p2)), .val (.int (own_canO p1 p3)), .val (.int (own_canA p1 p2)), .val (.int (own_canA p1 p1)), .val (.int (1 : Int32)), .val (.int (1 : Int32)), .unset, .unset]) rfl ht) ?_
    refine own_step (U' := (T13.setTop (mkF m 74 #[.val (.int p1), .val (.int p2), .val (.int p3), .val (.int (own_canO p1 p2)), .val (.int (own_canO p1 p3)), .val (.int (own_canA p1 p2)), .val (.int (own_canA p1 p1)), .val (.int (1 : Int32)), .val (.int (1 : Int32)), .unset, .unset] [(.int (own_canA p1 p2))]))) (fun t ht => XS.iload X13.here hx rfl (hb hby at_72) rfl ht) ?_
    refine own_step (U' := (T13.setTop (mkF m 75 #[.val (.int p1), .val (.int p2), .val (.int p3), .val (.int (own_canO p1 p2)), .val (.int (own_canO p1 p3)), .val (.int (own_canA p1 p2)), .val (.int (own_canA p1 p1)), .val (.int (1 : Int32)), .val (.int (1 : Int32)), .unset, .unset] [(.int (own_canO p1 p2)), (.int (own_canA p1 p2))]))) (fun t ht => XS.iloadN X13.here hx rfl (hb hby at_74) rfl ht) ?_
    refine own_step (U' := (T13.setTop (mkF m 78 #[.val (.int p1), .val (.int p2), .val (.int p3), .val (.int (own_canO p1 p2)), .val (.int (own_canO p1 p3)), .val (.int (own_canA p1 p2)), .val (.int (own_canA p1 p1)), .val (.int (1 : Int32)), .val (.int (1 : Int32)), .unset, .unset] [(.int (own_canA p1 p2))]))) (fun t ht => XS.ifNo X13.here hx rfl (hb hby at_75) rfl (XT.i0_eq_f ((by simp [own_canO, hc41_14]) : ¬ ((own_canO p1 p2) = 0))) ht) ?_
    refine own_step (U' := (T13.setTop (mkF m 79 #[.val (.int p1), .val (.int p2), .val (.int p3), .val (.int (own_canO p1 p2)), .val (.int (own_canO p1 p3)), .val (.int (own_canA p1 p2)), .val (.int (own_canA p1 p1)), .val (.int (1 : Int32)), .val (.int (1 : Int32)), .unset, .unset] [(.int p1), (.int (own_canA p1 p2))]))) (fun t ht => XS.iloadN X13.here hx rfl (hb hby at_78) rfl ht) ?_
    refine own_step (U' := (T13.setTop (mkF m 80 #[.val (.int p1), .val (.int p2), .val (.int p3), .val (.int (own_canO p1 p2)), .val (.int (own_canO p1 p3)), .val (.int (own_canA p1 p2)), .val (.int (own_canA p1 p1)), .val (.int (1 : Int32)), .val (.int (1 : Int32)), .unset, .unset] [(.int p2), (.int p1), (.int (own_canA p1 p2))]))) (fun t ht => XS.iloadN X13.here hx rfl (hb hby at_79) rfl ht) ?_
    by_cases hc80_15 : p1 = p2
    ·
      refine own_step (U' := (T13.setTop (mkF m 83 #[.val (.int p1), .val (.int p2), .val (.int p3), .val (.int (own_canO p1 p2)), .val (.int (own_canO p1 p3)), .val (.int (own_canA p1 p2)), .val (.int (own_canA p1 p1)), .val (.int (1 : Int32)), .val (.int (1 : Int32)), .unset, .unset] [(.int (own_canA p1 p2))]))) (fun t ht => XS.icmpNo X13.here hx rfl (hb hby at_80) rfl (XT.ii_ne_f hc80_15) ht) ?_
      refine own_step (U' := (T13.setTop (mkF m 84 #[.val (.int p1), .val (.int p2), .val (.int p3), .val (.int (own_canO p1 p2)), .val (.int (own_canO p1 p3)), .val (.int (own_canA p1 p2)), .val (.int (own_canA p1 p1)), .val (.int (1 : Int32)), .val (.int (1 : Int32)), .unset, .unset] [(.int (1 : Int32)), (.int (own_canA p1 p2))]))) (fun t ht => XS.iconst X13.here hx rfl (hb hby at_83) ht) ?_
      refine own_step (U' := (T13.setTop (mkF m 88 #[.val (.int p1), .val (.int p2), .val (.int p3), .val (.int (own_canO p1 p2)), .val (.int (own_canO p1 p3)), .val (.int (own_canA p1 p2)), .val (.int (own_canA p1 p1)), .val (.int (1 : Int32)), .val (.int (1 : Int32)), .unset, .unset] [(.int (1 : Int32)), (.int (own_canA p1 p2))]))) (fun t ht => XS.goto X13.here hx rfl (pc0 := 84) (pc' := 88) rfl (hb hby at_84) (by decide) (by decide) ht) ?_
      refine own_step (U' := (T13.setTop (mkF m 91 #[.val (.int p1), .val (.int p2), .val (.int p3), .val (.int (own_canO p1 p2)), .val (.int (own_canO p1 p3)), .val (.int (own_canA p1 p2)), .val (.int (own_canA p1 p1)), .val (.int (1 : Int32)), .val (.int (1 : Int32)), .unset, .unset] []))) (fun t ht => XS.icmpNo X13.here hx rfl (hb hby at_88) rfl (XT.ii_ne_f ((by rw [own_canA, if_pos hc41_14, if_pos hc80_15] <;> rfl) : (own_canA p1 p2) = (1 : Int32))) ht) ?_
      refine own_step (U' := (T13.setTop (mkF m 92 #[.val (.int p1), .val (.int p2), .val (.int p3), .val (.int (own_canO p1 p2)), .val (.int (own_canO p1 p3)), .val (.int (own_canA p1 p2)), .val (.int (own_canA p1 p1)), .val (.int (1 : Int32)), .val (.int (1 : Int32)), .unset, .unset] [(.int (1 : Int32))]))) (fun t ht => XS.iconst X13.here hx rfl (hb hby at_91) ht) ?_
      refine own_step (U' := (T13.setTop (mkF m 96 #[.val (.int p1), .val (.int p2), .val (.int p3), .val (.int (own_canO p1 p2)), .val (.int (own_canO p1 p3)), .val (.int (own_canA p1 p2)), .val (.int (own_canA p1 p1)), .val (.int (1 : Int32)), .val (.int (1 : Int32)), .unset, .unset] [(.int (1 : Int32))]))) (fun t ht => XS.goto X13.here hx rfl (pc0 := 92) (pc' := 96) rfl (hb hby at_92) (by decide) (by decide) ht) ?_
      refine own_step (U' := (T13.setTop (mkF m 98 #[.val (.int p1), .val (.int p2), .val (.int p3), .val (.int (own_canO p1 p2)), .val (.int (own_canO p1 p3)), .val (.int (own_canA p1 p2)), .val (.int (own_canA p1 p1)), .val (.int (1 : Int32)), .val (.int (1 : Int32)), .val (.int (1 : Int32)), .unset] []))) (fun t ht => XS.istore X13.here hx rfl (hb hby at_96) rfl (l' := #[.val (.int p1), .val (.int p2), .val (.int p3), .val (.int (own_canO p1 p2)), .val (.int (own_canO p1 p3)), .val (.int (own_canA p1 p2)), .val (.int (own_canA p1 p1)), .val (.int (1 : Int32)), .val (.int (1 : Int32)), .val (.int (1 : Int32)), .unset]) rfl ht) ?_
      refine own_step (U' := (T13.setTop (mkF m 100 #[.val (.int p1), .val (.int p2), .val (.int p3), .val (.int (own_canO p1 p2)), .val (.int (own_canO p1 p3)), .val (.int (own_canA p1 p2)), .val (.int (own_canA p1 p1)), .val (.int (1 : Int32)), .val (.int (1 : Int32)), .val (.int (1 : Int32)), .unset] [(.int (own_canA p1 p1))]))) (fun t ht => XS.iload X13.here hx rfl (hb hby at_98) rfl ht) ?_
      refine own_step (U' := (T13.setTop (mkF m 101 #[.val (.int p1), .val (.int p2), .val (.int p3), .val (.int (own_canO p1 p2)), .val (.int (own_canO p1 p3)), .val (.int (own_canA p1 p2)), .val (.int (own_canA p1 p1)), .val (.int (1 : Int32)), .val (.int (1 : Int32)), .val (.int (1 : Int32)), .unset] [(.int (own_canO p1 p2)), (.int (own_canA p1 p1))]))) (fun t ht => XS.iloadN X13.here hx rfl (hb hby at_100) rfl ht) ?_
      refine own_step (U' := (T13.setTop (mkF m 104 #[.val (.int p1), .val (.int p2), .val (.int p3), .val (.int (own_canO p1 p2)), .val (.int (own_canO p1 p3)), .val (.int (own_canA p1 p2)), .val (.int (own_canA p1 p1)), .val (.int (1 : Int32)), .val (.int (1 : Int32)), .val (.int (1 : Int32)), .unset] []))) (fun t ht => XS.icmpNo X13.here hx rfl (hb hby at_101) rfl (XT.ii_ne_f ((by simp [own_canA, own_canO]) : (own_canA p1 p1) = (own_canO p1 p2))) ht) ?_
      refine own_step (U' := (T13.setTop (mkF m 105 #[.val (.int p1), .val (.int p2), .val (.int p3), .val (.int (own_canO p1 p2)), .val (.int (own_canO p1 p3)), .val (.int (own_canA p1 p2)), .val (.int (own_canA p1 p1)), .val (.int (1 : Int32)), .val (.int (1 : Int32)), .val (.int (1 : Int32)), .unset] [(.int (1 : Int32))]))) (fun t ht => XS.iconst X13.here hx rfl (hb hby at_104) ht) ?_
      refine own_step (U' := (T13.setTop (mkF m 109 #[.val (.int p1), .val (.int p2), .val (.int p3), .val (.int (own_canO p1 p2)), .val (.int (own_canO p1 p3)), .val (.int (own_canA p1 p2)), .val (.int (own_canA p1 p1)), .val (.int (1 : Int32)), .val (.int (1 : Int32)), .val (.int (1 : Int32)), .unset] [(.int (1 : Int32))]))) (fun t ht => XS.goto X13.here hx rfl (pc0 := 105) (pc' := 109) rfl (hb hby at_105) (by decide) (by decide) ht) ?_
      refine own_step (U' := (T13.setTop (mkF m 111 #[.val (.int p1), .val (.int p2), .val (.int p3), .val (.int (own_canO p1 p2)), .val (.int (own_canO p1 p3)), .val (.int (own_canA p1 p2)), .val (.int (own_canA p1 p1)), .val (.int (1 : Int32)), .val (.int (1 : Int32)), .val (.int (1 : Int32)), .val (.int (1 : Int32))] []))) (fun t ht => XS.istore X13.here hx rfl (hb hby at_109) rfl (l' := #[.val (.int p1), .val (.int p2), .val (.int p3), .val (.int (own_canO p1 p2)), .val (.int (own_canO p1 p3)), .val (.int (own_canA p1 p2)), .val (.int (own_canA p1 p1)), .val (.int (1 : Int32)), .val (.int (1 : Int32)), .val (.int (1 : Int32)), .val (.int (1 : Int32))]) rfl ht) ?_
      refine own_step (U' := (T13.setTop (mkF m 113 #[.val (.int p1), .val (.int p2), .val (.int p3), .val (.int (own_canO p1 p2)), .val (.int (own_canO p1 p3)), .val (.int (own_canA p1 p2)), .val (.int (own_canA p1 p1)), .val (.int (1 : Int32)), .val (.int (1 : Int32)), .val (.int (1 : Int32)), .val (.int (1 : Int32))] [(.int (1 : Int32))]))) (fun t ht => XS.iload X13.here hx rfl (hb hby at_111) rfl ht) ?_
      refine own_step (U' := (T13.setTop (mkF m 116 #[.val (.int p1), .val (.int p2), .val (.int p3), .val (.int (own_canO p1 p2)), .val (.int (own_canO p1 p3)), .val (.int (own_canA p1 p2)), .val (.int (own_canA p1 p1)), .val (.int (1 : Int32)), .val (.int (1 : Int32)), .val (.int (1 : Int32)), .val (.int (1 : Int32))] []))) (fun t ht => XS.ifNo X13.here hx rfl (hb hby at_113) rfl (XT.i0_eq_f ((by decide) : ¬ ((1 : Int32) = 0))) ht) ?_
      refine own_step (U' := (T13.setTop (mkF m 118 #[.val (.int p1), .val (.int p2), .val (.int p3), .val (.int (own_canO p1 p2)), .val (.int (own_canO p1 p3)), .val (.int (own_canA p1 p2)), .val (.int (own_canA p1 p1)), .val (.int (1 : Int32)), .val (.int (1 : Int32)), .val (.int (1 : Int32)), .val (.int (1 : Int32))] [(.int (1 : Int32))]))) (fun t ht => XS.iload X13.here hx rfl (hb hby at_116) rfl ht) ?_
      refine own_step (U' := (T13.setTop (mkF m 121 #[.val (.int p1), .val (.int p2), .val (.int p3), .val (.int (own_canO p1 p2)), .val (.int (own_canO p1 p3)), .val (.int (own_canA p1 p2)), .val (.int (own_canA p1 p1)), .val (.int (1 : Int32)), .val (.int (1 : Int32)), .val (.int (1 : Int32)), .val (.int (1 : Int32))] []))) (fun t ht => XS.ifNo X13.here hx rfl (hb hby at_118) rfl (XT.i0_eq_f ((by decide) : ¬ ((1 : Int32) = 0))) ht) ?_
      refine own_step (U' := (T13.setTop (mkF m 123 #[.val (.int p1), .val (.int p2), .val (.int p3), .val (.int (own_canO p1 p2)), .val (.int (own_canO p1 p3)), .val (.int (own_canA p1 p2)), .val (.int (own_canA p1 p1)), .val (.int (1 : Int32)), .val (.int (1 : Int32)), .val (.int (1 : Int32)), .val (.int (1 : Int32))] [(.int (1 : Int32))]))) (fun t ht => XS.iload X13.here hx rfl (hb hby at_121) rfl ht) ?_
      refine own_step (U' := (T13.setTop (mkF m 126 #[.val (.int p1), .val (.int p2), .val (.int p3), .val (.int (own_canO p1 p2)), .val (.int (own_canO p1 p3)), .val (.int (own_canA p1 p2)), .val (.int (own_canA p1 p1)), .val (.int (1 : Int32)), .val (.int (1 : Int32)), .val (.int (1 : Int32)), .val (.int (1 : Int32))] []))) (fun t ht => XS.ifNo X13.here hx rfl (hb hby at_123) rfl (XT.i0_eq_f ((by decide) : ¬ ((1 : Int32) = 0))) ht) ?_
      refine own_step (U' := (T13.setTop (mkF m 128 #[.val (.int p1), .val (.int p2), .val (.int p3), .val (.int (own_canO p1 p2)), .val (.int (own_canO p1 p3)), .val (.int (own_canA p1 p2)), .val (.int (own_canA p1 p1)), .val (.int (1 : Int32)), .val (.int (1 : Int32)), .val (.int (1 : Int32)), .val (.int (1 : Int32))] [(.int (1 : Int32))]))) (fun t ht => XS.iload X13.here hx rfl (hb hby at_126) rfl ht) ?_
      refine own_step (U' := (T13.setTop (mkF m 131 #[.val (.int p1), .val (.int p2), .val (.int p3), .val (.int (own_canO p1 p2)), .val (.int (own_canO p1 p3)), .val (.int (own_canA p1 p2)), .val (.int (own_canA p1 p1)), .val (.int (1 : Int32)), .val (.int (1 : Int32)), .val (.int (1 : Int32)), .val (.int (1 : Int32))] []))) (fun t ht => XS.ifNo X13.here hx rfl (hb hby at_128) rfl (XT.i0_eq_f ((by decide) : ¬ ((1 : Int32) = 0))) ht) ?_
      refine own_step (U' := (T13.setTop (mkF m 132 #[.val (.int p1), .val (.int p2), .val (.int p3), .val (.int (own_canO p1 p2)), .val (.int (own_canO p1 p3)), .val (.int (own_canA p1 p2)), .val (.int (own_canA p1 p1)), .val (.int (1 : Int32)), .val (.int (1 : Int32)), .val (.int (1 : Int32)), .val (.int (1 : Int32))] [(.int (1 : Int32))]))) (fun t ht => XS.iconst X13.here hx rfl (hb hby at_131) ht) ?_
      refine own_step (U' := (T13.setTop (mkF m 136 #[.val (.int p1), .val (.int p2), .val (.int p3), .val (.int (own_canO p1 p2)), .val (.int (own_canO p1 p3)), .val (.int (own_canA p1 p2)), .val (.int (own_canA p1 p1)), .val (.int (1 : Int32)), .val (.int (1 : Int32)), .val (.int (1 : Int32)), .val (.int (1 : Int32))] [(.int (1 : Int32))]))) (fun t ht => XS.goto X13.here hx rfl (pc0 := 132) (pc' := 136) rfl (hb hby at_132) (by decide) (by decide) ht) ?_
      refine own_ret X13 (v := (some (.int (nar .boolean (1 : Int32))))) (fun h => by rw [Bd.returns] at h; cases h) Bd.notSynchronized (by decide) (by decide) ?_ (fun fs hr => retN X13 hx (t := .boolean) Bd.returns (by simp) (hb hby at_136) hr)
      show own_Q_law Z p1 p2 p3 or1 an1 h0 n0 _ T13.heap _
      rw [e13]
      exact ⟨rfl, N13⟩
    ·
      refine own_step (U' := (T13.setTop (mkF m 87 #[.val (.int p1), .val (.int p2), .val (.int p3), .val (.int (own_canO p1 p2)), .val (.int (own_canO p1 p3)), .val (.int (own_canA p1 p2)), .val (.int (own_canA p1 p1)), .val (.int (1 : Int32)), .val (.int (1 : Int32)), .unset, .unset] [(.int (own_canA p1 p2))]))) (fun t ht => XS.icmpYes X13.here hx rfl (pc0 := 80) (pc' := 87) rfl (hb hby at_80) rfl (XT.ii_ne_t hc80_15) (by decide) (by decide) ht) ?_
      refine own_step (U' := (T13.setTop (mkF m 88 #[.val (.int p1), .val (.int p2), .val (.int p3), .val (.int (own_canO p1 p2)), .val (.int (own_canO p1 p3)), .val (.int (own_canA p1 p2)), .val (.int (own_canA p1 p1)), .val (.int (1 : Int32)), .val (.int (1 : Int32)), .unset, .unset] [(.int (0 : Int32)), (.int (own_canA p1 p2))]))) (fun t ht => XS.iconst X13.here hx rfl (hb hby at_87) ht) ?_
      refine own_step (U' := (T13.setTop (mkF m 91 #[.val (.int p1), .val (.int p2), .val (.int p3), .val (.int (own_canO p1 p2)), .val (.int (own_canO p1 p3)), .val (.int (own_canA p1 p2)), .val (.int (own_canA p1 p1)), .val (.int (1 : Int32)), .val (.int (1 : Int32)), .unset, .unset] []))) (fun t ht => XS.icmpNo X13.here hx rfl (hb hby at_88) rfl (XT.ii_ne_f ((by rw [own_canA, if_pos hc41_14, if_neg hc80_15] <;> rfl) : (own_canA p1 p2) = (0 : Int32))) ht) ?_
      refine own_step (U' := (T13.setTop (mkF m 92 #[.val (.int p1), .val (.int p2), .val (.int p3), .val (.int (own_canO p1 p2)), .val (.int (own_canO p1 p3)), .val (.int (own_canA p1 p2)), .val (.int (own_canA p1 p1)), .val (.int (1 : Int32)), .val (.int (1 : Int32)), .unset, .unset] [(.int (1 : Int32))]))) (fun t ht => XS.iconst X13.here hx rfl (hb hby at_91) ht) ?_
      refine own_step (U' := (T13.setTop (mkF m 96 #[.val (.int p1), .val (.int p2), .val (.int p3), .val (.int (own_canO p1 p2)), .val (.int (own_canO p1 p3)), .val (.int (own_canA p1 p2)), .val (.int (own_canA p1 p1)), .val (.int (1 : Int32)), .val (.int (1 : Int32)), .unset, .unset] [(.int (1 : Int32))]))) (fun t ht => XS.goto X13.here hx rfl (pc0 := 92) (pc' := 96) rfl (hb hby at_92) (by decide) (by decide) ht) ?_
      refine own_step (U' := (T13.setTop (mkF m 98 #[.val (.int p1), .val (.int p2), .val (.int p3), .val (.int (own_canO p1 p2)), .val (.int (own_canO p1 p3)), .val (.int (own_canA p1 p2)), .val (.int (own_canA p1 p1)), .val (.int (1 : Int32)), .val (.int (1 : Int32)), .val (.int (1 : Int32)), .unset] []))) (fun t ht => XS.istore X13.here hx rfl (hb hby at_96) rfl (l' := #[.val (.int p1), .val (.int p2), .val (.int p3), .val (.int (own_canO p1 p2)), .val (.int (own_canO p1 p3)), .val (.int (own_canA p1 p2)), .val (.int (own_canA p1 p1)), .val (.int (1 : Int32)), .val (.int (1 : Int32)), .val (.int (1 : Int32)), .unset]) rfl ht) ?_
      refine own_step (U' := (T13.setTop (mkF m 100 #[.val (.int p1), .val (.int p2), .val (.int p3), .val (.int (own_canO p1 p2)), .val (.int (own_canO p1 p3)), .val (.int (own_canA p1 p2)), .val (.int (own_canA p1 p1)), .val (.int (1 : Int32)), .val (.int (1 : Int32)), .val (.int (1 : Int32)), .unset] [(.int (own_canA p1 p1))]))) (fun t ht => XS.iload X13.here hx rfl (hb hby at_98) rfl ht) ?_
      refine own_step (U' := (T13.setTop (mkF m 101 #[.val (.int p1), .val (.int p2), .val (.int p3), .val (.int (own_canO p1 p2)), .val (.int (own_canO p1 p3)), .val (.int (own_canA p1 p2)), .val (.int (own_canA p1 p1)), .val (.int (1 : Int32)), .val (.int (1 : Int32)), .val (.int (1 : Int32)), .unset] [(.int (own_canO p1 p2)), (.int (own_canA p1 p1))]))) (fun t ht => XS.iloadN X13.here hx rfl (hb hby at_100) rfl ht) ?_
      refine own_step (U' := (T13.setTop (mkF m 104 #[.val (.int p1), .val (.int p2), .val (.int p3), .val (.int (own_canO p1 p2)), .val (.int (own_canO p1 p3)), .val (.int (own_canA p1 p2)), .val (.int (own_canA p1 p1)), .val (.int (1 : Int32)), .val (.int (1 : Int32)), .val (.int (1 : Int32)), .unset] []))) (fun t ht => XS.icmpNo X13.here hx rfl (hb hby at_101) rfl (XT.ii_ne_f ((by simp [own_canA, own_canO]) : (own_canA p1 p1) = (own_canO p1 p2))) ht) ?_
      refine own_step (U' := (T13.setTop (mkF m 105 #[.val (.int p1), .val (.int p2), .val (.int p3), .val (.int (own_canO p1 p2)), .val (.int (own_canO p1 p3)), .val (.int (own_canA p1 p2)), .val (.int (own_canA p1 p1)), .val (.int (1 : Int32)), .val (.int (1 : Int32)), .val (.int (1 : Int32)), .unset] [(.int (1 : Int32))]))) (fun t ht => XS.iconst X13.here hx rfl (hb hby at_104) ht) ?_
      refine own_step (U' := (T13.setTop (mkF m 109 #[.val (.int p1), .val (.int p2), .val (.int p3), .val (.int (own_canO p1 p2)), .val (.int (own_canO p1 p3)), .val (.int (own_canA p1 p2)), .val (.int (own_canA p1 p1)), .val (.int (1 : Int32)), .val (.int (1 : Int32)), .val (.int (1 : Int32)), .unset] [(.int (1 : Int32))]))) (fun t ht => XS.goto X13.here hx rfl (pc0 := 105) (pc' := 109) rfl (hb hby at_105) (by decide) (by decide) ht) ?_
      refine own_step (U' := (T13.setTop (mkF m 111 #[.val (.int p1), .val (.int p2), .val (.int p3), .val (.int (own_canO p1 p2)), .val (.int (own_canO p1 p3)), .val (.int (own_canA p1 p2)), .val (.int (own_canA p1 p1)), .val (.int (1 : Int32)), .val (.int (1 : Int32)), .val (.int (1 : Int32)), .val (.int (1 : Int32))] []))) (fun t ht => XS.istore X13.here hx rfl (hb hby at_109) rfl (l' := #[.val (.int p1), .val (.int p2), .val (.int p3), .val (.int (own_canO p1 p2)), .val (.int (own_canO p1 p3)), .val (.int (own_canA p1 p2)), .val (.int (own_canA p1 p1)), .val (.int (1 : Int32)), .val (.int (1 : Int32)), .val (.int (1 : Int32)), .val (.int (1 : Int32))]) rfl ht) ?_
      refine own_step (U' := (T13.setTop (mkF m 113 #[.val (.int p1), .val (.int p2), .val (.int p3), .val (.int (own_canO p1 p2)), .val (.int (own_canO p1 p3)), .val (.int (own_canA p1 p2)), .val (.int (own_canA p1 p1)), .val (.int (1 : Int32)), .val (.int (1 : Int32)), .val (.int (1 : Int32)), .val (.int (1 : Int32))] [(.int (1 : Int32))]))) (fun t ht => XS.iload X13.here hx rfl (hb hby at_111) rfl ht) ?_
      refine own_step (U' := (T13.setTop (mkF m 116 #[.val (.int p1), .val (.int p2), .val (.int p3), .val (.int (own_canO p1 p2)), .val (.int (own_canO p1 p3)), .val (.int (own_canA p1 p2)), .val (.int (own_canA p1 p1)), .val (.int (1 : Int32)), .val (.int (1 : Int32)), .val (.int (1 : Int32)), .val (.int (1 : Int32))] []))) (fun t ht => XS.ifNo X13.here hx rfl (hb hby at_113) rfl (XT.i0_eq_f ((by decide) : ¬ ((1 : Int32) = 0))) ht) ?_
      refine own_step (U' := (T13.setTop (mkF m 118 #[.val (.int p1), .val (.int p2), .val (.int p3), .val (.int (own_canO p1 p2)), .val (.int (own_canO p1 p3)), .val (.int (own_canA p1 p2)), .val (.int (own_canA p1 p1)), .val (.int (1 : Int32)), .val (.int (1 : Int32)), .val (.int (1 : Int32)), .val (.int (1 : Int32))] [(.int (1 : Int32))]))) (fun t ht => XS.iload X13.here hx rfl (hb hby at_116) rfl ht) ?_
      refine own_step (U' := (T13.setTop (mkF m 121 #[.val (.int p1), .val (.int p2), .val (.int p3), .val (.int (own_canO p1 p2)), .val (.int (own_canO p1 p3)), .val (.int (own_canA p1 p2)), .val (.int (own_canA p1 p1)), .val (.int (1 : Int32)), .val (.int (1 : Int32)), .val (.int (1 : Int32)), .val (.int (1 : Int32))] []))) (fun t ht => XS.ifNo X13.here hx rfl (hb hby at_118) rfl (XT.i0_eq_f ((by decide) : ¬ ((1 : Int32) = 0))) ht) ?_
      refine own_step (U' := (T13.setTop (mkF m 123 #[.val (.int p1), .val (.int p2), .val (.int p3), .val (.int (own_canO p1 p2)), .val (.int (own_canO p1 p3)), .val (.int (own_canA p1 p2)), .val (.int (own_canA p1 p1)), .val (.int (1 : Int32)), .val (.int (1 : Int32)), .val (.int (1 : Int32)), .val (.int (1 : Int32))] [(.int (1 : Int32))]))) (fun t ht => XS.iload X13.here hx rfl (hb hby at_121) rfl ht) ?_
      refine own_step (U' := (T13.setTop (mkF m 126 #[.val (.int p1), .val (.int p2), .val (.int p3), .val (.int (own_canO p1 p2)), .val (.int (own_canO p1 p3)), .val (.int (own_canA p1 p2)), .val (.int (own_canA p1 p1)), .val (.int (1 : Int32)), .val (.int (1 : Int32)), .val (.int (1 : Int32)), .val (.int (1 : Int32))] []))) (fun t ht => XS.ifNo X13.here hx rfl (hb hby at_123) rfl (XT.i0_eq_f ((by decide) : ¬ ((1 : Int32) = 0))) ht) ?_
      refine own_step (U' := (T13.setTop (mkF m 128 #[.val (.int p1), .val (.int p2), .val (.int p3), .val (.int (own_canO p1 p2)), .val (.int (own_canO p1 p3)), .val (.int (own_canA p1 p2)), .val (.int (own_canA p1 p1)), .val (.int (1 : Int32)), .val (.int (1 : Int32)), .val (.int (1 : Int32)), .val (.int (1 : Int32))] [(.int (1 : Int32))]))) (fun t ht => XS.iload X13.here hx rfl (hb hby at_126) rfl ht) ?_
      refine own_step (U' := (T13.setTop (mkF m 131 #[.val (.int p1), .val (.int p2), .val (.int p3), .val (.int (own_canO p1 p2)), .val (.int (own_canO p1 p3)), .val (.int (own_canA p1 p2)), .val (.int (own_canA p1 p1)), .val (.int (1 : Int32)), .val (.int (1 : Int32)), .val (.int (1 : Int32)), .val (.int (1 : Int32))] []))) (fun t ht => XS.ifNo X13.here hx rfl (hb hby at_128) rfl (XT.i0_eq_f ((by decide) : ¬ ((1 : Int32) = 0))) ht) ?_
      refine own_step (U' := (T13.setTop (mkF m 132 #[.val (.int p1), .val (.int p2), .val (.int p3), .val (.int (own_canO p1 p2)), .val (.int (own_canO p1 p3)), .val (.int (own_canA p1 p2)), .val (.int (own_canA p1 p1)), .val (.int (1 : Int32)), .val (.int (1 : Int32)), .val (.int (1 : Int32)), .val (.int (1 : Int32))] [(.int (1 : Int32))]))) (fun t ht => XS.iconst X13.here hx rfl (hb hby at_131) ht) ?_
      refine own_step (U' := (T13.setTop (mkF m 136 #[.val (.int p1), .val (.int p2), .val (.int p3), .val (.int (own_canO p1 p2)), .val (.int (own_canO p1 p3)), .val (.int (own_canA p1 p2)), .val (.int (own_canA p1 p1)), .val (.int (1 : Int32)), .val (.int (1 : Int32)), .val (.int (1 : Int32)), .val (.int (1 : Int32))] [(.int (1 : Int32))]))) (fun t ht => XS.goto X13.here hx rfl (pc0 := 132) (pc' := 136) rfl (hb hby at_132) (by decide) (by decide) ht) ?_
      refine own_ret X13 (v := (some (.int (nar .boolean (1 : Int32))))) (fun h => by rw [Bd.returns] at h; cases h) Bd.notSynchronized (by decide) (by decide) ?_ (fun fs hr => retN X13 hx (t := .boolean) Bd.returns (by simp) (hb hby at_136) hr)
      show own_Q_law Z p1 p2 p3 or1 an1 h0 n0 _ T13.heap _
      rw [e13]
      exact ⟨rfl, N13⟩
  ·
    refine own_step (U' := (T13.setTop (mkF m 48 #[.val (.int p1), .val (.int p2), .val (.int p3), .val (.int (own_canO p1 p2)), .val (.int (own_canO p1 p3)), .val (.int (own_canA p1 p2)), .val (.int (own_canA p1 p1)), .unset, .unset, .unset, .unset] [(.int (own_canO p1 p2))]))) (fun t ht => XS.ifYes X13.here hx rfl (pc0 := 41) (pc' := 48) rfl (hb hby at_41) rfl (XT.i0_le_t hc41_14) (by decide) (by decide) ht) ?_
    refine own_step (U' := (T13.setTop (mkF m 49 #[.val (.int p1), .val (.int p2), .val (.int p3), .val (.int (own_canO p1 p2)), .val (.int (own_canO p1 p3)), .val (.int (own_canA p1 p2)), .val (.int (own_canA p1 p1)), .unset, .unset, .unset, .unset] [(.int (0 : Int32)), (.int (own_canO p1 p2))]))) (fun t ht => XS.iconst X13.here hx rfl (hb hby at_48) ht) ?_
    refine own_step (U' := (T13.setTop (mkF m 52 #[.val (.int p1), .val (.int p2), .val (.int p3), .val (.int (own_canO p1 p2)), .val (.int (own_canO p1 p3)), .val (.int (own_canA p1 p2)), .val (.int (own_canA p1 p1)), .unset, .unset, .unset, .unset] []))) (fun t ht => XS.icmpNo X13.here hx rfl (hb hby at_49) rfl (XT.ii_ne_f ((by simp [own_canO, hc41_14]) : (own_canO p1 p2) = (0 : Int32))) ht) ?_
    refine own_step (U' := (T13.setTop (mkF m 53 #[.val (.int p1), .val (.int p2), .val (.int p3), .val (.int (own_canO p1 p2)), .val (.int (own_canO p1 p3)), .val (.int (own_canA p1 p2)), .val (.int (own_canA p1 p1)), .unset, .unset, .unset, .unset] [(.int (1 : Int32))]))) (fun t ht => XS.iconst X13.here hx rfl (hb hby at_52) ht) ?_
    refine own_step (U' := (T13.setTop (mkF m 57 #[.val (.int p1), .val (.int p2), .val (.int p3), .val (.int (own_canO p1 p2)), .val (.int (own_canO p1 p3)), .val (.int (own_canA p1 p2)), .val (.int (own_canA p1 p1)), .unset, .unset, .unset, .unset] [(.int (1 : Int32))]))) (fun t ht => XS.goto X13.here hx rfl (pc0 := 53) (pc' := 57) rfl (hb hby at_53) (by decide) (by decide) ht) ?_
    refine own_step (U' := (T13.setTop (mkF m 59 #[.val (.int p1), .val (.int p2), .val (.int p3), .val (.int (own_canO p1 p2)), .val (.int (own_canO p1 p3)), .val (.int (own_canA p1 p2)), .val (.int (own_canA p1 p1)), .val (.int (1 : Int32)), .unset, .unset, .unset] []))) (fun t ht => XS.istore X13.here hx rfl (hb hby at_57) rfl (l' := #[.val (.int p1), .val (.int p2), .val (.int p3), .val (.int (own_canO p1 p2)), .val (.int (own_canO p1 p3)), .val (.int (own_canA p1 p2)), .val (.int (own_canA p1 p1)), .val (.int (1 : Int32)), .unset, .unset, .unset]) rfl ht) ?_
    refine own_step (U' := (T13.setTop (mkF m 60 #[.val (.int p1), .val (.int p2), .val (.int p3), .val (.int (own_canO p1 p2)), .val (.int (own_canO p1 p3)), .val (.int (own_canA p1 p2)), .val (.int (own_canA p1 p1)), .val (.int (1 : Int32)), .unset, .unset, .unset] [(.int (own_canO p1 p2))]))) (fun t ht => XS.iloadN X13.here hx rfl (hb hby at_59) rfl ht) ?_
    refine own_step (U' := (T13.setTop (mkF m 62 #[.val (.int p1), .val (.int p2), .val (.int p3), .val (.int (own_canO p1 p2)), .val (.int (own_canO p1 p3)), .val (.int (own_canA p1 p2)), .val (.int (own_canA p1 p1)), .val (.int (1 : Int32)), .unset, .unset, .unset] [(.int (own_canO p1 p3)), (.int (own_canO p1 p2))]))) (fun t ht => XS.iload X13.here hx rfl (hb hby at_60) rfl ht) ?_
    refine own_step (U' := (T13.setTop (mkF m 65 #[.val (.int p1), .val (.int p2), .val (.int p3), .val (.int (own_canO p1 p2)), .val (.int (own_canO p1 p3)), .val (.int (own_canA p1 p2)), .val (.int (own_canA p1 p1)), .val (.int (1 : Int32)), .unset, .unset, .unset] []))) (fun t ht => XS.icmpNo X13.here hx rfl (hb hby at_62) rfl (XT.ii_ne_f (rfl : (own_canO p1 p2) = (own_canO p1 p3))) ht) ?_
    refine own_step (U' := (T13.setTop (mkF m 66 #[.val (.int p1), .val (.int p2), .val (.int p3), .val (.int (own_canO p1 p2)), .val (.int (own_canO p1 p3)), .val (.int (own_canA p1 p2)), .val (.int (own_canA p1 p1)), .val (.int (1 : Int32)), .unset, .unset, .unset] [(.int (1 : Int32))]))) (fun t ht => XS.iconst X13.here hx rfl (hb hby at_65) ht) ?_
    refine own_step (U' := (T13.setTop (mkF m 70 #[.val (.int p1), .val (.int p2), .val (.int p3), .val (.int (own_canO p1 p2)), .val (.int (own_canO p1 p3)), .val (.int (own_canA p1 p2)), .val (.int (own_canA p1 p1)), .val (.int (1 : Int32)), .unset, .unset, .unset] [(.int (1 : Int32))]))) (fun t ht => XS.goto X13.here hx rfl (pc0 := 66) (pc' := 70) rfl (hb hby at_66) (by decide) (by decide) ht) ?_
    refine own_step (U' := (T13.setTop (mkF m 72 #[.val (.int p1), .val (.int p2), .val (.int p3), .val (.int (own_canO p1 p2)), .val (.int (own_canO p1 p3)), .val (.int (own_canA p1 p2)), .val (.int (own_canA p1 p1)), .val (.int (1 : Int32)), .val (.int (1 : Int32)), .unset, .unset] []))) (fun t ht => XS.istore X13.here hx rfl (hb hby at_70) rfl (l' := #[.val (.int p1), .val (.int p2), .val (.int p3), .val (.int (own_canO p1 p2)), .val (.int (own_canO p1 p3)), .val (.int (own_canA p1 p2)), .val (.int (own_canA p1 p1)), .val (.int (1 : Int32)), .val (.int (1 : Int32)), .unset, .unset]) rfl ht) ?_
    refine own_step (U' := (T13.setTop (mkF m 74 #[.val (.int p1), .val (.int p2), .val (.int p3), .val (.int (own_canO p1 p2)), .val (.int (own_canO p1 p3)), .val (.int (own_canA p1 p2)), .val (.int (own_canA p1 p1)), .val (.int (1 : Int32)), .val (.int (1 : Int32)), .unset, .unset] [(.int (own_canA p1 p2))]))) (fun t ht => XS.iload X13.here hx rfl (hb hby at_72) rfl ht) ?_
    refine own_step (U' := (T13.setTop (mkF m 75 #[.val (.int p1), .val (.int p2), .val (.int p3), .val (.int (own_canO p1 p2)), .val (.int (own_canO p1 p3)), .val (.int (own_canA p1 p2)), .val (.int (own_canA p1 p1)), .val (.int (1 : Int32)), .val (.int (1 : Int32)), .unset, .unset] [(.int (own_canO p1 p2)), (.int (own_canA p1 p2))]))) (fun t ht => XS.iloadN X13.here hx rfl (hb hby at_74) rfl ht) ?_
    refine own_step (U' := (T13.setTop (mkF m 87 #[.val (.int p1), .val (.int p2), .val (.int p3), .val (.int (own_canO p1 p2)), .val (.int (own_canO p1 p3)), .val (.int (own_canA p1 p2)), .val (.int (own_canA p1 p1)), .val (.int (1 : Int32)), .val (.int (1 : Int32)), .unset, .unset] [(.int (own_canA p1 p2))]))) (fun t ht => XS.ifYes X13.here hx rfl (pc0 := 75) (pc' := 87) rfl (hb hby at_75) rfl (XT.i0_eq_t ((by simp [own_canO, hc41_14]) : (own_canO p1 p2) = 0)) (by decide) (by decide) ht) ?_
    refine own_step (U' := (T13.setTop (mkF m 88 #[.val (.int p1), .val (.int p2), .val (.int p3), .val (.int (own_canO p1 p2)), .val (.int (own_canO p1 p3)), .val (.int (own_canA p1 p2)), .val (.int (own_canA p1 p1)), .val (.int (1 : Int32)), .val (.int (1 : Int32)), .unset, .unset] [(.int (0 : Int32)), (.int (own_canA p1 p2))]))) (fun t ht => XS.iconst X13.here hx rfl (hb hby at_87) ht) ?_
    refine own_step (U' := (T13.setTop (mkF m 91 #[.val (.int p1), .val (.int p2), .val (.int p3), .val (.int (own_canO p1 p2)), .val (.int (own_canO p1 p3)), .val (.int (own_canA p1 p2)), .val (.int (own_canA p1 p1)), .val (.int (1 : Int32)), .val (.int (1 : Int32)), .unset, .unset] []))) (fun t ht => XS.icmpNo X13.here hx rfl (hb hby at_88) rfl (XT.ii_ne_f ((by rw [own_canA, if_neg hc41_14] <;> rfl) : (own_canA p1 p2) = (0 : Int32))) ht) ?_
    refine own_step (U' := (T13.setTop (mkF m 92 #[.val (.int p1), .val (.int p2), .val (.int p3), .val (.int (own_canO p1 p2)), .val (.int (own_canO p1 p3)), .val (.int (own_canA p1 p2)), .val (.int (own_canA p1 p1)), .val (.int (1 : Int32)), .val (.int (1 : Int32)), .unset, .unset] [(.int (1 : Int32))]))) (fun t ht => XS.iconst X13.here hx rfl (hb hby at_91) ht) ?_
    refine own_step (U' := (T13.setTop (mkF m 96 #[.val (.int p1), .val (.int p2), .val (.int p3), .val (.int (own_canO p1 p2)), .val (.int (own_canO p1 p3)), .val (.int (own_canA p1 p2)), .val (.int (own_canA p1 p1)), .val (.int (1 : Int32)), .val (.int (1 : Int32)), .unset, .unset] [(.int (1 : Int32))]))) (fun t ht => XS.goto X13.here hx rfl (pc0 := 92) (pc' := 96) rfl (hb hby at_92) (by decide) (by decide) ht) ?_
    refine own_step (U' := (T13.setTop (mkF m 98 #[.val (.int p1), .val (.int p2), .val (.int p3), .val (.int (own_canO p1 p2)), .val (.int (own_canO p1 p3)), .val (.int (own_canA p1 p2)), .val (.int (own_canA p1 p1)), .val (.int (1 : Int32)), .val (.int (1 : Int32)), .val (.int (1 : Int32)), .unset] []))) (fun t ht => XS.istore X13.here hx rfl (hb hby at_96) rfl (l' := #[.val (.int p1), .val (.int p2), .val (.int p3), .val (.int (own_canO p1 p2)), .val (.int (own_canO p1 p3)), .val (.int (own_canA p1 p2)), .val (.int (own_canA p1 p1)), .val (.int (1 : Int32)), .val (.int (1 : Int32)), .val (.int (1 : Int32)), .unset]) rfl ht) ?_
    refine own_step (U' := (T13.setTop (mkF m 100 #[.val (.int p1), .val (.int p2), .val (.int p3), .val (.int (own_canO p1 p2)), .val (.int (own_canO p1 p3)), .val (.int (own_canA p1 p2)), .val (.int (own_canA p1 p1)), .val (.int (1 : Int32)), .val (.int (1 : Int32)), .val (.int (1 : Int32)), .unset] [(.int (own_canA p1 p1))]))) (fun t ht => XS.iload X13.here hx rfl (hb hby at_98) rfl ht) ?_
    refine own_step (U' := (T13.setTop (mkF m 101 #[.val (.int p1), .val (.int p2), .val (.int p3), .val (.int (own_canO p1 p2)), .val (.int (own_canO p1 p3)), .val (.int (own_canA p1 p2)), .val (.int (own_canA p1 p1)), .val (.int (1 : Int32)), .val (.int (1 : Int32)), .val (.int (1 : Int32)), .unset] [(.int (own_canO p1 p2)), (.int (own_canA p1 p1))]))) (fun t ht => XS.iloadN X13.here hx rfl (hb hby at_100) rfl ht) ?_
    refine own_step (U' := (T13.setTop (mkF m 104 #[.val (.int p1), .val (.int p2), .val (.int p3), .val (.int (own_canO p1 p2)), .val (.int (own_canO p1 p3)), .val (.int (own_canA p1 p2)), .val (.int (own_canA p1 p1)), .val (.int (1 : Int32)), .val (.int (1 : Int32)), .val (.int (1 : Int32)), .unset] []))) (fun t ht => XS.icmpNo X13.here hx rfl (hb hby at_101) rfl (XT.ii_ne_f ((by simp [own_canA, own_canO]) : (own_canA p1 p1) = (own_canO p1 p2))) ht) ?_
    refine own_step (U' := (T13.setTop (mkF m 105 #[.val (.int p1), .val (.int p2), .val (.int p3), .val (.int (own_canO p1 p2)), .val (.int (own_canO p1 p3)), .val (.int (own_canA p1 p2)), .val (.int (own_canA p1 p1)), .val (.int (1 : Int32)), .val (.int (1 : Int32)), .val (.int (1 : Int32)), .unset] [(.int (1 : Int32))]))) (fun t ht => XS.iconst X13.here hx rfl (hb hby at_104) ht) ?_
    refine own_step (U' := (T13.setTop (mkF m 109 #[.val (.int p1), .val (.int p2), .val (.int p3), .val (.int (own_canO p1 p2)), .val (.int (own_canO p1 p3)), .val (.int (own_canA p1 p2)), .val (.int (own_canA p1 p1)), .val (.int (1 : Int32)), .val (.int (1 : Int32)), .val (.int (1 : Int32)), .unset] [(.int (1 : Int32))]))) (fun t ht => XS.goto X13.here hx rfl (pc0 := 105) (pc' := 109) rfl (hb hby at_105) (by decide) (by decide) ht) ?_
    refine own_step (U' := (T13.setTop (mkF m 111 #[.val (.int p1), .val (.int p2), .val (.int p3), .val (.int (own_canO p1 p2)), .val (.int (own_canO p1 p3)), .val (.int (own_canA p1 p2)), .val (.int (own_canA p1 p1)), .val (.int (1 : Int32)), .val (.int (1 : Int32)), .val (.int (1 : Int32)), .val (.int (1 : Int32))] []))) (fun t ht => XS.istore X13.here hx rfl (hb hby at_109) rfl (l' := #[.val (.int p1), .val (.int p2), .val (.int p3), .val (.int (own_canO p1 p2)), .val (.int (own_canO p1 p3)), .val (.int (own_canA p1 p2)), .val (.int (own_canA p1 p1)), .val (.int (1 : Int32)), .val (.int (1 : Int32)), .val (.int (1 : Int32)), .val (.int (1 : Int32))]) rfl ht) ?_
    refine own_step (U' := (T13.setTop (mkF m 113 #[.val (.int p1), .val (.int p2), .val (.int p3), .val (.int (own_canO p1 p2)), .val (.int (own_canO p1 p3)), .val (.int (own_canA p1 p2)), .val (.int (own_canA p1 p1)), .val (.int (1 : Int32)), .val (.int (1 : Int32)), .val (.int (1 : Int32)), .val (.int (1 : Int32))] [(.int (1 : Int32))]))) (fun t ht => XS.iload X13.here hx rfl (hb hby at_111) rfl ht) ?_
    refine own_step (U' := (T13.setTop (mkF m 116 #[.val (.int p1), .val (.int p2), .val (.int p3), .val (.int (own_canO p1 p2)), .val (.int (own_canO p1 p3)), .val (.int (own_canA p1 p2)), .val (.int (own_canA p1 p1)), .val (.int (1 : Int32)), .val (.int (1 : Int32)), .val (.int (1 : Int32)), .val (.int (1 : Int32))] []))) (fun t ht => XS.ifNo X13.here hx rfl (hb hby at_113) rfl (XT.i0_eq_f ((by decide) : ¬ ((1 : Int32) = 0))) ht) ?_
    refine own_step (U' := (T13.setTop (mkF m 118 #[.val (.int p1), .val (.int p2), .val (.int p3), .val (.int (own_canO p1 p2)), .val (.int (own_canO p1 p3)), .val (.int (own_canA p1 p2)), .val (.int (own_canA p1 p1)), .val (.int (1 : Int32)), .val (.int (1 : Int32)), .val (.int (1 : Int32)), .val (.int (1 : Int32))] [(.int (1 : Int32))]))) (fun t ht => XS.iload X13.here hx rfl (hb hby at_116) rfl ht) ?_
    refine own_step (U' := (T13.setTop (mkF m 121 #[.val (.int p1), .val (.int p2), .val (.int p3), .val (.int (own_canO p1 p2)), .val (.int (own_canO p1 p3)), .val (.int (own_canA p1 p2)), .val (.int (own_canA p1 p1)), .val (.int (1 : Int32)), .val (.int (1 : Int32)), .val (.int (1 : Int32)), .val (.int (1 : Int32))] []))) (fun t ht => XS.ifNo X13.here hx rfl (hb hby at_118) rfl (XT.i0_eq_f ((by decide) : ¬ ((1 : Int32) = 0))) ht) ?_
    refine own_step (U' := (T13.setTop (mkF m 123 #[.val (.int p1), .val (.int p2), .val (.int p3), .val (.int (own_canO p1 p2)), .val (.int (own_canO p1 p3)), .val (.int (own_canA p1 p2)), .val (.int (own_canA p1 p1)), .val (.int (1 : Int32)), .val (.int (1 : Int32)), .val (.int (1 : Int32)), .val (.int (1 : Int32))] [(.int (1 : Int32))]))) (fun t ht => XS.iload X13.here hx rfl (hb hby at_121) rfl ht) ?_
    refine own_step (U' := (T13.setTop (mkF m 126 #[.val (.int p1), .val (.int p2), .val (.int p3), .val (.int (own_canO p1 p2)), .val (.int (own_canO p1 p3)), .val (.int (own_canA p1 p2)), .val (.int (own_canA p1 p1)), .val (.int (1 : Int32)), .val (.int (1 : Int32)), .val (.int (1 : Int32)), .val (.int (1 : Int32))] []))) (fun t ht => XS.ifNo X13.here hx rfl (hb hby at_123) rfl (XT.i0_eq_f ((by decide) : ¬ ((1 : Int32) = 0))) ht) ?_
    refine own_step (U' := (T13.setTop (mkF m 128 #[.val (.int p1), .val (.int p2), .val (.int p3), .val (.int (own_canO p1 p2)), .val (.int (own_canO p1 p3)), .val (.int (own_canA p1 p2)), .val (.int (own_canA p1 p1)), .val (.int (1 : Int32)), .val (.int (1 : Int32)), .val (.int (1 : Int32)), .val (.int (1 : Int32))] [(.int (1 : Int32))]))) (fun t ht => XS.iload X13.here hx rfl (hb hby at_126) rfl ht) ?_
    refine own_step (U' := (T13.setTop (mkF m 131 #[.val (.int p1), .val (.int p2), .val (.int p3), .val (.int (own_canO p1 p2)), .val (.int (own_canO p1 p3)), .val (.int (own_canA p1 p2)), .val (.int (own_canA p1 p1)), .val (.int (1 : Int32)), .val (.int (1 : Int32)), .val (.int (1 : Int32)), .val (.int (1 : Int32))] []))) (fun t ht => XS.ifNo X13.here hx rfl (hb hby at_128) rfl (XT.i0_eq_f ((by decide) : ¬ ((1 : Int32) = 0))) ht) ?_
    refine own_step (U' := (T13.setTop (mkF m 132 #[.val (.int p1), .val (.int p2), .val (.int p3), .val (.int (own_canO p1 p2)), .val (.int (own_canO p1 p3)), .val (.int (own_canA p1 p2)), .val (.int (own_canA p1 p1)), .val (.int (1 : Int32)), .val (.int (1 : Int32)), .val (.int (1 : Int32)), .val (.int (1 : Int32))] [(.int (1 : Int32))]))) (fun t ht => XS.iconst X13.here hx rfl (hb hby at_131) ht) ?_
    refine own_step (U' := (T13.setTop (mkF m 136 #[.val (.int p1), .val (.int p2), .val (.int p3), .val (.int (own_canO p1 p2)), .val (.int (own_canO p1 p3)), .val (.int (own_canA p1 p2)), .val (.int (own_canA p1 p1)), .val (.int (1 : Int32)), .val (.int (1 : Int32)), .val (.int (1 : Int32)), .val (.int (1 : Int32))] [(.int (1 : Int32))]))) (fun t ht => XS.goto X13.here hx rfl (pc0 := 132) (pc' := 136) rfl (hb hby at_132) (by decide) (by decide) ht) ?_
    refine own_ret X13 (v := (some (.int (nar .boolean (1 : Int32))))) (fun h => by rw [Bd.returns] at h; cases h) Bd.notSynchronized (by decide) (by decide) ?_ (fun fs hr => retN X13 hx (t := .boolean) Bd.returns (by simp) (hb hby at_136) hr)
    show own_Q_law Z p1 p2 p3 or1 an1 h0 n0 _ T13.heap _
    rw [e13]
    exact ⟨rfl, N13⟩
set_option maxRecDepth 65536 in
set_option maxHeartbeats 40000000 in
theorem own_comes {Post : Tables → Env → Array Value → State → Outcome → State → Prop} (hpost : ∀ tb e args s v u, (limb_1_1.after args s (.returned v) u = true ∧ limb_1_2.after args s (.returned v) u = true ∧ True) → FrameEnd s (.returned v) u (Jvm.fieldLocs frame_1_writes args s ++ Jvm.arrayLocs frame_1_arrays args s ++ Jvm.staticLocs frame_1_statics s) 0 0 → Post tb e args s (.returned v) u) :
    ArmFor flags0 classFile x code maxLocals ret World_1 tables_1 room_1 Calls_1 rest_1 Pre_1 Post := by
  intro l hfl _ _ p e ha hc hk s m args below hf hA hF happ hP
  obtain ⟨hcalls, hrest, hpre⟩ := hP
  obtain ⟨-, -, -, hnamed, -, -, -, hat⟩ := (Spec.applies_iff hf).mp happ
  obtain ⟨hg, hn⟩ := and_e (Cond.before_iff.mp (show (Jvm.Cond.and given_1 narrow_1).before args s = true from hpre))
  obtain ⟨hcount, q0⟩ := and_e hg
  obtain ⟨a0, q1⟩ := and_e q0
  obtain ⟨a1, q2⟩ := and_e q1
  have a2 := q2
  obtain ⟨w0, w1, w2, rfl⟩ : ∃ w0 w1 w2 : Value, args = #[w0, w1, w2] := by
    have hs : args.size = 3 := by simpa [Cond.value, given_1] using hcount
    obtain ⟨L⟩ := args
    match L, hs with
    | [w0, w1, w2], _ => exact ⟨w0, w1, w2, rfl⟩
  obtain ⟨i0, e0⟩ := is_v a0
  obtain rfl : w0 = (.int i0) := Option.some.inj e0
  obtain ⟨i1, e1⟩ := is_v a1
  obtain rfl : w1 = (.int i1) := Option.some.inj e1
  obtain ⟨i2, e2⟩ := is_v a2
  obtain rfl : w2 = (.int i2) := Option.some.inj e2
  have hw := fun d (hd : d ∈ tables_1) => atoms_spec (ws := Jvm.Cond.code x code maxLocals ret :: tables_1) hat d (List.mem_cons_of_mem _ hd)
  have hfit : Fit s := fun {y c} hc i hi => by
    obtain ⟨ha, rfl⟩ := Array.getElem?_eq_some_iff.mp hc
    have q := List.all_eq_true.mp ((Array.all_eq_true_iff_forall_mem.mp hF) _ (Array.getElem_mem ha)) i (List.mem_range.mpr hi)
    simpa [Array.getElem?_eq_getElem hi] using q
  obtain ⟨n1, hn2⟩ := and_e hn
  obtain ⟨n2, hn3⟩ := and_e hn2
  obtain ⟨n3, n4⟩ := and_e hn3
  obtain ⟨xo, eo⟩ := exa_v n1
  obtain ⟨xa, ea⟩ := exa_v n2
  have So := Sta.start eo (Or.inr ⟨hw _ (List.mem_of_getElem? (i := 1) rfl), hw _ (List.mem_of_getElem? (i := 2) rfl)⟩)
  have Sa := Sta.start ea (Or.inr ⟨hw _ (List.mem_of_getElem? (i := 1) rfl), hw _ (List.mem_of_getElem? (i := 9) rfl)⟩)
  have Eo := Exa.start eo n1
  have Ea := Exa.start ea n2
  have ne := Fld.ne (own_fieldint ea n3) (own_fieldint eo n4) (by decide)
  obtain ⟨n, o, h1, h2, h3, _, L, rfl, ⟨rfl, N⟩, hq⟩ := own_m_law l s _ hw tables_1 i0 i1 i2 xo xa s.heap s.heap.size (Nat.le_refl _) So Sa Eo Ea ne p e ha hc hk s m _ below hf ((Spec.applies_iff_loose hf).mp happ).1 ⟨rfl, State.Warmed39.refl s, rfl⟩ trivial
  refine ⟨n, _, h1, h2, h3, hpost _ _ _ _ _ _ ⟨Cond.after_iff.mpr rfl, Cond.after_iff.mpr (eq_i res_at (Term.int_eval (1)) rfl), trivial⟩ ⟨hq.1, hq.2.1, (hq.2.2.sift fun y hy => Or.inr (N y hy)).mono (by decide) (by decide)⟩⟩
theorem main_1_1 : Claimed_1_1 := own_comes fun _ _ _ _ _ _ h hF => ⟨h.1, hF⟩
theorem main_1_2 : Claimed_1_2 := own_comes fun _ _ _ _ _ _ h hF => ⟨h.2.1, hF⟩
end Jvm.Pilot.@@N@@
namespace Jvm.Pilot.@@N@@
open Jvm Jvm.ClassFile Sem Op Lib Jvm.Free Jvm.Stand Jvm.Pilot.@@N@@.Jvm.D
/-! MADE BY PROGRAM (witnessworld.py) out of the Statement's table words and the real class files: 12 classes; the members and pool entries that the words name. The judged class is class 1, her method 1. -/
namespace start1
open Jvm.ClassFile
def u (s : String) : CpInfo := .utf8 (stringToUtf16 s)
/-- a pool by its gaps: so many unusable entries, then the entry; so many at the end -/
def gap : Nat → List CpInfo → List CpInfo
  | 0, r => r
  | n + 1, r => .unusable :: gap n r
def poolList (es : List (Nat × CpInfo)) (last : Nat) : List CpInfo := es.foldr (fun e r => gap e.1 (e.2 :: r)) (gap last [])
def pool (es : List (Nat × CpInfo)) (last : Nat) : Array CpInfo := ⟨poolList es last⟩
def fileOf (pool : Array CpInfo) (this : Nat) (attrs : Array Attribute := #[]) (ms : Array MethodInfo := #[]) (fl : Nat := 33) (sup : Nat := 0) (ifs : Array Nat := #[]) (fds : Array FieldInfo := #[]) : ClassFile where
  minorVersion := 0
  majorVersion := 65
  constantPool := pool
  accessFlags := fl
  thisClass := this
  superClass := sup
  interfaces := ifs
  fields := fds
  methods := ms
  attributes := attrs
def plain (name : String) (sup : Option ClassId) : Class where
  name := name
  kind := .ordinary
  loader := none
  accessFlags := 33
  super := sup
  interfaces := #[]
  cf := none
  fields := #[]
  methods := #[]
  instanceTypes := #[]
  staticTypes := #[]
  resolved := #[]
  callSites := []
  init := .initialized
  statics := none
  mirror := none

def pool0 : Array CpInfo := pool [(5, u "<init>"), (0, u "()V"), (1, .class_ 10), (1, u "java/lang/Object")] 113

def k0m0 : Method := { name := "<init>", desc := "()V", sig := { parameters := [], returnType := none }, accessFlags := 1, code := none }
/-- java/lang/Object -/
def k0 : Class := { plain "java/lang/Object" none with
  accessFlags := 33
  interfaces := #[]
  cf := some (fileOf pool0 8 #[] #[{ accessFlags := 1, nameIndex := 5, descriptorIndex := 6, attributes := #[] }] 33 0 #[] #[])
  fields := #[]
  methods := #[k0m0]
  instanceTypes := #[]
  staticTypes := #[]
  resolved := Array.replicate 124 none
  statics := none }

def pool1 : Array CpInfo := pool [(2, .class_ 4), (1, u "java/lang/Object"), (0, u "<init>"), (0, u "()V"), (0, .fieldref 8 9), (0, .class_ 10), (0, .nameAndType 11 12), (0, u "com/example/eigentuple/eigentuple/rank/Mode"), (0, u "OR"), (0, u "Lcom/example/eigentuple/eigentuple/rank/Mode;"), (0, .methodref 8 14), (0, .nameAndType 15 16), (0, u "canAnswer"), (0, u "(II)Z"), (0, .fieldref 8 18), (0, .nameAndType 19 12), (0, u "AND"), (0, .class_ 21), (0, u "com/example/eigentuple/eigentuple/rank/ModeCanAnswerPinLaw"), (2, u "law"), (0, u "(III)Z")] 3

def k1m0 : Method := { name := "<init>", desc := "()V", sig := { parameters := [], returnType := none }, accessFlags := 2, code := none }
def k1c1 : Code := { maxStack := 3, maxLocals := 11, code := code, exceptionTable := #[], attributes := #[] }
def k1m1 : Method := { name := "law", desc := "(III)Z", sig := { parameters := [.int, .int, .int], returnType := some .boolean }, accessFlags := 9, code := some k1c1 }
/-- com/example/eigentuple/eigentuple/rank/ModeCanAnswerPinLaw -/
def k1 : Class := { plain "com/example/eigentuple/eigentuple/rank/ModeCanAnswerPinLaw" (some 0) with
  accessFlags := 49
  interfaces := #[]
  cf := some (fileOf pool1 20 #[] #[{ accessFlags := 2, nameIndex := 5, descriptorIndex := 6, attributes := #[] }, { accessFlags := 9, nameIndex := 24, descriptorIndex := 25, attributes := #[] }] 49 2 #[] #[])
  fields := #[]
  methods := #[k1m0, k1m1]
  instanceTypes := #[]
  staticTypes := #[]
  resolved := Array.replicate 29 none
  statics := none }

def pool2 : Array CpInfo := pool [(1, .class_ 2), (0, u "java/lang/constant/Constable"), (0, .class_ 4), (0, u "java/lang/Object")] 6

/-- java/lang/constant/Constable -/
def k2 : Class := { plain "java/lang/constant/Constable" (some 0) with
  accessFlags := 1537
  interfaces := #[]
  cf := some (fileOf pool2 1 #[] #[] 1537 3 #[] #[])
  fields := #[]
  methods := #[]
  instanceTypes := #[]
  staticTypes := #[]
  resolved := Array.replicate 11 none
  statics := none }

def pool3 : Array CpInfo := pool [(1, .class_ 2), (0, u "java/lang/Comparable"), (0, .class_ 4), (0, u "java/lang/Object")] 7

/-- java/lang/Comparable -/
def k3 : Class := { plain "java/lang/Comparable" (some 0) with
  accessFlags := 1537
  interfaces := #[]
  cf := some (fileOf pool3 1 #[] #[] 1537 3 #[] #[])
  fields := #[]
  methods := #[]
  instanceTypes := #[]
  staticTypes := #[]
  resolved := Array.replicate 12 none
  statics := none }

def pool4 : Array CpInfo := pool [(1, .class_ 2), (0, u "java/io/Serializable"), (0, .class_ 4), (0, u "java/lang/Object")] 2

/-- java/io/Serializable -/
def k4 : Class := { plain "java/io/Serializable" (some 0) with
  accessFlags := 1537
  interfaces := #[]
  cf := some (fileOf pool4 1 #[] #[] 1537 3 #[] #[])
  fields := #[]
  methods := #[]
  instanceTypes := #[]
  staticTypes := #[]
  resolved := Array.replicate 7 none
  statics := none }

def pool5 : Array CpInfo := pool [(2, .class_ 4), (1, u "java/lang/Enum"), (0, u "name"), (0, u "Ljava/lang/String;"), (2, u "ordinal"), (0, u "I"), (1, .class_ 14), (1, u "java/lang/Object"), (4, u "hash"), (86, .class_ 108), (1, u "java/lang/Enum$EnumDesc"), (2, .class_ 112), (0, u "java/lang/constant/Constable"), (0, .class_ 114), (0, u "java/lang/Comparable"), (0, .class_ 116), (0, u "java/io/Serializable")] 87

/-- java/lang/Enum -/
def k5 : Class := { plain "java/lang/Enum" (some 0) with
  accessFlags := 1057
  interfaces := #[2, 3, 4]
  cf := some (fileOf pool5 2 #[.nestMembers #[106]] #[] 1057 12 #[111, 113, 115] #[{ accessFlags := 18, nameIndex := 5, descriptorIndex := 6, attributes := #[] }, { accessFlags := 18, nameIndex := 9, descriptorIndex := 10, attributes := #[] }, { accessFlags := 2, nameIndex := 19, descriptorIndex := 10, attributes := #[] }])
  fields := #[{ name := "name", type := (.object "java/lang/String"), accessFlags := 18, slot := 0, constantValue := 0 }, { name := "ordinal", type := .int, accessFlags := 18, slot := 1, constantValue := 0 }, { name := "hash", type := .int, accessFlags := 2, slot := 2, constantValue := 0 }]
  methods := #[]
  instanceTypes := #[(.object "java/lang/String"), .int, .int]
  staticTypes := #[]
  resolved := Array.replicate 204 none
  statics := none }

def pool6 : Array CpInfo := pool [(1, .class_ 2), (0, u "com/example/eigentuple/eigentuple/rank/Mode"), (2, u "AND"), (0, u "Lcom/example/eigentuple/eigentuple/rank/Mode;"), (0, .fieldref 1 8), (0, .nameAndType 9 6), (0, u "OR"), (2, u "$VALUES"), (0, u "[Lcom/example/eigentuple/eigentuple/rank/Mode;"), (6, .class_ 22), (1, u "java/lang/Enum"), (32, u "canAnswer"), (0, u "(II)Z")] 7

def k6c0 : Code := { maxStack := 2, maxLocals := 3, code := prog_24_method_5_code, exceptionTable := #[], attributes := #[] }
def k6m0 : Method := { name := "canAnswer", desc := "(II)Z", sig := { parameters := [.int, .int], returnType := some .boolean }, accessFlags := 1, code := some k6c0 }
/-- com/example/eigentuple/eigentuple/rank/Mode -/
def k6 : Class := { plain "com/example/eigentuple/eigentuple/rank/Mode" (some 5) with
  accessFlags := 16433
  interfaces := #[]
  cf := some (fileOf pool6 1 #[] #[{ accessFlags := 1, nameIndex := 55, descriptorIndex := 56, attributes := #[] }] 16433 20 #[] #[{ accessFlags := 16409, nameIndex := 5, descriptorIndex := 6, attributes := #[] }, { accessFlags := 16409, nameIndex := 9, descriptorIndex := 6, attributes := #[] }, { accessFlags := 4122, nameIndex := 12, descriptorIndex := 13, attributes := #[] }])
  fields := #[{ name := "AND", type := (.object "com/example/eigentuple/eigentuple/rank/Mode"), accessFlags := 16409, slot := 0, constantValue := 0 }, { name := "OR", type := (.object "com/example/eigentuple/eigentuple/rank/Mode"), accessFlags := 16409, slot := 1, constantValue := 0 }, { name := "$VALUES", type := (.array (.object "com/example/eigentuple/eigentuple/rank/Mode")), accessFlags := 4122, slot := 2, constantValue := 0 }]
  methods := #[k6m0]
  instanceTypes := #[(.object "java/lang/String"), .int, .int]
  staticTypes := #[(.object "com/example/eigentuple/eigentuple/rank/Mode"), (.object "com/example/eigentuple/eigentuple/rank/Mode"), (.array (.object "com/example/eigentuple/eigentuple/rank/Mode"))]
  resolved := Array.replicate 64 none
  statics := some 0 }

def pool7 : Array CpInfo := pool [(1, u "java/lang/Cloneable"), (0, .class_ 1), (0, u "java/lang/Object"), (0, .class_ 3)] 3

/-- java/lang/Cloneable -/
def k7 : Class := { plain "java/lang/Cloneable" (some 0) with
  accessFlags := 1537
  interfaces := #[]
  cf := some (fileOf pool7 2 #[] #[] 1537 4 #[] #[])
  fields := #[]
  methods := #[]
  instanceTypes := #[]
  staticTypes := #[]
  resolved := Array.replicate 8 none
  statics := none }

/-- the primitive byte -/
def k8 : Class := { plain "byte" none with kind := .primitive 'B', accessFlags := 0x411 }
/-- [B -/
def k9 : Class := { plain "[B" (some 0) with kind := .array 8 .byte, interfaces := #[7, 4], accessFlags := 1041 }

/-- the primitive int -/
def k10 : Class := { plain "int" none with kind := .primitive 'I', accessFlags := 0x411 }
/-- [I -/
def k11 : Class := { plain "[I" (some 0) with kind := .array 10 .int, interfaces := #[7, 4], accessFlags := 1041 }

def heap : Heap := #[{ cls := 6, slots := #[.ref 2, .ref 1, .null], vm := .statics 6 },
  { cls := 6, slots := #[.null, .int 1, .int 0], vm := .none },
  { cls := 6, slots := #[.null, .int 0, .int 0], vm := .none }]
def classes : Array Class := #[k0, k1, k2, k3, k4, k5, k6, k7, k8, k9, k10, k11]
def interned : List (Array UInt16 × Addr) := []
def slotsUsed : Nat := 9
def theMethod : MethodId := ⟨1, 1⟩
def args0 : Array Value := #[.int 5, .int 7, .int 8]
def aboutOver (below : List Frame) : State where
  vm := { classes := classes, interned := interned.toArray }
  heap := heap
  slotsUsed := slotsUsed
  threads := #[{ frames := .invoking theMethod args0 :: below }]
def below0 : List Frame := [.native { method := ⟨0, 0⟩, args := #[] }]
def about1 : State := aboutOver below0
def p0 : Program := .bare "" "" ""
def e0 : Env := launch0.env 0 0 0
theorem w_frames : about1.frames = Frame.invoking theMethod args0 :: below0 := rfl
set_option maxRecDepth 65536 in
theorem w_args : argsFit about1.vm theMethod args0 = true := by decide +kernel
set_option maxRecDepth 65536 in
theorem w_heap : heapFits about1 = true := by decide +kernel
set_option maxRecDepth 65536 in
theorem w_runnable : about1.curStatus? = some .runnable := by decide +kernel
set_option maxRecDepth 65536 in
theorem w_alone : about1.alone = true := by decide +kernel
set_option maxRecDepth 65536 in
theorem w_named : about1.methodNamed? x = some theMethod := by decide +kernel
set_option maxRecDepth 65536 in
theorem w_hears : about1.hears theMethod below0 = true := by decide +kernel
set_option maxRecDepth 65536 in
theorem w_ripe : about1.ripe theMethod args0 below0 = true := by decide +kernel
theorem w_running : about1.status = .running := rfl
set_option maxRecDepth 65536 in
theorem w_room : about1.hasRoom e0.platform room_1 = true :=
  launch0.hasRoom_least _ room_1 (by decide +kernel) (by decide +kernel) (by decide +kernel) (by decide +kernel) (by decide +kernel) (by decide +kernel)
theorem allAtoms_all (ts : List Jvm.Cond) (a : Array Jvm.Value) (st : Jvm.State) : (allAtoms ts).before a st = ts.all (fun c => c.before a st) := by
  induction ts with
  | nil => rfl
  | cons c t ih =>
    show (Jvm.Cond.and c (allAtoms t)).before a st = _
    rw [Jvm.Cond.before_and, ih, List.all_cons]
def words1 : List Jvm.Cond := Jvm.Cond.code x code maxLocals ret :: tables_1
/-- a 'code' word, met by the world's own term for the bytes: nothing is compared byte by byte -/
theorem code_word {y : MethodName} {bytes : ByteArray} {mx : Nat} {rt : Option FieldType} {a : Array Value} {s : State} {m : MethodId} {meth : Method} {c : Code} (h1 : s.methodNamed? y = some m) (h2 : s.vm.method? m = some meth) (h3 : meth.code = some c) (h4 : c.code = bytes)
    (h5 : (c.maxLocals == mx && c.exceptionTable.isEmpty && decide (c.maxStack ≤ mostOperands) && decide (meth.sig.returnType = rt) && !meth.locks && decide (parseMethodDescriptor y.desc = some meth.sig)) = true) : (Jvm.Cond.code y bytes mx rt).before a s = true := by
  simp only [Bool.and_eq_true, beq_iff_eq, Bool.not_eq_true', decide_eq_true_eq] at h5
  obtain ⟨⟨⟨⟨⟨g1, g2⟩, g3⟩, g4⟩, g5⟩, g6⟩ := h5
  simp [Cond.before, Cond.holds, Cond.value, h1, h2, h3, h4, g1, g2, g3, g4, g5, g6]
def isCode : Jvm.Cond → Bool
  | .code _ _ _ _ => true
  | _ => false
theorem all_split {L : List Jvm.Cond} {P : Jvm.Cond → Bool} (h1 : L.all (fun c => isCode c || P c) = true) (h2 : ∀ c ∈ L.filter isCode, P c = true) : L.all P = true := by
  refine List.all_eq_true.mpr fun c hc => ?_
  have h := List.all_eq_true.mp h1 c hc
  rcases Bool.eq_false_or_eq_true (isCode c) with hi | hi
  · exact h2 c (List.mem_filter.mpr ⟨hc, hi⟩)
  · simpa [hi] using h
set_option maxRecDepth 65536 in
theorem w_c0 : (Jvm.Cond.code x code maxLocals ret).before args0 about1 = true := code_word (m := ⟨1, 1⟩) (meth := k1m1) (c := k1c1) (by decide +kernel) rfl rfl rfl (by decide +kernel)
set_option maxRecDepth 65536 in
theorem w_c1 : (Jvm.Cond.code ({ cls := "com/example/eigentuple/eigentuple/rank/Mode", name := "canAnswer", desc := "(II)Z" } : Jvm.MethodName) prog_24_method_5_code (3 : Nat) (Option.some Jvm.ClassFile.FieldType.boolean)).before args0 about1 = true := code_word (m := ⟨6, 0⟩) (meth := k6m0) (c := k6c0) (by decide +kernel) rfl rfl rfl (by decide +kernel)
def codes1 : List Jvm.Cond := [Jvm.Cond.code x code maxLocals ret, Jvm.Cond.code ({ cls := "com/example/eigentuple/eigentuple/rank/Mode", name := "canAnswer", desc := "(II)Z" } : Jvm.MethodName) prog_24_method_5_code (3 : Nat) (Option.some Jvm.ClassFile.FieldType.boolean)]
set_option maxRecDepth 65536 in
theorem codes_eq : words1.filter isCode = codes1 := rfl
theorem w_codes : ∀ c ∈ words1.filter isCode, c.before args0 about1 = true := by
  rw [codes_eq]
  intro c hc
  simp only [codes1, List.mem_cons, List.not_mem_nil, or_false] at hc
  rcases hc with rfl | rfl
  · exact w_c0
  · exact w_c1
set_option maxRecDepth 65536 in
theorem w_t1 : words1.all (fun c => isCode c || c.before args0 about1) = true := by decide +kernel
theorem w_tables : (allAtoms (Jvm.Cond.code x code maxLocals ret :: tables_1)).before args0 about1 = true := by
  rw [allAtoms_all]
  show words1.all (fun c => c.before args0 about1) = true
  refine all_split ?_ w_codes
  rw [w_t1]
set_option maxRecDepth 65536 in
theorem w_case : (Jvm.Cond.and given_1 narrow_1).before args0 about1 = true := by decide +kernel
theorem w_applies : (headSpec (Jvm.Cond.code x code maxLocals ret :: tables_1) room_1).applies x e0.platform about1 = true :=
  (Spec.applies_iff w_frames).mpr ⟨w_running, w_runnable, w_alone, w_named, w_hears, w_ripe, w_room, w_tables⟩
theorem atStart : AtStart classFile x code maxLocals ret World_1 tables_1 room_1 Calls_1 rest_1 Pre_1 launch0 p0 e0 about1 theMethod args0 below0 :=
  ⟨lists_1, trivial, launch0.admits_env _ _ _, launch0.least_env, fairChoices_fair.cas, fairChoices_fair.clock, w_frames, w_args, w_heap, w_applies, trivial, trivial, w_case⟩
end start1
theorem witness_1 : WitnessClaimed_1 := ⟨start1.p0, start1.e0, start1.about1, start1.theMethod, start1.args0, start1.below0, start1.atStart⟩
end Jvm.Pilot.@@N@@
