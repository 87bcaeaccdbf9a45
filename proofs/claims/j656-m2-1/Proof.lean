import JvmDerived
import JvmDerived.Pilot.@@N@@Statement
import JvmDerived.Pilot.@@N@@Code
set_option linter.unusedVariables false
set_option linter.unusedSimpArgs false
namespace Jvm.RoadKit
open Sem ClassFile Op Lib Jvm.Stand Jvm.Free Jvm.LawKit
section New
variable {p : Program} {l : Launch} {e : Env} {R : Room} {s : State} {m : MethodId} {args : Array Value} {below : List Frame} {meth : Method} {c : Code} {T : State} {locs : List Loc} {cells slots : Nat}
theorem retI (X : Stand p l e R s m args below meth c T locs cells slots) (hx : p.tables.exec = Jvm.exec) {pc : Nat} {Ls : Array Slot} {z : Int32} {rest : List Value} (hret : meth.sig.returnType = some .int) (hd : decode c.code pc = .ok (.ireturn, 1)) {fs : List Frame}
    (hl : ∀ (f : JFrame) (acts : List Action), f.method = m → f.locked = none → f.entered = [] → (doReturn e (T.setTop f) acts (some (.int z))).1 = T.setFrames fs) : Steps p.tables e below (T.setTop (mkF m pc Ls (.int z :: rest))) (T.setFrames fs) := by
  have hm' : T.vm.method? m = some meth := X.method'
  have hn : narrow .int (.int z) = .int z := rfl
  show Steps p.tables e below (T.setTop { method := m, pc := pc, locals := Ls, stack := _ :: rest, locked := none }) _
  jvm_step X.here [X.here.top, hx, hd, hm', hret, hn]
  first | (intro acts; rw [hl _ acts rfl rfl rfl]) | rw [hl _ _ rfl rfl rfl]
  exact Steps.refl _
end New
end Jvm.RoadKit
namespace Jvm.Pilot.@@N@@
open Jvm Jvm.ClassFile Sem Op Lib Jvm.Free Jvm.Stand Jvm.LawKit Jvm.RoadKit Bundle Jvm.Pilot.@@N@@.Jvm.D
section Own
variable {p : Program} {l : Launch} {e : Env} {R : Room} {s : State} {m : MethodId} {args : Array Value} {below : List Frame} {meth : Method} {c : Code} {T : State} {locs : List Loc} {cells slots : Nat}
/-- from U the run comes to an end that Q allows -/
def own_Go (p : Program) (e : Env) (below : List Frame) (s : State) (kc ks : Nat) (Q : Option Value → Heap → List Loc → Prop) (U : State) : Prop :=
  ∃ s₂ o, Steps p.tables e below U s₂ ∧ s₂.status = .running ∧ Ended s₂ below o ∧ ∃ v L, o = .returned v ∧ Q v s₂.heap L ∧ FrameEnd s o s₂ L kc ks
theorem own_step {kc ks : Nat} {Q : Option Value → Heap → List Loc → Prop} {U U' : State} (k : ∀ t, Steps p.tables e below U' t → Steps p.tables e below U t) (g : own_Go p e below s kc ks Q U') : own_Go p e below s kc ks Q U := by
  obtain ⟨s₂, o, h, r⟩ := g
  exact ⟨s₂, o, k _ h, r⟩
theorem own_ret {kc ks : Nat} {Q : Option Value → Heap → List Loc → Prop} {U : State} (X : Stand p l e R s m args below meth c T locs cells slots) {v : Option Value} (hv : meth.sig.returnType = none → v = none) (hlocks : meth.locks = false) (hk : cells ≤ kc) (hs : slots ≤ ks) (hq : Q v T.heap locs)
    (k : ∀ fs, (∀ (f : JFrame) (acts : List Action), f.method = m → f.locked = none → f.entered = [] → (doReturn e (T.setTop f) acts v).1 = T.setFrames fs) → Steps p.tables e below U (T.setFrames fs)) : own_Go p e below s kc ks Q U := by
  obtain ⟨fs, hr, hrun, hended, hW, hsame⟩ := X.leave (v := v) hv hlocks
  exact ⟨_, _, k fs hr, hrun, hended, v, locs, rfl, hq, ⟨_, rfl⟩, hW, hsame.mono hk hs⟩
theorem own_narR {t : FieldType} {v : Value} (h : v.isRef = true) : narrow t v = v := by cases v <;> first | (cases h; done) | (cases t <;> rfl)
theorem own_fitR {t : String} {v : Value} (h : v.isRef = true) : fits (.object t) v = true := by cases v <;> first | (cases h; done) | rfl
theorem own_at {h : Heap} {a : Addr} {k : Cell} (e : T.heap = h) (q : h[a]? = some k) : T.heap[a]? = some k := e ▸ q
theorem own_pl0 {h : Heap} : ∀ a ∈ ([] : List Addr), ∀ c : Cell, h[a]? = some c → c.vm.isStatics = false := fun _ q => nomatch q
theorem own_plE {Z : State} {h : Heap} {a : Addr} {C : String} {ws : List Addr} (E : Exa Z h a C) (r : ∀ x ∈ ws, ∀ c : Cell, h[x]? = some c → c.vm.isStatics = false) : ∀ x ∈ a :: ws, ∀ c : Cell, h[x]? = some c → c.vm.isStatics = false := fun x hx c hc => by
  rcases List.mem_cons.mp hx with rfl | q
  · obtain ⟨cell, k, h1, -, -, h4, -⟩ := E
    cases h1.symm.trans hc; exact h4
  · exact r x q c hc
theorem own_plF {Z : State} {h : Heap} {a : Addr} {C n d : String} {v : Value} {ws : List Addr} (E : Fld Z h a C n d v) (r : ∀ x ∈ ws, ∀ c : Cell, h[x]? = some c → c.vm.isStatics = false) : ∀ x ∈ a :: ws, ∀ c : Cell, h[x]? = some c → c.vm.isStatics = false := fun x hx c hc => by
  rcases List.mem_cons.mp hx with rfl | q
  · exact old_plain E c hc
  · exact r x q c hc
theorem own_plV {Z : State} {h : Heap} {a : Addr} {k : ClassId} {ty : FieldType} {z : Int32} {vs : List Value} {d : Value} {ws : List Addr} (E : Arv Z h a k ty z vs d) (r : ∀ x ∈ ws, ∀ c : Cell, h[x]? = some c → c.vm.isStatics = false) : ∀ x ∈ a :: ws, ∀ c : Cell, h[x]? = some c → c.vm.isStatics = false := fun x hx c hc => by
  rcases List.mem_cons.mp hx with rfl | q
  · obtain ⟨cl, A, -⟩ := E
    cases A.1.symm.trans hc; exact A.plain
  · exact r x q c hc
theorem own_sta_keep {Z : State} {h h' : Heap} {C n d : String} {w : Value} {ws : List Addr} (F : Sta Z h C n d w) (K : Keep h h' ws) (r : ∀ x ∈ ws, ∀ c : Cell, h[x]? = some c → c.vm.isStatics = false) : Sta Z h' C n d w := by
  obtain ⟨cf, i, k, f, st, cell, h1, h2, h3, h4, h5, h6, h7⟩ := F
  exact ⟨cf, i, k, f, st, cell, h1, h2, h3, h4, K.2.1 st cell h5 (fun q => by rw [r st q cell h5] at h6; cases h6), h6, h7⟩
end Own
def own_mw (u : Int32) : Int32 := if u = 1 then 8192 else 4096
theorem own_mw_mul {x u : Int32} (h : 1 + (x &&& 1) = u) : own_mw u * u = 8192 := by
  rcases and_one x with q | q <;> rw [q] at h <;> subst h <;> decide
theorem own_pn0 : plainName "com/example/skip2/skip2/windowsearch/FlagSearch" = true := by first | (simp [plainName, overriddenIn]; done) | decide +kernel
theorem own_d1_0 : decode prog_27_method_11_code 0 = .ok (.iload_n 0, 1) := by decide +kernel
theorem own_d1_1 : decode prog_27_method_11_code 1 = .ok (.iconst 1, 1) := by decide +kernel
theorem own_d1_2 : decode prog_27_method_11_code 2 = .ok (.if_icmp .ne 9, 3) := by decide +kernel
theorem own_d1_5 : decode prog_27_method_11_code 5 = .ok (.sipush 8192, 3) := by decide +kernel
theorem own_d1_8 : decode prog_27_method_11_code 8 = .ok (.goto 6, 3) := by decide +kernel
theorem own_d1_11 : decode prog_27_method_11_code 11 = .ok (.sipush 4096, 3) := by decide +kernel
theorem own_d1_14 : decode prog_27_method_11_code 14 = .ok (.ireturn, 1) := by decide +kernel
def own_Q_mw (Z : State) (p1 : Int32) (h0 : Heap) (n0 : Nat) (v : Option Value) (h : Heap) (L : List Loc) : Prop := v = some (.int (own_mw p1)) ∧ Fr n0 L ∧ h = h0
set_option maxRecDepth 65536 in
set_option maxHeartbeats 40000000 in
theorem own_m_mw (l : Launch) (Z : State) (a0 : Array Value) (hw : ∀ d ∈ tables_1, d.before a0 Z = true) (ws : List Jvm.Cond) (p1 : Int32) (h0 : Heap) (n0 : Nat) (Z0 : n0 ≤ h0.size)  :
    MetFree l (⟨"com/example/skip2/skip2/windowsearch/FlagSearch", "mostWindows", "(I)I"⟩ : MethodName) (head1 (Jvm.Cond.code (⟨"com/example/skip2/skip2/windowsearch/FlagSearch", "mostWindows", "(I)I"⟩ : MethodName) prog_27_method_11_code 1 (some .int) :: ws) ({ frames := 0, cells := 0, slots := 0, locals := 0 } : Room)) (fun a U => a = #[(.int p1)] ∧ Z.Warmed39 U.vm ∧ U.heap = h0) (fun _ _ _ _ _ => True) (fun _ U o U' => ∃ v L, o = .returned v ∧ own_Q_mw Z p1 h0 n0 v U'.heap L ∧ FrameEnd U o U' L ({ frames := 0, cells := 0, slots := 0, locals := 0 } : Room).cells ({ frames := 0, cells := 0, slots := 0, locals := 0 } : Room).slots) := by
  refine MetFree.of_bodySF (plainFor_of_name own_pn0) hisR ?_
  intro p e s m args below meth c s₁ Bd hml0 hP hK
  obtain ⟨rfl, hZ, hh⟩ := hP
  have hx := Bd.exec
  have hby := Bd.bytes
  have hml : c.maxLocals = 1 := hml0
  have hown : s.vm.findClass "com/example/skip2/skip2/windowsearch/FlagSearch" = some m.cls := findClass_of_methodNamed Bd.named
  have hnm := (name_of_methodNamed Bd.named Bd.method).1
  have X0 : Stand p l e ({ frames := 0, cells := 0, slots := 0, locals := 0 } : Room) s m #[(.int p1)] below meth c s₁ [] 0 0 := Stand.of_body Bd
  have e0 : s₁.heap = h0 := by rw [← hh, Bd.state]; rfl
  have N0 := Fr.nil n0
  have K0 : Keep h0 h0 [] := Keep.refl _ _
  show own_Go p e below s ({ frames := 0, cells := 0, slots := 0, locals := 0 } : Room).cells ({ frames := 0, cells := 0, slots := 0, locals := 0 } : Room).slots (own_Q_mw Z p1 h0 n0) (s₁.setTop (entryFrame m #[(.int p1)] 1))
  have ef : entryFrame m #[(.int p1)] 1 = (mkF m 0 #[.val (.int p1)] []) := by first | rfl | (simp [entryFrame, mkF, argsToLocals, Value.category, maxLocals]; done)
  rw [ef]
  show own_Go p e below s _ _ _ (s₁.setTop (mkF m 0 #[.val (.int p1)] []))
  refine own_step (U' := (s₁.setTop (mkF m 1 #[.val (.int p1)] [(.int p1)]))) (fun t ht => XS.iloadN X0.here hx rfl (hb hby own_d1_0) rfl ht) ?_
  refine own_step (U' := (s₁.setTop (mkF m 2 #[.val (.int p1)] [(.int (1 : Int32)), (.int p1)]))) (fun t ht => XS.iconst X0.here hx rfl (hb hby own_d1_1) ht) ?_
  by_cases hc2_1 : p1 = (1 : Int32)
  ·
    refine own_step (U' := (s₁.setTop (mkF m 5 #[.val (.int p1)] []))) (fun t ht => XS.icmpNo X0.here hx rfl (hb hby own_d1_2) rfl (XT.ii_ne_f hc2_1) ht) ?_
    refine own_step (U' := (s₁.setTop (mkF m 8 #[.val (.int p1)] [(.int (8192 : Int32))]))) (fun t ht => XS.sipush X0.here hx rfl (hb hby own_d1_5) ht) ?_
    refine own_step (U' := (s₁.setTop (mkF m 14 #[.val (.int p1)] [(.int (8192 : Int32))]))) (fun t ht => XS.goto X0.here hx rfl (pc0 := 8) (pc' := 14) rfl (hb hby own_d1_8) (by decide) (by decide) ht) ?_
    refine own_ret X0 (v := (some (.int (8192 : Int32)))) (fun h => by rw [Bd.returns] at h; cases h) Bd.notSynchronized (by decide) (by decide) ?_ (fun fs hr => retI X0 hx Bd.returns (hb hby own_d1_14) hr)
    show own_Q_mw Z p1 h0 n0 _ s₁.heap _
    rw [e0]
    refine ⟨?_, N0, rfl⟩
    simp [own_mw, nar, hc2_1]
  ·
    refine own_step (U' := (s₁.setTop (mkF m 11 #[.val (.int p1)] []))) (fun t ht => XS.icmpYes X0.here hx rfl (pc0 := 2) (pc' := 11) rfl (hb hby own_d1_2) rfl (XT.ii_ne_t hc2_1) (by decide) (by decide) ht) ?_
    refine own_step (U' := (s₁.setTop (mkF m 14 #[.val (.int p1)] [(.int (4096 : Int32))]))) (fun t ht => XS.sipush X0.here hx rfl (hb hby own_d1_11) ht) ?_
    refine own_ret X0 (v := (some (.int (4096 : Int32)))) (fun h => by rw [Bd.returns] at h; cases h) Bd.notSynchronized (by decide) (by decide) ?_ (fun fs hr => retI X0 hx Bd.returns (hb hby own_d1_14) hr)
    show own_Q_mw Z p1 h0 n0 _ s₁.heap _
    rw [e0]
    refine ⟨?_, N0, rfl⟩
    simp [own_mw, nar, hc2_1]
theorem own_pn1 : plainName "com/example/skip2/skip2/windowsearch/FlagSearchMostWindowsPinLaw" = true := by first | (simp [plainName, overriddenIn]; done) | decide +kernel
theorem own_pd0 : parseMethodDescriptor "(I)I" = some ⟨[.int], some .int⟩ := by decide +kernel
def own_Q_law (Z : State) (p1 : Int32) (h0 : Heap) (n0 : Nat) (v : Option Value) (h : Heap) (L : List Loc) : Prop := v = some (.int 1) ∧ Fr n0 L
set_option maxRecDepth 65536 in
set_option maxHeartbeats 40000000 in
theorem own_m_law (l : Launch) (Z : State) (a0 : Array Value) (hw : ∀ d ∈ tables_1, d.before a0 Z = true) (ws : List Jvm.Cond) (p1 : Int32) (h0 : Heap) (n0 : Nat) (Z0 : n0 ≤ h0.size)  :
    MetFree l x (head1 (Jvm.Cond.code x code maxLocals ret :: ws) room_1) (fun a U => a = #[(.int p1)] ∧ Z.Warmed39 U.vm ∧ U.heap = h0) (fun _ _ _ _ _ => True) (fun _ U o U' => ∃ v L, o = .returned v ∧ own_Q_law Z p1 h0 n0 v U'.heap L ∧ FrameEnd U o U' L 0 0) := by
  refine MetFree.of_bodySF (plainFor_of_name own_pn1) hisR ?_
  intro p e s m args below meth c s₁ Bd hml0 hP hK
  obtain ⟨rfl, hZ, hh⟩ := hP
  have hx := Bd.exec
  have hby := Bd.bytes
  have hml : c.maxLocals = 4 := hml0
  have hown : s.vm.findClass "com/example/skip2/skip2/windowsearch/FlagSearchMostWindowsPinLaw" = some m.cls := findClass_of_methodNamed Bd.named
  have hnm := (name_of_methodNamed Bd.named Bd.method).1
  have X0 : Stand p l e room_1 s m #[(.int p1)] below meth c s₁ [] 0 0 := Stand.of_body Bd
  have e0 : s₁.heap = h0 := by rw [← hh, Bd.state]; rfl
  have N0 := Fr.nil n0
  have K0 : Keep h0 h0 [] := Keep.refl _ _
  show own_Go p e below s 0 0 (own_Q_law Z p1 h0 n0) (s₁.setTop (entryFrame m #[(.int p1)] maxLocals))
  have ef : entryFrame m #[(.int p1)] maxLocals = (mkF m 0 #[.val (.int p1), .unset, .unset, .unset] []) := by first | rfl | (simp [entryFrame, mkF, argsToLocals, Value.category, maxLocals]; done)
  rw [ef]
  show own_Go p e below s _ _ _ (s₁.setTop (mkF m 0 #[.val (.int p1), .unset, .unset, .unset] []))
  refine own_step (U' := (s₁.setTop (mkF m 1 #[.val (.int p1), .unset, .unset, .unset] [(.int (1 : Int32))]))) (fun t ht => XS.iconst X0.here hx rfl (hb hby at_0) ht) ?_
  refine own_step (U' := (s₁.setTop (mkF m 2 #[.val (.int p1), .unset, .unset, .unset] [(.int p1), (.int (1 : Int32))]))) (fun t ht => XS.iloadN X0.here hx rfl (hb hby at_1) rfl ht) ?_
  refine own_step (U' := (s₁.setTop (mkF m 3 #[.val (.int p1), .unset, .unset, .unset] [(.int (1 : Int32)), (.int p1), (.int (1 : Int32))]))) (fun t ht => XS.iconst X0.here hx rfl (hb hby at_2) ht) ?_
  refine own_step (U' := (s₁.setTop (mkF m 4 #[.val (.int p1), .unset, .unset, .unset] [(.int (p1 &&& (1 : Int32))), (.int (1 : Int32))]))) (fun t ht => XS.iand X0.here hx rfl (hb hby at_3) rfl ht) ?_
  refine own_step (U' := (s₁.setTop (mkF m 5 #[.val (.int p1), .unset, .unset, .unset] [(.int ((1 : Int32) + (p1 &&& (1 : Int32))))]))) (fun t ht => XS.iadd X0.here hx rfl (hb hby at_4) rfl ht) ?_
  refine own_step (U' := (s₁.setTop (mkF m 6 #[.val (.int p1), .val (.int ((1 : Int32) + (p1 &&& (1 : Int32)))), .unset, .unset] []))) (fun t ht => XS.istoreN X0.here hx rfl (hb hby at_5) rfl (l' := #[.val (.int p1), .val (.int ((1 : Int32) + (p1 &&& (1 : Int32)))), .unset, .unset]) rfl ht) ?_
  generalize h_u : ((1 : Int32) + (p1 &&& (1 : Int32))) = u
  refine own_step (U' := (s₁.setTop (mkF m 7 #[.val (.int p1), .val (.int u), .unset, .unset] [(.int u)]))) (fun t ht => XS.iloadN X0.here hx rfl (hb hby at_6) rfl ht) ?_
  obtain ⟨_, _, ⟨T2, L2, k2, n2⟩, -, X2, ⟨Lc2, hQ2, l2, y2, z2⟩, st2⟩ := Jvm.LawKit.callS X0 hx (y := (⟨"com/example/skip2/skip2/windowsearch/FlagSearch", "mostWindows", "(I)I"⟩ : MethodName)) hown (mvT hZ (hw _ (List.mem_of_getElem? (i := 0) rfl))) (mvT hZ (hw _ (List.mem_of_getElem? (i := 1) rfl))) (mvT hZ (hw _ (List.mem_of_getElem? (i := 2) rfl))) (mvT hZ (hw _ (List.mem_of_getElem? (i := 3) rfl))) (by decide) (backOf (W := 0) (own_m_mw l Z a0 hw [] (u) h0 n0 Z0 ) hZ (hw _ (List.mem_of_getElem? (i := 3) rfl)) (hw _ (List.mem_of_getElem? (i := 2) rfl)) (by decide) (by decide)) (g := (mkF m 7 #[.val (.int p1), .val (.int u), .unset, .unset] [(.int u)])) rfl (by rw [hml]; rfl) (argsL := [(.int u)]) (rest := []) (lenOf own_pd0 rfl) rfl (by show 2 * 0 + _ ≤ _; exact Nat.le_of_eq rfl) (hb hby at_7) (fun _ _ => ⟨rfl, e0, (by decide : 0 + 0 ≤ _), (by decide : 0 + 0 ≤ _)⟩)
  dsimp only [Pt.U, Pt.locs, Pt.cells, Pt.slots] at X2 l2 y2 z2 st2 hQ2
  subst l2 y2 z2
  obtain ⟨rfl, Nq2, Kq2⟩ := hQ2
  have N2 := Fr.app N0 Nq2
  have e2 : T2.heap = h0 := Kq2
  refine own_step (U' := (T2.setTop (mkF m 10 #[.val (.int p1), .val (.int u), .unset, .unset] [(.int (own_mw u))]))) (fun t ht => st2 _ ht) ?_
  refine own_step (U' := (T2.setTop (mkF m 11 #[.val (.int p1), .val (.int u), .val (.int (own_mw u)), .unset] []))) (fun t ht => XS.istoreN X2.here hx rfl (hb hby at_10) rfl (l' := #[.val (.int p1), .val (.int u), .val (.int (own_mw u)), .unset]) rfl ht) ?_
  refine own_step (U' := (T2.setTop (mkF m 12 #[.val (.int p1), .val (.int u), .val (.int (own_mw u)), .unset] [(.int u)]))) (fun t ht => XS.iloadN X2.here hx rfl (hb hby at_11) rfl ht) ?_
  refine own_step (U' := (T2.setTop (mkF m 13 #[.val (.int p1), .val (.int u), .val (.int (own_mw u)), .unset] [(.int (1 : Int32)), (.int u)]))) (fun t ht => XS.iconst X2.here hx rfl (hb hby at_12) ht) ?_
  by_cases hc13_3 : u = (1 : Int32)
  ·
    refine own_step (U' := (T2.setTop (mkF m 16 #[.val (.int p1), .val (.int u), .val (.int (own_mw u)), .unset] []))) (fun t ht => XS.icmpNo X2.here hx rfl (hb hby at_13) rfl (XT.ii_ne_f hc13_3) ht) ?_
    refine own_step (U' := (T2.setTop (mkF m 19 #[.val (.int p1), .val (.int u), .val (.int (own_mw u)), .unset] [(.int (8192 : Int32))]))) (fun t ht => XS.sipush X2.here hx rfl (hb hby at_16) ht) ?_
    refine own_step (U' := (T2.setTop (mkF m 20 #[.val (.int p1), .val (.int u), .val (.int (own_mw u)), .val (.int (8192 : Int32))] []))) (fun t ht => XS.istoreN X2.here hx rfl (hb hby at_19) rfl (l' := #[.val (.int p1), .val (.int u), .val (.int (own_mw u)), .val (.int (8192 : Int32))]) rfl ht) ?_
    refine own_step (U' := (T2.setTop (mkF m 27 #[.val (.int p1), .val (.int u), .val (.int (own_mw u)), .val (.int (8192 : Int32))] []))) (fun t ht => XS.goto X2.here hx rfl (pc0 := 20) (pc' := 27) rfl (hb hby at_20) (by decide) (by decide) ht) ?_
    refine own_step (U' := (T2.setTop (mkF m 28 #[.val (.int p1), .val (.int u), .val (.int (own_mw u)), .val (.int (8192 : Int32))] [(.int (own_mw u))]))) (fun t ht => XS.iloadN X2.here hx rfl (hb hby at_27) rfl ht) ?_
    refine own_step (U' := (T2.setTop (mkF m 29 #[.val (.int p1), .val (.int u), .val (.int (own_mw u)), .val (.int (8192 : Int32))] [(.int (8192 : Int32)), (.int (own_mw u))]))) (fun t ht => XS.iloadN X2.here hx rfl (hb hby at_28) rfl ht) ?_
    refine own_step (U' := (T2.setTop (mkF m 32 #[.val (.int p1), .val (.int u), .val (.int (own_mw u)), .val (.int (8192 : Int32))] []))) (fun t ht => XS.icmpNo X2.here hx rfl (hb hby at_29) rfl (XT.ii_ne_f ((by simp [own_mw, hc13_3]) : (own_mw u) = (8192 : Int32))) ht) ?_
    refine own_step (U' := (T2.setTop (mkF m 33 #[.val (.int p1), .val (.int u), .val (.int (own_mw u)), .val (.int (8192 : Int32))] [(.int (own_mw u))]))) (fun t ht => XS.iloadN X2.here hx rfl (hb hby at_32) rfl ht) ?_
    refine own_step (U' := (T2.setTop (mkF m 34 #[.val (.int p1), .val (.int u), .val (.int (own_mw u)), .val (.int (8192 : Int32))] [(.int u), (.int (own_mw u))]))) (fun t ht => XS.iloadN X2.here hx rfl (hb hby at_33) rfl ht) ?_
    refine own_step (U' := (T2.setTop (mkF m 35 #[.val (.int p1), .val (.int u), .val (.int (own_mw u)), .val (.int (8192 : Int32))] [(.int ((own_mw u) * u))]))) (fun t ht => XS.imul X2.here hx rfl (hb hby at_34) rfl ht) ?_
    refine own_step (U' := (T2.setTop (mkF m 38 #[.val (.int p1), .val (.int u), .val (.int (own_mw u)), .val (.int (8192 : Int32))] [(.int (8192 : Int32)), (.int ((own_mw u) * u))]))) (fun t ht => XS.sipush X2.here hx rfl (hb hby at_35) ht) ?_
    refine own_step (U' := (T2.setTop (mkF m 41 #[.val (.int p1), .val (.int u), .val (.int (own_mw u)), .val (.int (8192 : Int32))] []))) (fun t ht => XS.icmpNo X2.here hx rfl (hb hby at_38) rfl (XT.ii_ne_f ((own_mw_mul h_u) : ((own_mw u) * u) = (8192 : Int32))) ht) ?_
    refine own_step (U' := (T2.setTop (mkF m 42 #[.val (.int p1), .val (.int u), .val (.int (own_mw u)), .val (.int (8192 : Int32))] [(.int (1 : Int32))]))) (fun t ht => XS.iconst X2.here hx rfl (hb hby at_41) ht) ?_
    refine own_step (U' := (T2.setTop (mkF m 46 #[.val (.int p1), .val (.int u), .val (.int (own_mw u)), .val (.int (8192 : Int32))] [(.int (1 : Int32))]))) (fun t ht => XS.goto X2.here hx rfl (pc0 := 42) (pc' := 46) rfl (hb hby at_42) (by decide) (by decide) ht) ?_
    refine own_ret X2 (v := (some (.int (nar .boolean (1 : Int32))))) (fun h => by rw [Bd.returns] at h; cases h) Bd.notSynchronized (by decide) (by decide) ?_ (fun fs hr => retN X2 hx (t := .boolean) Bd.returns (by simp) (hb hby at_46) hr)
    show own_Q_law Z p1 h0 n0 _ T2.heap _
    rw [e2]
    exact ⟨rfl, N2⟩
  ·
    refine own_step (U' := (T2.setTop (mkF m 23 #[.val (.int p1), .val (.int u), .val (.int (own_mw u)), .unset] []))) (fun t ht => XS.icmpYes X2.here hx rfl (pc0 := 13) (pc' := 23) rfl (hb hby at_13) rfl (XT.ii_ne_t hc13_3) (by decide) (by decide) ht) ?_
    refine own_step (U' := (T2.setTop (mkF m 26 #[.val (.int p1), .val (.int u), .val (.int (own_mw u)), .unset] [(.int (4096 : Int32))]))) (fun t ht => XS.sipush X2.here hx rfl (hb hby at_23) ht) ?_
    refine own_step (U' := (T2.setTop (mkF m 27 #[.val (.int p1), .val (.int u), .val (.int (own_mw u)), .val (.int (4096 : Int32))] []))) (fun t ht => XS.istoreN X2.here hx rfl (hb hby at_26) rfl (l' := #[.val (.int p1), .val (.int u), .val (.int (own_mw u)), .val (.int (4096 : Int32))]) rfl ht) ?_
    refine own_step (U' := (T2.setTop (mkF m 28 #[.val (.int p1), .val (.int u), .val (.int (own_mw u)), .val (.int (4096 : Int32))] [(.int (own_mw u))]))) (fun t ht => XS.iloadN X2.here hx rfl (hb hby at_27) rfl ht) ?_
    refine own_step (U' := (T2.setTop (mkF m 29 #[.val (.int p1), .val (.int u), .val (.int (own_mw u)), .val (.int (4096 : Int32))] [(.int (4096 : Int32)), (.int (own_mw u))]))) (fun t ht => XS.iloadN X2.here hx rfl (hb hby at_28) rfl ht) ?_
    refine own_step (U' := (T2.setTop (mkF m 32 #[.val (.int p1), .val (.int u), .val (.int (own_mw u)), .val (.int (4096 : Int32))] []))) (fun t ht => XS.icmpNo X2.here hx rfl (hb hby at_29) rfl (XT.ii_ne_f ((by simp [own_mw, hc13_3]) : (own_mw u) = (4096 : Int32))) ht) ?_
    refine own_step (U' := (T2.setTop (mkF m 33 #[.val (.int p1), .val (.int u), .val (.int (own_mw u)), .val (.int (4096 : Int32))] [(.int (own_mw u))]))) (fun t ht => XS.iloadN X2.here hx rfl (hb hby at_32) rfl ht) ?_
    refine own_step (U' := (T2.setTop (mkF m 34 #[.val (.int p1), .val (.int u), .val (.int (own_mw u)), .val (.int (4096 : Int32))] [(.int u), (.int (own_mw u))]))) (fun t ht => XS.iloadN X2.here hx rfl (hb hby at_33) rfl ht) ?_
    refine own_step (U' := (T2.setTop (mkF m 35 #[.val (.int p1), .val (.int u), .val (.int (own_mw u)), .val (.int (4096 : Int32))] [(.int ((own_mw u) * u))]))) (fun t ht => XS.imul X2.here hx rfl (hb hby at_34) rfl ht) ?_
    refine own_step (U' := (T2.setTop (mkF m 38 #[.val (.int p1), .val (.int u), .val (.int (own_mw u)), .val (.int (4096 : Int32))] [(.int (8192 : Int32)), (.int ((own_mw u) * u))]))) (fun t ht => XS.sipush X2.here hx rfl (hb hby at_35) ht) ?_
    refine own_step (U' := (T2.setTop (mkF m 41 #[.val (.int p1), .val (.int u), .val (.int (own_mw u)), .val (.int (4096 : Int32))] []))) (fun t ht => XS.icmpNo X2.here hx rfl (hb hby at_38) rfl (XT.ii_ne_f ((own_mw_mul h_u) : ((own_mw u) * u) = (8192 : Int32))) ht) ?_
    refine own_step (U' := (T2.setTop (mkF m 42 #[.val (.int p1), .val (.int u), .val (.int (own_mw u)), .val (.int (4096 : Int32))] [(.int (1 : Int32))]))) (fun t ht => XS.iconst X2.here hx rfl (hb hby at_41) ht) ?_
    refine own_step (U' := (T2.setTop (mkF m 46 #[.val (.int p1), .val (.int u), .val (.int (own_mw u)), .val (.int (4096 : Int32))] [(.int (1 : Int32))]))) (fun t ht => XS.goto X2.here hx rfl (pc0 := 42) (pc' := 46) rfl (hb hby at_42) (by decide) (by decide) ht) ?_
    refine own_ret X2 (v := (some (.int (nar .boolean (1 : Int32))))) (fun h => by rw [Bd.returns] at h; cases h) Bd.notSynchronized (by decide) (by decide) ?_ (fun fs hr => retN X2 hx (t := .boolean) Bd.returns (by simp) (hb hby at_46) hr)
    show own_Q_law Z p1 h0 n0 _ T2.heap _
    rw [e2]
    exact ⟨rfl, N2⟩
set_option maxRecDepth 65536 in
set_option maxHeartbeats 40000000 in
theorem own_comes {Post : Tables → Env → Array Value → State → Outcome → State → Prop} (hpost : ∀ tb e args s v u, (limb_1_1.after args s (.returned v) u = true ∧ limb_1_2.after args s (.returned v) u = true ∧ True) → FrameEnd s (.returned v) u (Jvm.fieldLocs frame_1_writes args s ++ Jvm.arrayLocs frame_1_arrays args s ++ Jvm.staticLocs frame_1_statics s) 0 0 → Post tb e args s (.returned v) u) :
    ArmFor flags0 classFile x code maxLocals ret World_1 tables_1 room_1 Calls_1 rest_1 Pre_1 Post := by
  intro l hfl _ _ p e ha hc hk s m args below hf hA hF happ hP
  obtain ⟨hcalls, hrest, hpre⟩ := hP
  obtain ⟨-, -, -, hnamed, -, -, -, hat⟩ := (Spec.applies_iff hf).mp happ
  obtain ⟨hg, hn⟩ := and_e (Cond.before_iff.mp (show (Jvm.Cond.and given_1 narrow_1).before args s = true from hpre))
  obtain ⟨hcount, q0⟩ := and_e hg
  have a0 := q0
  obtain ⟨w0, rfl⟩ : ∃ w0 : Value, args = #[w0] := by
    have hs : args.size = 1 := by simpa [Cond.value, given_1] using hcount
    obtain ⟨L⟩ := args
    match L, hs with
    | [w0], _ => exact ⟨w0, rfl⟩
  obtain ⟨i0, e0⟩ := is_v a0
  obtain rfl : w0 = (.int i0) := Option.some.inj e0
  have hw := fun d (hd : d ∈ tables_1) => atoms_spec (ws := Jvm.Cond.code x code maxLocals ret :: tables_1) hat d (List.mem_cons_of_mem _ hd)
  have hfit : Fit s := fun {y c} hc i hi => by
    obtain ⟨ha, rfl⟩ := Array.getElem?_eq_some_iff.mp hc
    have q := List.all_eq_true.mp ((Array.all_eq_true_iff_forall_mem.mp hF) _ (Array.getElem_mem ha)) i (List.mem_range.mpr hi)
    simpa [Array.getElem?_eq_getElem hi] using q

  obtain ⟨n, o, h1, h2, h3, _, L, rfl, ⟨rfl, N⟩, hq⟩ := own_m_law l s _ hw tables_1 i0  s.heap s.heap.size (Nat.le_refl _)  p e ha hc hk s m _ below hf ((Spec.applies_iff_loose hf).mp happ).1 ⟨rfl, State.Warmed39.refl s, rfl⟩ trivial
  refine ⟨n, _, h1, h2, h3, hpost _ _ _ _ _ _ ⟨Cond.after_iff.mpr rfl, Cond.after_iff.mpr (eq_i res_at (Term.int_eval (1)) rfl), trivial⟩ ⟨hq.1, hq.2.1, (hq.2.2.sift fun y hy => Or.inr (N y hy)).mono (by decide) (by decide)⟩⟩
theorem main_1_1 : Claimed_1_1 := own_comes fun _ _ _ _ _ _ h hF => ⟨h.1, hF⟩
theorem main_1_2 : Claimed_1_2 := own_comes fun _ _ _ _ _ _ h hF => ⟨h.2.1, hF⟩
end Jvm.Pilot.@@N@@
namespace Jvm.Pilot.@@N@@
open Jvm Jvm.ClassFile Sem Op Lib Jvm.Free Jvm.Stand Jvm.Pilot.@@N@@.Jvm.D
/-! MADE BY PROGRAM (witnessworld.py) out of the Statement's table words and the real class files: 7 classes; the members and pool entries that the words name. The judged class is class 1, her method 1. -/
namespace start1
open Jvm.ClassFile
def u (s : String) : CpInfo := .utf8 (stringToUtf16 s)
/-- a pool by its gaps: so many unusable entries, then the entry; so many at the end -/
def gap : Nat → List CpInfo → List CpInfo
  | 0, r => r
  | n + 1, r => .unusable :: gap n r
def poolList (es : List (Nat × CpInfo)) (last : Nat) : List CpInfo := es.foldr (fun e r => gap e.1 (e.2 :: r)) (gap last [])
def pool (es : List (Nat × CpInfo)) (last : Nat) : Array CpInfo := ⟨poolList es last⟩
def fileOf (pool : Array CpInfo) (this : Nat) (attrs : Array Attribute := #[]) (ms : Array MethodInfo := #[]) (fl : Nat := 33) (sup : Nat := 0) (ifs : Array Nat := #[]) (fds : Array FieldInfo := #[]) : ClassFile where
  minorVersion := 0
  majorVersion := 65
  constantPool := pool
  accessFlags := fl
  thisClass := this
  superClass := sup
  interfaces := ifs
  fields := fds
  methods := ms
  attributes := attrs
def plain (name : String) (sup : Option ClassId) : Class where
  name := name
  kind := .ordinary
  loader := none
  accessFlags := 33
  super := sup
  interfaces := #[]
  cf := none
  fields := #[]
  methods := #[]
  instanceTypes := #[]
  staticTypes := #[]
  resolved := #[]
  callSites := []
  init := .initialized
  statics := none
  mirror := none

def pool0 : Array CpInfo := pool [(5, u "<init>"), (0, u "()V"), (1, .class_ 10), (1, u "java/lang/Object")] 113

def k0m0 : Method := { name := "<init>", desc := "()V", sig := { parameters := [], returnType := none }, accessFlags := 1, code := none }
/-- java/lang/Object -/
def k0 : Class := { plain "java/lang/Object" none with
  accessFlags := 33
  interfaces := #[]
  cf := some (fileOf pool0 8 #[] #[{ accessFlags := 1, nameIndex := 5, descriptorIndex := 6, attributes := #[] }] 33 0 #[] #[])
  fields := #[]
  methods := #[k0m0]
  instanceTypes := #[]
  staticTypes := #[]
  resolved := Array.replicate 124 none
  statics := none }

def pool1 : Array CpInfo := pool [(2, .class_ 4), (1, u "java/lang/Object"), (0, u "<init>"), (0, u "()V"), (0, .methodref 8 9), (0, .class_ 10), (0, .nameAndType 11 12), (0, u "com/example/skip2/skip2/windowsearch/FlagSearch"), (0, u "mostWindows"), (0, u "(I)I"), (0, .class_ 14), (0, u "com/example/skip2/skip2/windowsearch/FlagSearchMostWindowsPinLaw"), (2, u "law"), (0, u "(I)Z")] 3

def k1m0 : Method := { name := "<init>", desc := "()V", sig := { parameters := [], returnType := none }, accessFlags := 2, code := none }
def k1c1 : Code := { maxStack := 3, maxLocals := 4, code := code, exceptionTable := #[], attributes := #[] }
def k1m1 : Method := { name := "law", desc := "(I)Z", sig := { parameters := [.int], returnType := some .boolean }, accessFlags := 9, code := some k1c1 }
/-- com/example/skip2/skip2/windowsearch/FlagSearchMostWindowsPinLaw -/
def k1 : Class := { plain "com/example/skip2/skip2/windowsearch/FlagSearchMostWindowsPinLaw" (some 0) with
  accessFlags := 49
  interfaces := #[]
  cf := some (fileOf pool1 13 #[] #[{ accessFlags := 2, nameIndex := 5, descriptorIndex := 6, attributes := #[] }, { accessFlags := 9, nameIndex := 17, descriptorIndex := 18, attributes := #[] }] 49 2 #[] #[])
  fields := #[]
  methods := #[k1m0, k1m1]
  instanceTypes := #[]
  staticTypes := #[]
  resolved := Array.replicate 22 none
  statics := none }

def pool2 : Array CpInfo := pool [(4, .class_ 6), (1, u "java/lang/Object"), (3, .class_ 12), (1, u "com/example/skip2/skip2/windowsearch/FlagSearch"), (0, u "pattern"), (0, u "[C"), (2, u "length"), (0, u "I"), (10, u "lastUnlike"), (2, u "between"), (5, u "lowBytes"), (0, u "Z"), (2, u "lowWord"), (0, u "J"), (2, u "highWord"), (6, u "lowMask"), (5, u "highMask"), (10, u "mostWindows"), (0, u "(I)I"), (3, .class_ 77), (1, u "com/example/skip2/skip2/windowsearch/FlagSearch$Buffers"), (154, u "LONGS"), (0, u "Ljava/lang/invoke/VarHandle;"), (37, u "FAILED_BYTES"), (0, u "[B"), (8, u "FAILED_CHARS"), (61, u "STOPPED"), (2, u "MOST_BYTES"), (1, u "MOST_CHARS"), (1, u "MOST_IN_A_BLOCK"), (1, u "MOST_TESTED"), (1, u "PAYS"), (0, u "D"), (0, u "FIRST_BLOCK"), (1, u "BYTES_BLOCK"), (1, u "CHARS_BLOCK"), (1, u "GROWTH"), (1, u "STAGGER"), (1, u "RUN_ON"), (1, u "GROUP"), (0, u "WRITTEN_AHEAD"), (0, u "FEWEST"), (0, u "MOST_SAMPLED"), (1, u "SPARSE"), (1, u "GOLDEN_FRACTION"), (0, u "RARELY_PASSED"), (0, u "TO_TOP_BYTE"), (0, u "ONE_IN_EACH_BYTE"), (0, u "LOW_BITS")] 28

def k2c0 : Code := { maxStack := 2, maxLocals := 1, code := prog_27_method_11_code, exceptionTable := #[], attributes := #[] }
def k2m0 : Method := { name := "mostWindows", desc := "(I)I", sig := { parameters := [.int], returnType := some .int }, accessFlags := 8, code := some k2c0 }
/-- com/example/skip2/skip2/windowsearch/FlagSearch -/
def k2 : Class := { plain "com/example/skip2/skip2/windowsearch/FlagSearch" (some 0) with
  accessFlags := 32
  interfaces := #[]
  cf := some (fileOf pool2 10 #[.nestMembers #[75]] #[{ accessFlags := 8, nameIndex := 70, descriptorIndex := 71, attributes := #[] }] 32 4 #[] #[{ accessFlags := 24, nameIndex := 343, descriptorIndex := 18, attributes := #[] }, { accessFlags := 24, nameIndex := 346, descriptorIndex := 18, attributes := #[] }, { accessFlags := 24, nameIndex := 348, descriptorIndex := 18, attributes := #[] }, { accessFlags := 24, nameIndex := 350, descriptorIndex := 18, attributes := #[] }, { accessFlags := 24, nameIndex := 352, descriptorIndex := 18, attributes := #[] }, { accessFlags := 26, nameIndex := 354, descriptorIndex := 355, attributes := #[] }, { accessFlags := 26, nameIndex := 356, descriptorIndex := 18, attributes := #[] }, { accessFlags := 26, nameIndex := 358, descriptorIndex := 18, attributes := #[] }, { accessFlags := 26, nameIndex := 360, descriptorIndex := 18, attributes := #[] }, { accessFlags := 26, nameIndex := 362, descriptorIndex := 18, attributes := #[] }, { accessFlags := 26, nameIndex := 364, descriptorIndex := 18, attributes := #[] }, { accessFlags := 26, nameIndex := 366, descriptorIndex := 18, attributes := #[] }, { accessFlags := 26, nameIndex := 368, descriptorIndex := 18, attributes := #[] }, { accessFlags := 24, nameIndex := 369, descriptorIndex := 18, attributes := #[] }, { accessFlags := 26, nameIndex := 370, descriptorIndex := 18, attributes := #[] }, { accessFlags := 26, nameIndex := 371, descriptorIndex := 18, attributes := #[] }, { accessFlags := 26, nameIndex := 373, descriptorIndex := 18, attributes := #[] }, { accessFlags := 26, nameIndex := 375, descriptorIndex := 18, attributes := #[] }, { accessFlags := 26, nameIndex := 376, descriptorIndex := 18, attributes := #[] }, { accessFlags := 26, nameIndex := 232, descriptorIndex := 233, attributes := #[] }, { accessFlags := 26, nameIndex := 377, descriptorIndex := 43, attributes := #[] }, { accessFlags := 26, nameIndex := 378, descriptorIndex := 43, attributes := #[] }, { accessFlags := 26, nameIndex := 379, descriptorIndex := 43, attributes := #[] }, { accessFlags := 26, nameIndex := 271, descriptorIndex := 272, attributes := #[] }, { accessFlags := 26, nameIndex := 281, descriptorIndex := 14, attributes := #[] }, { accessFlags := 18, nameIndex := 13, descriptorIndex := 14, attributes := #[] }, { accessFlags := 18, nameIndex := 17, descriptorIndex := 18, attributes := #[] }, { accessFlags := 18, nameIndex := 29, descriptorIndex := 18, attributes := #[] }, { accessFlags := 18, nameIndex := 32, descriptorIndex := 18, attributes := #[] }, { accessFlags := 18, nameIndex := 38, descriptorIndex := 39, attributes := #[] }, { accessFlags := 18, nameIndex := 42, descriptorIndex := 43, attributes := #[] }, { accessFlags := 18, nameIndex := 46, descriptorIndex := 43, attributes := #[] }, { accessFlags := 18, nameIndex := 53, descriptorIndex := 43, attributes := #[] }, { accessFlags := 18, nameIndex := 59, descriptorIndex := 43, attributes := #[] }])
  fields := #[{ name := "STOPPED", type := .int, accessFlags := 24, slot := 0, constantValue := 0 }, { name := "MOST_BYTES", type := .int, accessFlags := 24, slot := 1, constantValue := 0 }, { name := "MOST_CHARS", type := .int, accessFlags := 24, slot := 2, constantValue := 0 }, { name := "MOST_IN_A_BLOCK", type := .int, accessFlags := 24, slot := 3, constantValue := 0 }, { name := "MOST_TESTED", type := .int, accessFlags := 24, slot := 4, constantValue := 0 }, { name := "PAYS", type := .double, accessFlags := 26, slot := 5, constantValue := 0 }, { name := "FIRST_BLOCK", type := .int, accessFlags := 26, slot := 6, constantValue := 0 }, { name := "BYTES_BLOCK", type := .int, accessFlags := 26, slot := 7, constantValue := 0 }, { name := "CHARS_BLOCK", type := .int, accessFlags := 26, slot := 8, constantValue := 0 }, { name := "GROWTH", type := .int, accessFlags := 26, slot := 9, constantValue := 0 }, { name := "STAGGER", type := .int, accessFlags := 26, slot := 10, constantValue := 0 }, { name := "RUN_ON", type := .int, accessFlags := 26, slot := 11, constantValue := 0 }, { name := "GROUP", type := .int, accessFlags := 26, slot := 12, constantValue := 0 }, { name := "WRITTEN_AHEAD", type := .int, accessFlags := 24, slot := 13, constantValue := 0 }, { name := "FEWEST", type := .int, accessFlags := 26, slot := 14, constantValue := 0 }, { name := "MOST_SAMPLED", type := .int, accessFlags := 26, slot := 15, constantValue := 0 }, { name := "SPARSE", type := .int, accessFlags := 26, slot := 16, constantValue := 0 }, { name := "GOLDEN_FRACTION", type := .int, accessFlags := 26, slot := 17, constantValue := 0 }, { name := "RARELY_PASSED", type := .int, accessFlags := 26, slot := 18, constantValue := 0 }, { name := "LONGS", type := (.object "java/lang/invoke/VarHandle"), accessFlags := 26, slot := 19, constantValue := 0 }, { name := "TO_TOP_BYTE", type := .long, accessFlags := 26, slot := 20, constantValue := 0 }, { name := "ONE_IN_EACH_BYTE", type := .long, accessFlags := 26, slot := 21, constantValue := 0 }, { name := "LOW_BITS", type := .long, accessFlags := 26, slot := 22, constantValue := 0 }, { name := "FAILED_BYTES", type := (.array .byte), accessFlags := 26, slot := 23, constantValue := 0 }, { name := "FAILED_CHARS", type := (.array .char), accessFlags := 26, slot := 24, constantValue := 0 }, { name := "pattern", type := (.array .char), accessFlags := 18, slot := 0, constantValue := 0 }, { name := "length", type := .int, accessFlags := 18, slot := 1, constantValue := 0 }, { name := "lastUnlike", type := .int, accessFlags := 18, slot := 2, constantValue := 0 }, { name := "between", type := .int, accessFlags := 18, slot := 3, constantValue := 0 }, { name := "lowBytes", type := .boolean, accessFlags := 18, slot := 4, constantValue := 0 }, { name := "lowWord", type := .long, accessFlags := 18, slot := 5, constantValue := 0 }, { name := "highWord", type := .long, accessFlags := 18, slot := 6, constantValue := 0 }, { name := "lowMask", type := .long, accessFlags := 18, slot := 7, constantValue := 0 }, { name := "highMask", type := .long, accessFlags := 18, slot := 8, constantValue := 0 }]
  methods := #[k2m0]
  instanceTypes := #[(.array .char), .int, .int, .int, .boolean, .long, .long, .long, .long]
  staticTypes := #[.int, .int, .int, .int, .int, .double, .int, .int, .int, .int, .int, .int, .int, .int, .int, .int, .int, .int, .int, (.object "java/lang/invoke/VarHandle"), .long, .long, .long, (.array .byte), (.array .char)]
  resolved := Array.replicate 408 none
  statics := none }

def pool3 : Array CpInfo := pool [(1, u "java/lang/Cloneable"), (0, .class_ 1), (0, u "java/lang/Object"), (0, .class_ 3)] 3

/-- java/lang/Cloneable -/
def k3 : Class := { plain "java/lang/Cloneable" (some 0) with
  accessFlags := 1537
  interfaces := #[]
  cf := some (fileOf pool3 2 #[] #[] 1537 4 #[] #[])
  fields := #[]
  methods := #[]
  instanceTypes := #[]
  staticTypes := #[]
  resolved := Array.replicate 8 none
  statics := none }

def pool4 : Array CpInfo := pool [(1, u "java/io/Serializable"), (0, .class_ 1), (0, u "java/lang/Object"), (0, .class_ 3)] 3

/-- java/io/Serializable -/
def k4 : Class := { plain "java/io/Serializable" (some 0) with
  accessFlags := 1537
  interfaces := #[]
  cf := some (fileOf pool4 2 #[] #[] 1537 4 #[] #[])
  fields := #[]
  methods := #[]
  instanceTypes := #[]
  staticTypes := #[]
  resolved := Array.replicate 8 none
  statics := none }

/-- the primitive byte -/
def k5 : Class := { plain "byte" none with kind := .primitive 'B', accessFlags := 0x411 }
/-- [B -/
def k6 : Class := { plain "[B" (some 0) with kind := .array 5 .byte, interfaces := #[3, 4], accessFlags := 1041 }

def heap : Heap := #[]
def classes : Array Class := #[k0, k1, k2, k3, k4, k5, k6]
def interned : List (Array UInt16 × Addr) := []
def slotsUsed : Nat := 0
def theMethod : MethodId := ⟨1, 1⟩
def args0 : Array Value := #[.int 5]
def aboutOver (below : List Frame) : State where
  vm := { classes := classes, interned := interned.toArray }
  heap := heap
  slotsUsed := slotsUsed
  threads := #[{ frames := .invoking theMethod args0 :: below }]
def below0 : List Frame := [.native { method := ⟨0, 0⟩, args := #[] }]
def about1 : State := aboutOver below0
def p0 : Program := .bare "" "" ""
def e0 : Env := launch0.env 0 0 0
theorem w_frames : about1.frames = Frame.invoking theMethod args0 :: below0 := rfl
set_option maxRecDepth 65536 in
theorem w_args : argsFit about1.vm theMethod args0 = true := by decide +kernel
set_option maxRecDepth 65536 in
theorem w_heap : heapFits about1 = true := by decide +kernel
set_option maxRecDepth 65536 in
theorem w_runnable : about1.curStatus? = some .runnable := by decide +kernel
set_option maxRecDepth 65536 in
theorem w_alone : about1.alone = true := by decide +kernel
set_option maxRecDepth 65536 in
theorem w_named : about1.methodNamed? x = some theMethod := by decide +kernel
set_option maxRecDepth 65536 in
theorem w_hears : about1.hears theMethod below0 = true := by decide +kernel
set_option maxRecDepth 65536 in
theorem w_ripe : about1.ripe theMethod args0 below0 = true := by decide +kernel
theorem w_running : about1.status = .running := rfl
set_option maxRecDepth 65536 in
theorem w_room : about1.hasRoom e0.platform room_1 = true :=
  launch0.hasRoom_least _ room_1 (by decide +kernel) (by decide +kernel) (by decide +kernel) (by decide +kernel) (by decide +kernel) (by decide +kernel)
theorem allAtoms_all (ts : List Jvm.Cond) (a : Array Jvm.Value) (st : Jvm.State) : (allAtoms ts).before a st = ts.all (fun c => c.before a st) := by
  induction ts with
  | nil => rfl
  | cons c t ih =>
    show (Jvm.Cond.and c (allAtoms t)).before a st = _
    rw [Jvm.Cond.before_and, ih, List.all_cons]
def words1 : List Jvm.Cond := Jvm.Cond.code x code maxLocals ret :: tables_1
/-- a 'code' word, met by the world's own term for the bytes: nothing is compared byte by byte -/
theorem code_word {y : MethodName} {bytes : ByteArray} {mx : Nat} {rt : Option FieldType} {a : Array Value} {s : State} {m : MethodId} {meth : Method} {c : Code} (h1 : s.methodNamed? y = some m) (h2 : s.vm.method? m = some meth) (h3 : meth.code = some c) (h4 : c.code = bytes)
    (h5 : (c.maxLocals == mx && c.exceptionTable.isEmpty && decide (c.maxStack ≤ mostOperands) && decide (meth.sig.returnType = rt) && !meth.locks && decide (parseMethodDescriptor y.desc = some meth.sig)) = true) : (Jvm.Cond.code y bytes mx rt).before a s = true := by
  simp only [Bool.and_eq_true, beq_iff_eq, Bool.not_eq_true', decide_eq_true_eq] at h5
  obtain ⟨⟨⟨⟨⟨g1, g2⟩, g3⟩, g4⟩, g5⟩, g6⟩ := h5
  simp [Cond.before, Cond.holds, Cond.value, h1, h2, h3, h4, g1, g2, g3, g4, g5, g6]
def isCode : Jvm.Cond → Bool
  | .code _ _ _ _ => true
  | _ => false
theorem all_split {L : List Jvm.Cond} {P : Jvm.Cond → Bool} (h1 : L.all (fun c => isCode c || P c) = true) (h2 : ∀ c ∈ L.filter isCode, P c = true) : L.all P = true := by
  refine List.all_eq_true.mpr fun c hc => ?_
  have h := List.all_eq_true.mp h1 c hc
  rcases Bool.eq_false_or_eq_true (isCode c) with hi | hi
  · exact h2 c (List.mem_filter.mpr ⟨hc, hi⟩)
  · simpa [hi] using h
set_option maxRecDepth 65536 in
theorem w_c0 : (Jvm.Cond.code x code maxLocals ret).before args0 about1 = true := code_word (m := ⟨1, 1⟩) (meth := k1m1) (c := k1c1) (by decide +kernel) rfl rfl rfl (by decide +kernel)
set_option maxRecDepth 65536 in
theorem w_c1 : (Jvm.Cond.code ({ cls := "com/example/skip2/skip2/windowsearch/FlagSearch", name := "mostWindows", desc := "(I)I" } : Jvm.MethodName) prog_27_method_11_code (1 : Nat) (Option.some Jvm.ClassFile.FieldType.int)).before args0 about1 = true := code_word (m := ⟨2, 0⟩) (meth := k2m0) (c := k2c0) (by decide +kernel) rfl rfl rfl (by decide +kernel)
def codes1 : List Jvm.Cond := [Jvm.Cond.code x code maxLocals ret, Jvm.Cond.code ({ cls := "com/example/skip2/skip2/windowsearch/FlagSearch", name := "mostWindows", desc := "(I)I" } : Jvm.MethodName) prog_27_method_11_code (1 : Nat) (Option.some Jvm.ClassFile.FieldType.int)]
set_option maxRecDepth 65536 in
theorem codes_eq : words1.filter isCode = codes1 := rfl
theorem w_codes : ∀ c ∈ words1.filter isCode, c.before args0 about1 = true := by
  rw [codes_eq]
  intro c hc
  simp only [codes1, List.mem_cons, List.not_mem_nil, or_false] at hc
  rcases hc with rfl | rfl
  · exact w_c0
  · exact w_c1
set_option maxRecDepth 65536 in
theorem w_t1 : words1.all (fun c => isCode c || c.before args0 about1) = true := by decide +kernel
theorem w_tables : (allAtoms (Jvm.Cond.code x code maxLocals ret :: tables_1)).before args0 about1 = true := by
  rw [allAtoms_all]
  show words1.all (fun c => c.before args0 about1) = true
  refine all_split ?_ w_codes
  rw [w_t1]
set_option maxRecDepth 65536 in
theorem w_case : (Jvm.Cond.and given_1 narrow_1).before args0 about1 = true := by decide +kernel
theorem w_applies : (headSpec (Jvm.Cond.code x code maxLocals ret :: tables_1) room_1).applies x e0.platform about1 = true :=
  (Spec.applies_iff w_frames).mpr ⟨w_running, w_runnable, w_alone, w_named, w_hears, w_ripe, w_room, w_tables⟩
theorem atStart : AtStart classFile x code maxLocals ret World_1 tables_1 room_1 Calls_1 rest_1 Pre_1 launch0 p0 e0 about1 theMethod args0 below0 :=
  ⟨lists_1, trivial, launch0.admits_env _ _ _, launch0.least_env, fairChoices_fair.cas, fairChoices_fair.clock, w_frames, w_args, w_heap, w_applies, trivial, trivial, w_case⟩
end start1
theorem witness_1 : WitnessClaimed_1 := ⟨start1.p0, start1.e0, start1.about1, start1.theMethod, start1.args0, start1.below0, start1.atStart⟩
end Jvm.Pilot.@@N@@
