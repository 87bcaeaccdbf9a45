import JvmDerived
import JvmDerived.Pilot.@@N@@Statement
import JvmDerived.Pilot.@@N@@Code
set_option linter.unusedVariables false
set_option linter.unusedSimpArgs false
namespace Jvm.RoadKit
open Sem ClassFile Op Lib Jvm.Stand Jvm.Free Jvm.LawKit
section New
variable {p : Program} {l : Launch} {e : Env} {R : Room} {s : State} {m : MethodId} {args : Array Value} {below : List Frame} {meth : Method} {c : Code} {T : State} {locs : List Loc} {cells slots : Nat}
theorem retI (X : Stand p l e R s m args below meth c T locs cells slots) (hx : p.tables.exec = Jvm.exec) {pc : Nat} {Ls : Array Slot} {z : Int32} {rest : List Value} (hret : meth.sig.returnType = some .int) (hd : decode c.code pc = .ok (.ireturn, 1)) {fs : List Frame}
    (hl : ∀ (f : JFrame) (acts : List Action), f.method = m → f.locked = none → f.entered = [] → (doReturn e (T.setTop f) acts (some (.int z))).1 = T.setFrames fs) : Steps p.tables e below (T.setTop (mkF m pc Ls (.int z :: rest))) (T.setFrames fs) := by
  have hm' : T.vm.method? m = some meth := X.method'
  have hn : narrow .int (.int z) = .int z := rfl
  show Steps p.tables e below (T.setTop { method := m, pc := pc, locals := Ls, stack := _ :: rest, locked := none }) _
  jvm_step X.here [X.here.top, hx, hd, hm', hret, hn]
  first | (intro acts; rw [hl _ acts rfl rfl rfl]) | rw [hl _ _ rfl rfl rfl]
  exact Steps.refl _
end New
end Jvm.RoadKit
namespace Jvm.Pilot.@@N@@
open Jvm Jvm.ClassFile Sem Op Lib Jvm.Free Jvm.Stand Jvm.LawKit Jvm.RoadKit Bundle Jvm.Pilot.@@N@@.Jvm.D
section Own
variable {p : Program} {l : Launch} {e : Env} {R : Room} {s : State} {m : MethodId} {args : Array Value} {below : List Frame} {meth : Method} {c : Code} {T : State} {locs : List Loc} {cells slots : Nat}
/-- from U the run comes to an end that Q allows -/
def own_Go (p : Program) (e : Env) (below : List Frame) (s : State) (kc ks : Nat) (Q : Option Value → Heap → List Loc → Prop) (U : State) : Prop :=
  ∃ s₂ o, Steps p.tables e below U s₂ ∧ s₂.status = .running ∧ Ended s₂ below o ∧ ∃ v L, o = .returned v ∧ Q v s₂.heap L ∧ FrameEnd s o s₂ L kc ks
theorem own_step {kc ks : Nat} {Q : Option Value → Heap → List Loc → Prop} {U U' : State} (k : ∀ t, Steps p.tables e below U' t → Steps p.tables e below U t) (g : own_Go p e below s kc ks Q U') : own_Go p e below s kc ks Q U := by
  obtain ⟨s₂, o, h, r⟩ := g
  exact ⟨s₂, o, k _ h, r⟩
theorem own_ret {kc ks : Nat} {Q : Option Value → Heap → List Loc → Prop} {U : State} (X : Stand p l e R s m args below meth c T locs cells slots) {v : Option Value} (hv : meth.sig.returnType = none → v = none) (hlocks : meth.locks = false) (hk : cells ≤ kc) (hs : slots ≤ ks) (hq : Q v T.heap locs)
    (k : ∀ fs, (∀ (f : JFrame) (acts : List Action), f.method = m → f.locked = none → f.entered = [] → (doReturn e (T.setTop f) acts v).1 = T.setFrames fs) → Steps p.tables e below U (T.setFrames fs)) : own_Go p e below s kc ks Q U := by
  obtain ⟨fs, hr, hrun, hended, hW, hsame⟩ := X.leave (v := v) hv hlocks
  exact ⟨_, _, k fs hr, hrun, hended, v, locs, rfl, hq, ⟨_, rfl⟩, hW, hsame.mono hk hs⟩
theorem own_narR {t : FieldType} {v : Value} (h : v.isRef = true) : narrow t v = v := by cases v <;> first | (cases h; done) | (cases t <;> rfl)
theorem own_fitR {t : String} {v : Value} (h : v.isRef = true) : fits (.object t) v = true := by cases v <;> first | (cases h; done) | rfl
theorem own_at {h : Heap} {a : Addr} {k : Cell} (e : T.heap = h) (q : h[a]? = some k) : T.heap[a]? = some k := e ▸ q
theorem own_pl0 {h : Heap} : ∀ a ∈ ([] : List Addr), ∀ c : Cell, h[a]? = some c → c.vm.isStatics = false := fun _ q => nomatch q
theorem own_plE {Z : State} {h : Heap} {a : Addr} {C : String} {ws : List Addr} (E : Exa Z h a C) (r : ∀ x ∈ ws, ∀ c : Cell, h[x]? = some c → c.vm.isStatics = false) : ∀ x ∈ a :: ws, ∀ c : Cell, h[x]? = some c → c.vm.isStatics = false := fun x hx c hc => by
  rcases List.mem_cons.mp hx with rfl | q
  · obtain ⟨cell, k, h1, -, -, h4, -⟩ := E
    cases h1.symm.trans hc; exact h4
  · exact r x q c hc
theorem own_plF {Z : State} {h : Heap} {a : Addr} {C n d : String} {v : Value} {ws : List Addr} (E : Fld Z h a C n d v) (r : ∀ x ∈ ws, ∀ c : Cell, h[x]? = some c → c.vm.isStatics = false) : ∀ x ∈ a :: ws, ∀ c : Cell, h[x]? = some c → c.vm.isStatics = false := fun x hx c hc => by
  rcases List.mem_cons.mp hx with rfl | q
  · exact old_plain E c hc
  · exact r x q c hc
theorem own_plV {Z : State} {h : Heap} {a : Addr} {k : ClassId} {ty : FieldType} {z : Int32} {vs : List Value} {d : Value} {ws : List Addr} (E : Arv Z h a k ty z vs d) (r : ∀ x ∈ ws, ∀ c : Cell, h[x]? = some c → c.vm.isStatics = false) : ∀ x ∈ a :: ws, ∀ c : Cell, h[x]? = some c → c.vm.isStatics = false := fun x hx c hc => by
  rcases List.mem_cons.mp hx with rfl | q
  · obtain ⟨cl, A, -⟩ := E
    cases A.1.symm.trans hc; exact A.plain
  · exact r x q c hc
theorem own_sta_keep {Z : State} {h h' : Heap} {C n d : String} {w : Value} {ws : List Addr} (F : Sta Z h C n d w) (K : Keep h h' ws) (r : ∀ x ∈ ws, ∀ c : Cell, h[x]? = some c → c.vm.isStatics = false) : Sta Z h' C n d w := by
  obtain ⟨cf, i, k, f, st, cell, h1, h2, h3, h4, h5, h6, h7⟩ := F
  exact ⟨cf, i, k, f, st, cell, h1, h2, h3, h4, K.2.1 st cell h5 (fun q => by rw [r st q cell h5] at h6; cases h6), h6, h7⟩
end Own
def own_al (c lo hi : Int32) : Int32 := if c < lo then 0 else if hi < c then 0 else 1
theorem own_lt64 (a b : Int32) : (a.toInt64 - b.toInt64 < 0) ↔ a < b := by
  rw [Int64.lt_iff_toInt_lt, Int32.lt_iff_toInt_lt, Int64.toInt_sub, Int32.toInt_toInt64, Int32.toInt_toInt64]
  have h1 := a.le_toInt
  have h2 := a.toInt_lt
  have h3 := b.le_toInt
  have h4 := b.toInt_lt
  rw [Int.bmod_eq_of_le (by omega) (by omega)]
  have : (0 : Int64).toInt = 0 := rfl
  omega
theorem own_al_t {c lo hi : Int32} (h1 : ¬ c.toInt64 - lo.toInt64 < 0) (h2 : ¬ hi.toInt64 - c.toInt64 < 0) : own_al c lo hi = 1 := by
  rw [own_lt64] at h1 h2; simp [own_al, h1, h2]
theorem own_al_f1 {c lo hi : Int32} (h1 : c.toInt64 - lo.toInt64 < 0) : own_al c lo hi = 0 := by
  rw [own_lt64] at h1; simp [own_al, h1]
theorem own_al_f2 {c lo hi : Int32} (h1 : ¬ c.toInt64 - lo.toInt64 < 0) (h2 : hi.toInt64 - c.toInt64 < 0) : own_al c lo hi = 0 := by
  rw [own_lt64] at h1 h2; simp [own_al, h1, h2]
theorem own_pn0 : plainName "com/example/feuillet/feuillet/Findings" = true := by first | (simp [plainName, overriddenIn]; done) | decide +kernel
theorem own_d1_0 : decode prog_71_method_10_code 0 = .ok (.iload_n 0, 1) := by decide +kernel
theorem own_d1_1 : decode prog_71_method_10_code 1 = .ok (.iload_n 1, 1) := by decide +kernel
theorem own_d1_2 : decode prog_71_method_10_code 2 = .ok (.if_icmp .lt 12, 3) := by decide +kernel
theorem own_d1_5 : decode prog_71_method_10_code 5 = .ok (.iload_n 0, 1) := by decide +kernel
theorem own_d1_6 : decode prog_71_method_10_code 6 = .ok (.iload_n 2, 1) := by decide +kernel
theorem own_d1_7 : decode prog_71_method_10_code 7 = .ok (.if_icmp .gt 7, 3) := by decide +kernel
theorem own_d1_10 : decode prog_71_method_10_code 10 = .ok (.iconst 1, 1) := by decide +kernel
theorem own_d1_11 : decode prog_71_method_10_code 11 = .ok (.goto 4, 3) := by decide +kernel
theorem own_d1_14 : decode prog_71_method_10_code 14 = .ok (.iconst 0, 1) := by decide +kernel
theorem own_d1_15 : decode prog_71_method_10_code 15 = .ok (.ireturn, 1) := by decide +kernel
def own_Q_al (Z : State) (p1 : Int32) (p2 : Int32) (p3 : Int32) (h0 : Heap) (n0 : Nat) (v : Option Value) (h : Heap) (L : List Loc) : Prop := v = some (.int (own_al p1 p2 p3)) ∧ Fr n0 L ∧ h = h0
set_option maxRecDepth 65536 in
set_option maxHeartbeats 40000000 in
theorem own_m_al (l : Launch) (Z : State) (a0 : Array Value) (hw : ∀ d ∈ tables_1, d.before a0 Z = true) (ws : List Jvm.Cond) (p1 : Int32) (p2 : Int32) (p3 : Int32) (h0 : Heap) (n0 : Nat) (Z0 : n0 ≤ h0.size)  :
    MetFree l (⟨"com/example/feuillet/feuillet/Findings", "allowed", "(III)Z"⟩ : MethodName) (head1 (Jvm.Cond.code (⟨"com/example/feuillet/feuillet/Findings", "allowed", "(III)Z"⟩ : MethodName) prog_71_method_10_code 3 (some .boolean) :: ws) ({ frames := 0, cells := 0, slots := 0, locals := 0 } : Room)) (fun a U => a = #[(.int p1), (.int p2), (.int p3)] ∧ Z.Warmed39 U.vm ∧ U.heap = h0) (fun _ _ _ _ _ => True) (fun _ U o U' => ∃ v L, o = .returned v ∧ own_Q_al Z p1 p2 p3 h0 n0 v U'.heap L ∧ FrameEnd U o U' L ({ frames := 0, cells := 0, slots := 0, locals := 0 } : Room).cells ({ frames := 0, cells := 0, slots := 0, locals := 0 } : Room).slots) := by
  refine MetFree.of_bodySF (plainFor_of_name own_pn0) hisR ?_
  intro p e s m args below meth c s₁ Bd hml0 hP hK
  obtain ⟨rfl, hZ, hh⟩ := hP
  have hx := Bd.exec
  have hby := Bd.bytes
  have hml : c.maxLocals = 3 := hml0
  have hown : s.vm.findClass "com/example/feuillet/feuillet/Findings" = some m.cls := findClass_of_methodNamed Bd.named
  have hnm := (name_of_methodNamed Bd.named Bd.method).1
  have X0 : Stand p l e ({ frames := 0, cells := 0, slots := 0, locals := 0 } : Room) s m #[(.int p1), (.int p2), (.int p3)] below meth c s₁ [] 0 0 := Stand.of_body Bd
  have e0 : s₁.heap = h0 := by rw [← hh, Bd.state]; rfl
  have N0 := Fr.nil n0
  have K0 : Keep h0 h0 [] := Keep.refl _ _
  show own_Go p e below s ({ frames := 0, cells := 0, slots := 0, locals := 0 } : Room).cells ({ frames := 0, cells := 0, slots := 0, locals := 0 } : Room).slots (own_Q_al Z p1 p2 p3 h0 n0) (s₁.setTop (entryFrame m #[(.int p1), (.int p2), (.int p3)] 3))
  have ef : entryFrame m #[(.int p1), (.int p2), (.int p3)] 3 = (mkF m 0 #[.val (.int p1), .val (.int p2), .val (.int p3)] []) := by first | rfl | (simp [entryFrame, mkF, argsToLocals, Value.category, maxLocals]; done)
  rw [ef]
  show own_Go p e below s _ _ _ (s₁.setTop (mkF m 0 #[.val (.int p1), .val (.int p2), .val (.int p3)] []))
  refine own_step (U' := (s₁.setTop (mkF m 1 #[.val (.int p1), .val (.int p2), .val (.int p3)] [(.int p1)]))) (fun t ht => XS.iloadN X0.here hx rfl (hb hby own_d1_0) rfl ht) ?_
  refine own_step (U' := (s₁.setTop (mkF m 2 #[.val (.int p1), .val (.int p2), .val (.int p3)] [(.int p2), (.int p1)]))) (fun t ht => XS.iloadN X0.here hx rfl (hb hby own_d1_1) rfl ht) ?_
  by_cases hc2_1 : p1 < p2
  ·
    refine own_step (U' := (s₁.setTop (mkF m 14 #[.val (.int p1), .val (.int p2), .val (.int p3)] []))) (fun t ht => XS.icmpYes X0.here hx rfl (pc0 := 2) (pc' := 14) rfl (hb hby own_d1_2) rfl (XT.ii_lt_t hc2_1) (by decide) (by decide) ht) ?_
    refine own_step (U' := (s₁.setTop (mkF m 15 #[.val (.int p1), .val (.int p2), .val (.int p3)] [(.int (0 : Int32))]))) (fun t ht => XS.iconst X0.here hx rfl (hb hby own_d1_14) ht) ?_
    refine own_ret X0 (v := (some (.int (nar .boolean (0 : Int32))))) (fun h => by rw [Bd.returns] at h; cases h) Bd.notSynchronized (by decide) (by decide) ?_ (fun fs hr => retN X0 hx (t := .boolean) Bd.returns (by simp) (hb hby own_d1_15) hr)
    show own_Q_al Z p1 p2 p3 h0 n0 _ s₁.heap _
    rw [e0]
    refine ⟨?_, N0, rfl⟩
    simp [own_al, nar, hc2_1]
  ·
    refine own_step (U' := (s₁.setTop (mkF m 5 #[.val (.int p1), .val (.int p2), .val (.int p3)] []))) (fun t ht => XS.icmpNo X0.here hx rfl (hb hby own_d1_2) rfl (XT.ii_lt_f hc2_1) ht) ?_
    refine own_step (U' := (s₁.setTop (mkF m 6 #[.val (.int p1), .val (.int p2), .val (.int p3)] [(.int p1)]))) (fun t ht => XS.iloadN X0.here hx rfl (hb hby own_d1_5) rfl ht) ?_
    refine own_step (U' := (s₁.setTop (mkF m 7 #[.val (.int p1), .val (.int p2), .val (.int p3)] [(.int p3), (.int p1)]))) (fun t ht => XS.iloadN X0.here hx rfl (hb hby own_d1_6) rfl ht) ?_
    by_cases hc7_2 : p3 < p1
    ·
      refine own_step (U' := (s₁.setTop (mkF m 14 #[.val (.int p1), .val (.int p2), .val (.int p3)] []))) (fun t ht => XS.icmpYes X0.here hx rfl (pc0 := 7) (pc' := 14) rfl (hb hby own_d1_7) rfl (XT.ii_gt_t hc7_2) (by decide) (by decide) ht) ?_
      refine own_step (U' := (s₁.setTop (mkF m 15 #[.val (.int p1), .val (.int p2), .val (.int p3)] [(.int (0 : Int32))]))) (fun t ht => XS.iconst X0.here hx rfl (hb hby own_d1_14) ht) ?_
      refine own_ret X0 (v := (some (.int (nar .boolean (0 : Int32))))) (fun h => by rw [Bd.returns] at h; cases h) Bd.notSynchronized (by decide) (by decide) ?_ (fun fs hr => retN X0 hx (t := .boolean) Bd.returns (by simp) (hb hby own_d1_15) hr)
      show own_Q_al Z p1 p2 p3 h0 n0 _ s₁.heap _
      rw [e0]
      refine ⟨?_, N0, rfl⟩
      simp [own_al, nar, hc2_1, hc7_2]
    ·
      refine own_step (U' := (s₁.setTop (mkF m 10 #[.val (.int p1), .val (.int p2), .val (.int p3)] []))) (fun t ht => XS.icmpNo X0.here hx rfl (hb hby own_d1_7) rfl (XT.ii_gt_f hc7_2) ht) ?_
      refine own_step (U' := (s₁.setTop (mkF m 11 #[.val (.int p1), .val (.int p2), .val (.int p3)] [(.int (1 : Int32))]))) (fun t ht => XS.iconst X0.here hx rfl (hb hby own_d1_10) ht) ?_
      refine own_step (U' := (s₁.setTop (mkF m 15 #[.val (.int p1), .val (.int p2), .val (.int p3)] [(.int (1 : Int32))]))) (fun t ht => XS.goto X0.here hx rfl (pc0 := 11) (pc' := 15) rfl (hb hby own_d1_11) (by decide) (by decide) ht) ?_
      refine own_ret X0 (v := (some (.int (nar .boolean (1 : Int32))))) (fun h => by rw [Bd.returns] at h; cases h) Bd.notSynchronized (by decide) (by decide) ?_ (fun fs hr => retN X0 hx (t := .boolean) Bd.returns (by simp) (hb hby own_d1_15) hr)
      show own_Q_al Z p1 p2 p3 h0 n0 _ s₁.heap _
      rw [e0]
      refine ⟨?_, N0, rfl⟩
      simp [own_al, nar, hc2_1, hc7_2]
theorem own_pn1 : plainName "com/example/feuillet/feuillet/FindingsAllowedPinLaw" = true := by first | (simp [plainName, overriddenIn]; done) | decide +kernel
theorem own_pd0 : parseMethodDescriptor "(III)Z" = some ⟨[.int, .int, .int], some .boolean⟩ := by decide +kernel
def own_Q_law (Z : State) (p1 : Int32) (p2 : Int32) (p3 : Int32) (p4 : Int32) (h0 : Heap) (n0 : Nat) (v : Option Value) (h : Heap) (L : List Loc) : Prop := v = some (.int 1) ∧ Fr n0 L
set_option maxRecDepth 65536 in
set_option maxHeartbeats 40000000 in
theorem own_m_law (l : Launch) (Z : State) (a0 : Array Value) (hw : ∀ d ∈ tables_1, d.before a0 Z = true) (ws : List Jvm.Cond) (p1 : Int32) (p2 : Int32) (p3 : Int32) (p4 : Int32) (h0 : Heap) (n0 : Nat) (Z0 : n0 ≤ h0.size)  :
    MetFree l x (head1 (Jvm.Cond.code x code maxLocals ret :: ws) room_1) (fun a U => a = #[(.int p1), (.int p2), (.int p3), (.int p4)] ∧ Z.Warmed39 U.vm ∧ U.heap = h0) (fun _ _ _ _ _ => True) (fun _ U o U' => ∃ v L, o = .returned v ∧ own_Q_law Z p1 p2 p3 p4 h0 n0 v U'.heap L ∧ FrameEnd U o U' L 0 0) := by
  refine MetFree.of_bodySF (plainFor_of_name own_pn1) hisR ?_
  intro p e s m args below meth c s₁ Bd hml0 hP hK
  obtain ⟨rfl, hZ, hh⟩ := hP
  have hx := Bd.exec
  have hby := Bd.bytes
  have hml : c.maxLocals = 11 := hml0
  have hown : s.vm.findClass "com/example/feuillet/feuillet/FindingsAllowedPinLaw" = some m.cls := findClass_of_methodNamed Bd.named
  have hnm := (name_of_methodNamed Bd.named Bd.method).1
  have X0 : Stand p l e room_1 s m #[(.int p1), (.int p2), (.int p3), (.int p4)] below meth c s₁ [] 0 0 := Stand.of_body Bd
  have e0 : s₁.heap = h0 := by rw [← hh, Bd.state]; rfl
  have N0 := Fr.nil n0
  have K0 : Keep h0 h0 [] := Keep.refl _ _
  show own_Go p e below s 0 0 (own_Q_law Z p1 p2 p3 p4 h0 n0) (s₁.setTop (entryFrame m #[(.int p1), (.int p2), (.int p3), (.int p4)] maxLocals))
  have ef : entryFrame m #[(.int p1), (.int p2), (.int p3), (.int p4)] maxLocals = (mkF m 0 #[.val (.int p1), .val (.int p2), .val (.int p3), .val (.int p4), .unset, .unset, .unset, .unset, .unset, .unset, .unset] []) := by first | rfl | (simp [entryFrame, mkF, argsToLocals, Value.category, maxLocals]; done)
  rw [ef]
  show own_Go p e below s _ _ _ (s₁.setTop (mkF m 0 #[.val (.int p1), .val (.int p2), .val (.int p3), .val (.int p4), .unset, .unset, .unset, .unset, .unset, .unset, .unset] []))
  have tail41 : ∀ (lo : Int32) (hi : Int32), own_Go p e below s 0 0 (own_Q_law Z p1 p2 p3 p4 h0 n0) (s₁.setTop (mkF m 41 #[.val (.int p1), .val (.int p2), .val (.int p3), .val (.int p4), .val (.int lo), .val (.int hi), .unset, .unset, .unset, .unset, .unset] [])) := by
    intro lo hi
    refine own_step (U' := (s₁.setTop (mkF m 42 #[.val (.int p1), .val (.int p2), .val (.int p3), .val (.int p4), .val (.int lo), .val (.int hi), .unset, .unset, .unset, .unset, .unset] [(.int p1)]))) (fun t ht => XS.iloadN X0.here hx rfl (hb hby at_41) rfl ht) ?_
    refine own_step (U' := (s₁.setTop (mkF m 43 #[.val (.int p1), .val (.int p2), .val (.int p3), .val (.int p4), .val (.int lo), .val (.int hi), .unset, .unset, .unset, .unset, .unset] [(.long (p1.toInt64))]))) (fun t ht => XT.i2l X0.here hx rfl (hb hby at_42) rfl ht) ?_
    refine own_step (U' := (s₁.setTop (mkF m 45 #[.val (.int p1), .val (.int p2), .val (.int p3), .val (.int p4), .val (.int lo), .val (.int hi), .unset, .unset, .unset, .unset, .unset] [(.int lo), (.long (p1.toInt64))]))) (fun t ht => XS.iload X0.here hx rfl (hb hby at_43) rfl ht) ?_
    refine own_step (U' := (s₁.setTop (mkF m 46 #[.val (.int p1), .val (.int p2), .val (.int p3), .val (.int p4), .val (.int lo), .val (.int hi), .unset, .unset, .unset, .unset, .unset] [(.long (lo.toInt64)), (.long (p1.toInt64))]))) (fun t ht => XT.i2l X0.here hx rfl (hb hby at_45) rfl ht) ?_
    refine own_step (U' := (s₁.setTop (mkF m 47 #[.val (.int p1), .val (.int p2), .val (.int p3), .val (.int p4), .val (.int lo), .val (.int hi), .unset, .unset, .unset, .unset, .unset] [(.long ((p1.toInt64) - (lo.toInt64)))]))) (fun t ht => XT.lsub X0.here hx rfl (hb hby at_46) rfl ht) ?_
    refine own_step (U' := (s₁.setTop (mkF m 49 #[.val (.int p1), .val (.int p2), .val (.int p3), .val (.int p4), .val (.int lo), .val (.int hi), .val (.long ((p1.toInt64) - (lo.toInt64))), .second, .unset, .unset, .unset] []))) (fun t ht => XT.lstore X0.here hx rfl (hb hby at_47) rfl (l' := #[.val (.int p1), .val (.int p2), .val (.int p3), .val (.int p4), .val (.int lo), .val (.int hi), .val (.long ((p1.toInt64) - (lo.toInt64))), .second, .unset, .unset, .unset]) rfl ht) ?_
    refine own_step (U' := (s₁.setTop (mkF m 51 #[.val (.int p1), .val (.int p2), .val (.int p3), .val (.int p4), .val (.int lo), .val (.int hi), .val (.long ((p1.toInt64) - (lo.toInt64))), .second, .unset, .unset, .unset] [(.int hi)]))) (fun t ht => XS.iload X0.here hx rfl (hb hby at_49) rfl ht) ?_
    refine own_step (U' := (s₁.setTop (mkF m 52 #[.val (.int p1), .val (.int p2), .val (.int p3), .val (.int p4), .val (.int lo), .val (.int hi), .val (.long ((p1.toInt64) - (lo.toInt64))), .second, .unset, .unset, .unset] [(.long (hi.toInt64))]))) (fun t ht => XT.i2l X0.here hx rfl (hb hby at_51) rfl ht) ?_
    refine own_step (U' := (s₁.setTop (mkF m 53 #[.val (.int p1), .val (.int p2), .val (.int p3), .val (.int p4), .val (.int lo), .val (.int hi), .val (.long ((p1.toInt64) - (lo.toInt64))), .second, .unset, .unset, .unset] [(.int p1), (.long (hi.toInt64))]))) (fun t ht => XS.iloadN X0.here hx rfl (hb hby at_52) rfl ht) ?_
    refine own_step (U' := (s₁.setTop (mkF m 54 #[.val (.int p1), .val (.int p2), .val (.int p3), .val (.int p4), .val (.int lo), .val (.int hi), .val (.long ((p1.toInt64) - (lo.toInt64))), .second, .unset, .unset, .unset] [(.long (p1.toInt64)), (.long (hi.toInt64))]))) (fun t ht => XT.i2l X0.here hx rfl (hb hby at_53) rfl ht) ?_
    refine own_step (U' := (s₁.setTop (mkF m 55 #[.val (.int p1), .val (.int p2), .val (.int p3), .val (.int p4), .val (.int lo), .val (.int hi), .val (.long ((p1.toInt64) - (lo.toInt64))), .second, .unset, .unset, .unset] [(.long ((hi.toInt64) - (p1.toInt64)))]))) (fun t ht => XT.lsub X0.here hx rfl (hb hby at_54) rfl ht) ?_
    refine own_step (U' := (s₁.setTop (mkF m 57 #[.val (.int p1), .val (.int p2), .val (.int p3), .val (.int p4), .val (.int lo), .val (.int hi), .val (.long ((p1.toInt64) - (lo.toInt64))), .second, .val (.long ((hi.toInt64) - (p1.toInt64))), .second, .unset] []))) (fun t ht => XT.lstore X0.here hx rfl (hb hby at_55) rfl (l' := #[.val (.int p1), .val (.int p2), .val (.int p3), .val (.int p4), .val (.int lo), .val (.int hi), .val (.long ((p1.toInt64) - (lo.toInt64))), .second, .val (.long ((hi.toInt64) - (p1.toInt64))), .second, .unset]) rfl ht) ?_
    refine own_step (U' := (s₁.setTop (mkF m 59 #[.val (.int p1), .val (.int p2), .val (.int p3), .val (.int p4), .val (.int lo), .val (.int hi), .val (.long ((p1.toInt64) - (lo.toInt64))), .second, .val (.long ((hi.toInt64) - (p1.toInt64))), .second, .unset] [(.long ((p1.toInt64) - (lo.toInt64)))]))) (fun t ht => XT.lload X0.here hx rfl (hb hby at_57) rfl ht) ?_
    refine own_step (U' := (s₁.setTop (mkF m 60 #[.val (.int p1), .val (.int p2), .val (.int p3), .val (.int p4), .val (.int lo), .val (.int hi), .val (.long ((p1.toInt64) - (lo.toInt64))), .second, .val (.long ((hi.toInt64) - (p1.toInt64))), .second, .unset] [(.long (0 : Int64)), (.long ((p1.toInt64) - (lo.toInt64)))]))) (fun t ht => XT.lconstV X0.here hx rfl (0 : Int64) (hb hby at_59) rfl ht) ?_
    refine own_step (U' := (s₁.setTop (mkF m 61 #[.val (.int p1), .val (.int p2), .val (.int p3), .val (.int p4), .val (.int lo), .val (.int hi), .val (.long ((p1.toInt64) - (lo.toInt64))), .second, .val (.long ((hi.toInt64) - (p1.toInt64))), .second, .unset] [(.int (XT.cmpL ((p1.toInt64) - (lo.toInt64)) (0 : Int64)))]))) (fun t ht => XT.lcmp X0.here hx rfl (hb hby at_60) rfl ht) ?_
    by_cases hc61_3 : ((p1.toInt64) - (lo.toInt64)) < (0 : Int64)
    ·
      refine own_step (U' := (s₁.setTop (mkF m 75 #[.val (.int p1), .val (.int p2), .val (.int p3), .val (.int p4), .val (.int lo), .val (.int hi), .val (.long ((p1.toInt64) - (lo.toInt64))), .second, .val (.long ((hi.toInt64) - (p1.toInt64))), .second, .unset] []))) (fun t ht => XS.ifYes X0.here hx rfl (pc0 := 61) (pc' := 75) rfl (hb hby at_61) rfl (XT.ll_lt_t hc61_3) (by decide) (by decide) ht) ?_
      refine own_step (U' := (s₁.setTop (mkF m 76 #[.val (.int p1), .val (.int p2), .val (.int p3), .val (.int p4), .val (.int lo), .val (.int hi), .val (.long ((p1.toInt64) - (lo.toInt64))), .second, .val (.long ((hi.toInt64) - (p1.toInt64))), .second, .unset] [(.int (0 : Int32))]))) (fun t ht => XS.iconst X0.here hx rfl (hb hby at_75) ht) ?_
      refine own_step (U' := (s₁.setTop (mkF m 78 #[.val (.int p1), .val (.int p2), .val (.int p3), .val (.int p4), .val (.int lo), .val (.int hi), .val (.long ((p1.toInt64) - (lo.toInt64))), .second, .val (.long ((hi.toInt64) - (p1.toInt64))), .second, .val (.int (0 : Int32))] []))) (fun t ht => XS.istore X0.here hx rfl (hb hby at_76) rfl (l' := #[.val (.int p1), .val (.int p2), .val (.int p3), .val (.int p4), .val (.int lo), .val (.int hi), .val (.long ((p1.toInt64) - (lo.toInt64))), .second, .val (.long ((hi.toInt64) - (p1.toInt64))), .second, .val (.int (0 : Int32))]) rfl ht) ?_
      refine own_step (U' := (s₁.setTop (mkF m 79 #[.val (.int p1), .val (.int p2), .val (.int p3), .val (.int p4), .val (.int lo), .val (.int hi), .val (.long ((p1.toInt64) - (lo.toInt64))), .second, .val (.long ((hi.toInt64) - (p1.toInt64))), .second, .val (.int (0 : Int32))] [(.int p1)]))) (fun t ht => XS.iloadN X0.here hx rfl (hb hby at_78) rfl ht) ?_
      refine own_step (U' := (s₁.setTop (mkF m 81 #[.val (.int p1), .val (.int p2), .val (.int p3), .val (.int p4), .val (.int lo), .val (.int hi), .val (.long ((p1.toInt64) - (lo.toInt64))), .second, .val (.long ((hi.toInt64) - (p1.toInt64))), .second, .val (.int (0 : Int32))] [(.int lo), (.int p1)]))) (fun t ht => XS.iload X0.here hx rfl (hb hby at_79) rfl ht) ?_
      refine own_step (U' := (s₁.setTop (mkF m 83 #[.val (.int p1), .val (.int p2), .val (.int p3), .val (.int p4), .val (.int lo), .val (.int hi), .val (.long ((p1.toInt64) - (lo.toInt64))), .second, .val (.long ((hi.toInt64) - (p1.toInt64))), .second, .val (.int (0 : Int32))] [(.int hi), (.int lo), (.int p1)]))) (fun t ht => XS.iload X0.here hx rfl (hb hby at_81) rfl ht) ?_
      obtain ⟨_, _, ⟨T4, L4, k4, n4⟩, -, X4, ⟨Lc4, hQ4, l4, y4, z4⟩, st4⟩ := Jvm.LawKit.callS X0 hx (y := (⟨"com/example/feuillet/feuillet/Findings", "allowed", "(III)Z"⟩ : MethodName)) hown (mvT hZ (hw _ (List.mem_of_getElem? (i := 0) rfl))) (mvT hZ (hw _ (List.mem_of_getElem? (i := 1) rfl))) (mvT hZ (hw _ (List.mem_of_getElem? (i := 2) rfl))) (mvT hZ (hw _ (List.mem_of_getElem? (i := 3) rfl))) (by decide) (backOf (W := 0) (own_m_al l Z a0 hw [] (p1) (lo) (hi) h0 n0 Z0 ) hZ (hw _ (List.mem_of_getElem? (i := 3) rfl)) (hw _ (List.mem_of_getElem? (i := 2) rfl)) (by decide) (by decide)) (g := (mkF m 83 #[.val (.int p1), .val (.int p2), .val (.int p3), .val (.int p4), .val (.int lo), .val (.int hi), .val (.long ((p1.toInt64) - (lo.toInt64))), .second, .val (.long ((hi.toInt64) - (p1.toInt64))), .second, .val (.int (0 : Int32))] [(.int hi), (.int lo), (.int p1)])) rfl (by rw [hml]; rfl) (argsL := [(.int p1), (.int lo), (.int hi)]) (rest := []) (lenOf own_pd0 rfl) rfl (by show 2 * 0 + _ ≤ _; exact Nat.le_of_eq rfl) (hb hby at_83) (fun _ _ => ⟨rfl, e0, (by decide : 0 + 0 ≤ _), (by decide : 0 + 0 ≤ _)⟩)
      dsimp only [Pt.U, Pt.locs, Pt.cells, Pt.slots] at X4 l4 y4 z4 st4 hQ4
      subst l4 y4 z4
      obtain ⟨rfl, Nq4, Kq4⟩ := hQ4
      have N4 := Fr.app N0 Nq4
      have e4 : T4.heap = h0 := Kq4
      refine own_step (U' := (T4.setTop (mkF m 86 #[.val (.int p1), .val (.int p2), .val (.int p3), .val (.int p4), .val (.int lo), .val (.int hi), .val (.long ((p1.toInt64) - (lo.toInt64))), .second, .val (.long ((hi.toInt64) - (p1.toInt64))), .second, .val (.int (0 : Int32))] [(.int (own_al p1 lo hi))]))) (fun t ht => st4 _ ht) ?_
      refine own_step (U' := (T4.setTop (mkF m 88 #[.val (.int p1), .val (.int p2), .val (.int p3), .val (.int p4), .val (.int lo), .val (.int hi), .val (.long ((p1.toInt64) - (lo.toInt64))), .second, .val (.long ((hi.toInt64) - (p1.toInt64))), .second, .val (.int (0 : Int32))] [(.int (0 : Int32)), (.int (own_al p1 lo hi))]))) (fun t ht => XS.iload X4.here hx rfl (hb hby at_86) rfl ht) ?_
      refine own_step (U' := (T4.setTop (mkF m 91 #[.val (.int p1), .val (.int p2), .val (.int p3), .val (.int p4), .val (.int lo), .val (.int hi), .val (.long ((p1.toInt64) - (lo.toInt64))), .second, .val (.long ((hi.toInt64) - (p1.toInt64))), .second, .val (.int (0 : Int32))] []))) (fun t ht => XS.icmpNo X4.here hx rfl (hb hby at_88) rfl (XT.ii_ne_f ((own_al_f1 hc61_3) : (own_al p1 lo hi) = (0 : Int32))) ht) ?_
      refine own_step (U' := (T4.setTop (mkF m 92 #[.val (.int p1), .val (.int p2), .val (.int p3), .val (.int p4), .val (.int lo), .val (.int hi), .val (.long ((p1.toInt64) - (lo.toInt64))), .second, .val (.long ((hi.toInt64) - (p1.toInt64))), .second, .val (.int (0 : Int32))] [(.int (1 : Int32))]))) (fun t ht => XS.iconst X4.here hx rfl (hb hby at_91) ht) ?_
      refine own_step (U' := (T4.setTop (mkF m 96 #[.val (.int p1), .val (.int p2), .val (.int p3), .val (.int p4), .val (.int lo), .val (.int hi), .val (.long ((p1.toInt64) - (lo.toInt64))), .second, .val (.long ((hi.toInt64) - (p1.toInt64))), .second, .val (.int (0 : Int32))] [(.int (1 : Int32))]))) (fun t ht => XS.goto X4.here hx rfl (pc0 := 92) (pc' := 96) rfl (hb hby at_92) (by decide) (by decide) ht) ?_
      refine own_ret X4 (v := (some (.int (nar .boolean (1 : Int32))))) (fun h => by rw [Bd.returns] at h; cases h) Bd.notSynchronized (by decide) (by decide) ?_ (fun fs hr => retN X4 hx (t := .boolean) Bd.returns (by simp) (hb hby at_96) hr)
      show own_Q_law Z p1 p2 p3 p4 h0 n0 _ T4.heap _
      rw [e4]
      exact ⟨rfl, N4⟩
    ·
      refine own_step (U' := (s₁.setTop (mkF m 64 #[.val (.int p1), .val (.int p2), .val (.int p3), .val (.int p4), .val (.int lo), .val (.int hi), .val (.long ((p1.toInt64) - (lo.toInt64))), .second, .val (.long ((hi.toInt64) - (p1.toInt64))), .second, .unset] []))) (fun t ht => XS.ifNo X0.here hx rfl (hb hby at_61) rfl (XT.ll_lt_f hc61_3) ht) ?_
      refine own_step (U' := (s₁.setTop (mkF m 66 #[.val (.int p1), .val (.int p2), .val (.int p3), .val (.int p4), .val (.int lo), .val (.int hi), .val (.long ((p1.toInt64) - (lo.toInt64))), .second, .val (.long ((hi.toInt64) - (p1.toInt64))), .second, .unset] [(.long ((hi.toInt64) - (p1.toInt64)))]))) (fun t ht => XT.lload X0.here hx rfl (hb hby at_64) rfl ht) ?_
      refine own_step (U' := (s₁.setTop (mkF m 67 #[.val (.int p1), .val (.int p2), .val (.int p3), .val (.int p4), .val (.int lo), .val (.int hi), .val (.long ((p1.toInt64) - (lo.toInt64))), .second, .val (.long ((hi.toInt64) - (p1.toInt64))), .second, .unset] [(.long (0 : Int64)), (.long ((hi.toInt64) - (p1.toInt64)))]))) (fun t ht => XT.lconstV X0.here hx rfl (0 : Int64) (hb hby at_66) rfl ht) ?_
      refine own_step (U' := (s₁.setTop (mkF m 68 #[.val (.int p1), .val (.int p2), .val (.int p3), .val (.int p4), .val (.int lo), .val (.int hi), .val (.long ((p1.toInt64) - (lo.toInt64))), .second, .val (.long ((hi.toInt64) - (p1.toInt64))), .second, .unset] [(.int (XT.cmpL ((hi.toInt64) - (p1.toInt64)) (0 : Int64)))]))) (fun t ht => XT.lcmp X0.here hx rfl (hb hby at_67) rfl ht) ?_
      by_cases hc68_5 : ((hi.toInt64) - (p1.toInt64)) < (0 : Int64)
      ·
        refine own_step (U' := (s₁.setTop (mkF m 75 #[.val (.int p1), .val (.int p2), .val (.int p3), .val (.int p4), .val (.int lo), .val (.int hi), .val (.long ((p1.toInt64) - (lo.toInt64))), .second, .val (.long ((hi.toInt64) - (p1.toInt64))), .second, .unset] []))) (fun t ht => XS.ifYes X0.here hx rfl (pc0 := 68) (pc' := 75) rfl (hb hby at_68) rfl (XT.ll_lt_t hc68_5) (by decide) (by decide) ht) ?_
        refine own_step (U' := (s₁.setTop (mkF m 76 #[.val (.int p1), .val (.int p2), .val (.int p3), .val (.int p4), .val (.int lo), .val (.int hi), .val (.long ((p1.toInt64) - (lo.toInt64))), .second, .val (.long ((hi.toInt64) - (p1.toInt64))), .second, .unset] [(.int (0 : Int32))]))) (fun t ht => XS.iconst X0.here hx rfl (hb hby at_75) ht) ?_
        refine own_step (U' := (s₁.setTop (mkF m 78 #[.val (.int p1), .val (.int p2), .val (.int p3), .val (.int p4), .val (.int lo), .val (.int hi), .val (.long ((p1.toInt64) - (lo.toInt64))), .second, .val (.long ((hi.toInt64) - (p1.toInt64))), .second, .val (.int (0 : Int32))] []))) (fun t ht => XS.istore X0.here hx rfl (hb hby at_76) rfl (l' := #[.val (.int p1), .val (.int p2), .val (.int p3), .val (.int p4), .val (.int lo), .val (.int hi), .val (.long ((p1.toInt64) - (lo.toInt64))), .second, .val (.long ((hi.toInt64) - (p1.toInt64))), .second, .val (.int (0 : Int32))]) rfl ht) ?_
        refine own_step (U' := (s₁.setTop (mkF m 79 #[.val (.int p1), .val (.int p2), .val (.int p3), .val (.int p4), .val (.int lo), .val (.int hi), .val (.long ((p1.toInt64) - (lo.toInt64))), .second, .val (.long ((hi.toInt64) - (p1.toInt64))), .second, .val (.int (0 : Int32))] [(.int p1)]))) (fun t ht => XS.iloadN X0.here hx rfl (hb hby at_78) rfl ht) ?_
        refine own_step (U' := (s₁.setTop (mkF m 81 #[.val (.int p1), .val (.int p2), .val (.int p3), .val (.int p4), .val (.int lo), .val (.int hi), .val (.long ((p1.toInt64) - (lo.toInt64))), .second, .val (.long ((hi.toInt64) - (p1.toInt64))), .second, .val (.int (0 : Int32))] [(.int lo), (.int p1)]))) (fun t ht => XS.iload X0.here hx rfl (hb hby at_79) rfl ht) ?_
        refine own_step (U' := (s₁.setTop (mkF m 83 #[.val (.int p1), .val (.int p2), .val (.int p3), .val (.int p4), .val (.int lo), .val (.int hi), .val (.long ((p1.toInt64) - (lo.toInt64))), .second, .val (.long ((hi.toInt64) - (p1.toInt64))), .second, .val (.int (0 : Int32))] [(.int hi), (.int lo), (.int p1)]))) (fun t ht => XS.iload X0.here hx rfl (hb hby at_81) rfl ht) ?_
        obtain ⟨_, _, ⟨T6, L6, k6, n6⟩, -, X6, ⟨Lc6, hQ6, l6, y6, z6⟩, st6⟩ := Jvm.LawKit.callS X0 hx (y := (⟨"com/example/feuillet/feuillet/Findings", "allowed", "(III)Z"⟩ : MethodName)) hown (mvT hZ (hw _ (List.mem_of_getElem? (i := 0) rfl))) (mvT hZ (hw _ (List.mem_of_getElem? (i := 1) rfl))) (mvT hZ (hw _ (List.mem_of_getElem? (i := 2) rfl))) (mvT hZ (hw _ (List.mem_of_getElem? (i := 3) rfl))) (by decide) (backOf (W := 0) (own_m_al l Z a0 hw [] (p1) (lo) (hi) h0 n0 Z0 ) hZ (hw _ (List.mem_of_getElem? (i := 3) rfl)) (hw _ (List.mem_of_getElem? (i := 2) rfl)) (by decide) (by decide)) (g := (mkF m 83 #[.val (.int p1), .val (.int p2), .val (.int p3), .val (.int p4), .val (.int lo), .val (.int hi), .val (.long ((p1.toInt64) - (lo.toInt64))), .second, .val (.long ((hi.toInt64) - (p1.toInt64))), .second, .val (.int (0 : Int32))] [(.int hi), (.int lo), (.int p1)])) rfl (by rw [hml]; rfl) (argsL := [(.int p1), (.int lo), (.int hi)]) (rest := []) (lenOf own_pd0 rfl) rfl (by show 2 * 0 + _ ≤ _; exact Nat.le_of_eq rfl) (hb hby at_83) (fun _ _ => ⟨rfl, e0, (by decide : 0 + 0 ≤ _), (by decide : 0 + 0 ≤ _)⟩)
        dsimp only [Pt.U, Pt.locs, Pt.cells, Pt.slots] at X6 l6 y6 z6 st6 hQ6
        subst l6 y6 z6
        obtain ⟨rfl, Nq6, Kq6⟩ := hQ6
        have N6 := Fr.app N0 Nq6
        have e6 : T6.heap = h0 := Kq6
        refine own_step (U' := (T6.setTop (mkF m 86 #[.val (.int p1), .val (.int p2), .val (.int p3), .val (.int p4), .val (.int lo), .val (.int hi), .val (.long ((p1.toInt64) - (lo.toInt64))), .second, .val (.long ((hi.toInt64) - (p1.toInt64))), .second, .val (.int (0 : Int32))] [(.int (own_al p1 lo hi))]))) (fun t ht => st6 _ ht) ?_
        refine own_step (U' := (T6.setTop (mkF m 88 #[.val (.int p1), .val (.int p2), .val (.int p3), .val (.int p4), .val (.int lo), .val (.int hi), .val (.long ((p1.toInt64) - (lo.toInt64))), .second, .val (.long ((hi.toInt64) - (p1.toInt64))), .second, .val (.int (0 : Int32))] [(.int (0 : Int32)), (.int (own_al p1 lo hi))]))) (fun t ht => XS.iload X6.here hx rfl (hb hby at_86) rfl ht) ?_
        refine own_step (U' := (T6.setTop (mkF m 91 #[.val (.int p1), .val (.int p2), .val (.int p3), .val (.int p4), .val (.int lo), .val (.int hi), .val (.long ((p1.toInt64) - (lo.toInt64))), .second, .val (.long ((hi.toInt64) - (p1.toInt64))), .second, .val (.int (0 : Int32))] []))) (fun t ht => XS.icmpNo X6.here hx rfl (hb hby at_88) rfl (XT.ii_ne_f ((own_al_f2 hc61_3 hc68_5) : (own_al p1 lo hi) = (0 : Int32))) ht) ?_
        refine own_step (U' := (T6.setTop (mkF m 92 #[.val (.int p1), .val (.int p2), .val (.int p3), .val (.int p4), .val (.int lo), .val (.int hi), .val (.long ((p1.toInt64) - (lo.toInt64))), .second, .val (.long ((hi.toInt64) - (p1.toInt64))), .second, .val (.int (0 : Int32))] [(.int (1 : Int32))]))) (fun t ht => XS.iconst X6.here hx rfl (hb hby at_91) ht) ?_
        refine own_step (U' := (T6.setTop (mkF m 96 #[.val (.int p1), .val (.int p2), .val (.int p3), .val (.int p4), .val (.int lo), .val (.int hi), .val (.long ((p1.toInt64) - (lo.toInt64))), .second, .val (.long ((hi.toInt64) - (p1.toInt64))), .second, .val (.int (0 : Int32))] [(.int (1 : Int32))]))) (fun t ht => XS.goto X6.here hx rfl (pc0 := 92) (pc' := 96) rfl (hb hby at_92) (by decide) (by decide) ht) ?_
        refine own_ret X6 (v := (some (.int (nar .boolean (1 : Int32))))) (fun h => by rw [Bd.returns] at h; cases h) Bd.notSynchronized (by decide) (by decide) ?_ (fun fs hr => retN X6 hx (t := .boolean) Bd.returns (by simp) (hb hby at_96) hr)
        show own_Q_law Z p1 p2 p3 p4 h0 n0 _ T6.heap _
        rw [e6]
        exact ⟨rfl, N6⟩
      ·
        refine own_step (U' := (s₁.setTop (mkF m 71 #[.val (.int p1), .val (.int p2), .val (.int p3), .val (.int p4), .val (.int lo), .val (.int hi), .val (.long ((p1.toInt64) - (lo.toInt64))), .second, .val (.long ((hi.toInt64) - (p1.toInt64))), .second, .unset] []))) (fun t ht => XS.ifNo X0.here hx rfl (hb hby at_68) rfl (XT.ll_lt_f hc68_5) ht) ?_
        refine own_step (U' := (s₁.setTop (mkF m 72 #[.val (.int p1), .val (.int p2), .val (.int p3), .val (.int p4), .val (.int lo), .val (.int hi), .val (.long ((p1.toInt64) - (lo.toInt64))), .second, .val (.long ((hi.toInt64) - (p1.toInt64))), .second, .unset] [(.int (1 : Int32))]))) (fun t ht => XS.iconst X0.here hx rfl (hb hby at_71) ht) ?_
        refine own_step (U' := (s₁.setTop (mkF m 76 #[.val (.int p1), .val (.int p2), .val (.int p3), .val (.int p4), .val (.int lo), .val (.int hi), .val (.long ((p1.toInt64) - (lo.toInt64))), .second, .val (.long ((hi.toInt64) - (p1.toInt64))), .second, .unset] [(.int (1 : Int32))]))) (fun t ht => XS.goto X0.here hx rfl (pc0 := 72) (pc' := 76) rfl (hb hby at_72) (by decide) (by decide) ht) ?_
        refine own_step (U' := (s₁.setTop (mkF m 78 #[.val (.int p1), .val (.int p2), .val (.int p3), .val (.int p4), .val (.int lo), .val (.int hi), .val (.long ((p1.toInt64) - (lo.toInt64))), .second, .val (.long ((hi.toInt64) - (p1.toInt64))), .second, .val (.int (1 : Int32))] []))) (fun t ht => XS.istore X0.here hx rfl (hb hby at_76) rfl (l' := #[.val (.int p1), .val (.int p2), .val (.int p3), .val (.int p4), .val (.int lo), .val (.int hi), .val (.long ((p1.toInt64) - (lo.toInt64))), .second, .val (.long ((hi.toInt64) - (p1.toInt64))), .second, .val (.int (1 : Int32))]) rfl ht) ?_
        refine own_step (U' := (s₁.setTop (mkF m 79 #[.val (.int p1), .val (.int p2), .val (.int p3), .val (.int p4), .val (.int lo), .val (.int hi), .val (.long ((p1.toInt64) - (lo.toInt64))), .second, .val (.long ((hi.toInt64) - (p1.toInt64))), .second, .val (.int (1 : Int32))] [(.int p1)]))) (fun t ht => XS.iloadN X0.here hx rfl (hb hby at_78) rfl ht) ?_
        refine own_step (U' := (s₁.setTop (mkF m 81 #[.val (.int p1), .val (.int p2), .val (.int p3), .val (.int p4), .val (.int lo), .val (.int hi), .val (.long ((p1.toInt64) - (lo.toInt64))), .second, .val (.long ((hi.toInt64) - (p1.toInt64))), .second, .val (.int (1 : Int32))] [(.int lo), (.int p1)]))) (fun t ht => XS.iload X0.here hx rfl (hb hby at_79) rfl ht) ?_
        refine own_step (U' := (s₁.setTop (mkF m 83 #[.val (.int p1), .val (.int p2), .val (.int p3), .val (.int p4), .val (.int lo), .val (.int hi), .val (.long ((p1.toInt64) - (lo.toInt64))), .second, .val (.long ((hi.toInt64) - (p1.toInt64))), .second, .val (.int (1 : Int32))] [(.int hi), (.int lo), (.int p1)]))) (fun t ht => XS.iload X0.here hx rfl (hb hby at_81) rfl ht) ?_
        obtain ⟨_, _, ⟨T7, L7, k7, n7⟩, -, X7, ⟨Lc7, hQ7, l7, y7, z7⟩, st7⟩ := Jvm.LawKit.callS X0 hx (y := (⟨"com/example/feuillet/feuillet/Findings", "allowed", "(III)Z"⟩ : MethodName)) hown (mvT hZ (hw _ (List.mem_of_getElem? (i := 0) rfl))) (mvT hZ (hw _ (List.mem_of_getElem? (i := 1) rfl))) (mvT hZ (hw _ (List.mem_of_getElem? (i := 2) rfl))) (mvT hZ (hw _ (List.mem_of_getElem? (i := 3) rfl))) (by decide) (backOf (W := 0) (own_m_al l Z a0 hw [] (p1) (lo) (hi) h0 n0 Z0 ) hZ (hw _ (List.mem_of_getElem? (i := 3) rfl)) (hw _ (List.mem_of_getElem? (i := 2) rfl)) (by decide) (by decide)) (g := (mkF m 83 #[.val (.int p1), .val (.int p2), .val (.int p3), .val (.int p4), .val (.int lo), .val (.int hi), .val (.long ((p1.toInt64) - (lo.toInt64))), .second, .val (.long ((hi.toInt64) - (p1.toInt64))), .second, .val (.int (1 : Int32))] [(.int hi), (.int lo), (.int p1)])) rfl (by rw [hml]; rfl) (argsL := [(.int p1), (.int lo), (.int hi)]) (rest := []) (lenOf own_pd0 rfl) rfl (by show 2 * 0 + _ ≤ _; exact Nat.le_of_eq rfl) (hb hby at_83) (fun _ _ => ⟨rfl, e0, (by decide : 0 + 0 ≤ _), (by decide : 0 + 0 ≤ _)⟩)
        dsimp only [Pt.U, Pt.locs, Pt.cells, Pt.slots] at X7 l7 y7 z7 st7 hQ7
        subst l7 y7 z7
        obtain ⟨rfl, Nq7, Kq7⟩ := hQ7
        have N7 := Fr.app N0 Nq7
        have e7 : T7.heap = h0 := Kq7
        refine own_step (U' := (T7.setTop (mkF m 86 #[.val (.int p1), .val (.int p2), .val (.int p3), .val (.int p4), .val (.int lo), .val (.int hi), .val (.long ((p1.toInt64) - (lo.toInt64))), .second, .val (.long ((hi.toInt64) - (p1.toInt64))), .second, .val (.int (1 : Int32))] [(.int (own_al p1 lo hi))]))) (fun t ht => st7 _ ht) ?_
        refine own_step (U' := (T7.setTop (mkF m 88 #[.val (.int p1), .val (.int p2), .val (.int p3), .val (.int p4), .val (.int lo), .val (.int hi), .val (.long ((p1.toInt64) - (lo.toInt64))), .second, .val (.long ((hi.toInt64) - (p1.toInt64))), .second, .val (.int (1 : Int32))] [(.int (1 : Int32)), (.int (own_al p1 lo hi))]))) (fun t ht => XS.iload X7.here hx rfl (hb hby at_86) rfl ht) ?_
        refine own_step (U' := (T7.setTop (mkF m 91 #[.val (.int p1), .val (.int p2), .val (.int p3), .val (.int p4), .val (.int lo), .val (.int hi), .val (.long ((p1.toInt64) - (lo.toInt64))), .second, .val (.long ((hi.toInt64) - (p1.toInt64))), .second, .val (.int (1 : Int32))] []))) (fun t ht => XS.icmpNo X7.here hx rfl (hb hby at_88) rfl (XT.ii_ne_f ((own_al_t hc61_3 hc68_5) : (own_al p1 lo hi) = (1 : Int32))) ht) ?_
        refine own_step (U' := (T7.setTop (mkF m 92 #[.val (.int p1), .val (.int p2), .val (.int p3), .val (.int p4), .val (.int lo), .val (.int hi), .val (.long ((p1.toInt64) - (lo.toInt64))), .second, .val (.long ((hi.toInt64) - (p1.toInt64))), .second, .val (.int (1 : Int32))] [(.int (1 : Int32))]))) (fun t ht => XS.iconst X7.here hx rfl (hb hby at_91) ht) ?_
        refine own_step (U' := (T7.setTop (mkF m 96 #[.val (.int p1), .val (.int p2), .val (.int p3), .val (.int p4), .val (.int lo), .val (.int hi), .val (.long ((p1.toInt64) - (lo.toInt64))), .second, .val (.long ((hi.toInt64) - (p1.toInt64))), .second, .val (.int (1 : Int32))] [(.int (1 : Int32))]))) (fun t ht => XS.goto X7.here hx rfl (pc0 := 92) (pc' := 96) rfl (hb hby at_92) (by decide) (by decide) ht) ?_
        refine own_ret X7 (v := (some (.int (nar .boolean (1 : Int32))))) (fun h => by rw [Bd.returns] at h; cases h) Bd.notSynchronized (by decide) (by decide) ?_ (fun fs hr => retN X7 hx (t := .boolean) Bd.returns (by simp) (hb hby at_96) hr)
        show own_Q_law Z p1 p2 p3 p4 h0 n0 _ T7.heap _
        rw [e7]
        exact ⟨rfl, N7⟩
  refine own_step (U' := (s₁.setTop (mkF m 1 #[.val (.int p1), .val (.int p2), .val (.int p3), .val (.int p4), .unset, .unset, .unset, .unset, .unset, .unset, .unset] [(.int p2)]))) (fun t ht => XS.iloadN X0.here hx rfl (hb hby at_0) rfl ht) ?_
  refine own_step (U' := (s₁.setTop (mkF m 3 #[.val (.int p1), .val (.int p2), .val (.int p3), .val (.int p4), .val (.int p2), .unset, .unset, .unset, .unset, .unset, .unset] []))) (fun t ht => XS.istore X0.here hx rfl (hb hby at_1) rfl (l' := #[.val (.int p1), .val (.int p2), .val (.int p3), .val (.int p4), .val (.int p2), .unset, .unset, .unset, .unset, .unset, .unset]) rfl ht) ?_
  refine own_step (U' := (s₁.setTop (mkF m 4 #[.val (.int p1), .val (.int p2), .val (.int p3), .val (.int p4), .val (.int p2), .unset, .unset, .unset, .unset, .unset, .unset] [(.int p3)]))) (fun t ht => XS.iloadN X0.here hx rfl (hb hby at_3) rfl ht) ?_
  refine own_step (U' := (s₁.setTop (mkF m 6 #[.val (.int p1), .val (.int p2), .val (.int p3), .val (.int p4), .val (.int p2), .val (.int p3), .unset, .unset, .unset, .unset, .unset] []))) (fun t ht => XS.istore X0.here hx rfl (hb hby at_4) rfl (l' := #[.val (.int p1), .val (.int p2), .val (.int p3), .val (.int p4), .val (.int p2), .val (.int p3), .unset, .unset, .unset, .unset, .unset]) rfl ht) ?_
  refine own_step (U' := (s₁.setTop (mkF m 7 #[.val (.int p1), .val (.int p2), .val (.int p3), .val (.int p4), .val (.int p2), .val (.int p3), .unset, .unset, .unset, .unset, .unset] [(.int p4)]))) (fun t ht => XS.iloadN X0.here hx rfl (hb hby at_6) rfl ht) ?_
  refine own_step (U' := (s₁.setTop (mkF m 8 #[.val (.int p1), .val (.int p2), .val (.int p3), .val (.int p4), .val (.int p2), .val (.int p3), .unset, .unset, .unset, .unset, .unset] [(.int (1 : Int32)), (.int p4)]))) (fun t ht => XS.iconst X0.here hx rfl (hb hby at_7) ht) ?_
  refine own_step (U' := (s₁.setTop (mkF m 9 #[.val (.int p1), .val (.int p2), .val (.int p3), .val (.int p4), .val (.int p2), .val (.int p3), .unset, .unset, .unset, .unset, .unset] [(.int (p4 &&& (1 : Int32)))]))) (fun t ht => XS.iand X0.here hx rfl (hb hby at_8) rfl ht) ?_
  by_cases hc9_8 : (p4 &&& (1 : Int32)) = 0
  ·
    refine own_step (U' := (s₁.setTop (mkF m 23 #[.val (.int p1), .val (.int p2), .val (.int p3), .val (.int p4), .val (.int p2), .val (.int p3), .unset, .unset, .unset, .unset, .unset] []))) (fun t ht => XS.ifYes X0.here hx rfl (pc0 := 9) (pc' := 23) rfl (hb hby at_9) rfl (XT.i0_eq_t hc9_8) (by decide) (by decide) ht) ?_
    refine own_step (U' := (s₁.setTop (mkF m 24 #[.val (.int p1), .val (.int p2), .val (.int p3), .val (.int p4), .val (.int p2), .val (.int p3), .unset, .unset, .unset, .unset, .unset] [(.int p4)]))) (fun t ht => XS.iloadN X0.here hx rfl (hb hby at_23) rfl ht) ?_
    refine own_step (U' := (s₁.setTop (mkF m 26 #[.val (.int p1), .val (.int p2), .val (.int p3), .val (.int p4), .val (.int p2), .val (.int p3), .unset, .unset, .unset, .unset, .unset] [(.int (8 : Int32)), (.int p4)]))) (fun t ht => XS.bipush X0.here hx rfl (hb hby at_24) ht) ?_
    refine own_step (U' := (s₁.setTop (mkF m 27 #[.val (.int p1), .val (.int p2), .val (.int p3), .val (.int p4), .val (.int p2), .val (.int p3), .unset, .unset, .unset, .unset, .unset] [(.int (p4 &&& (8 : Int32)))]))) (fun t ht => XS.iand X0.here hx rfl (hb hby at_26) rfl ht) ?_
    by_cases hc27_9 : (p4 &&& (8 : Int32)) = 0
    ·
      refine own_step (U' := (s₁.setTop (mkF m 41 #[.val (.int p1), .val (.int p2), .val (.int p3), .val (.int p4), .val (.int p2), .val (.int p3), .unset, .unset, .unset, .unset, .unset] []))) (fun t ht => XS.ifYes X0.here hx rfl (pc0 := 27) (pc' := 41) rfl (hb hby at_27) rfl (XT.i0_eq_t hc27_9) (by decide) (by decide) ht) ?_
      exact tail41 (p2) (p3) 
    ·
      refine own_step (U' := (s₁.setTop (mkF m 30 #[.val (.int p1), .val (.int p2), .val (.int p3), .val (.int p4), .val (.int p2), .val (.int p3), .unset, .unset, .unset, .unset, .unset] []))) (fun t ht => XS.ifNo X0.here hx rfl (hb hby at_27) rfl (XT.i0_eq_f hc27_9) ht) ?_
      refine own_step (U' := (s₁.setTop (mkF m 31 #[.val (.int p1), .val (.int p2), .val (.int p3), .val (.int p4), .val (.int p2), .val (.int p3), .unset, .unset, .unset, .unset, .unset] [(.int p1)]))) (fun t ht => XS.iloadN X0.here hx rfl (hb hby at_30) rfl ht) ?_
      refine own_step (U' := (s₁.setTop (mkF m 32 #[.val (.int p1), .val (.int p2), .val (.int p3), .val (.int p4), .val (.int p2), .val (.int p3), .unset, .unset, .unset, .unset, .unset] [(.int p4), (.int p1)]))) (fun t ht => XS.iloadN X0.here hx rfl (hb hby at_31) rfl ht) ?_
      refine own_step (U' := (s₁.setTop (mkF m 33 #[.val (.int p1), .val (.int p2), .val (.int p3), .val (.int p4), .val (.int p2), .val (.int p3), .unset, .unset, .unset, .unset, .unset] [(.int (4 : Int32)), (.int p4), (.int p1)]))) (fun t ht => XS.iconst X0.here hx rfl (hb hby at_32) ht) ?_
      refine own_step (U' := (s₁.setTop (mkF m 34 #[.val (.int p1), .val (.int p2), .val (.int p3), .val (.int p4), .val (.int p2), .val (.int p3), .unset, .unset, .unset, .unset, .unset] [(.int (p4 >>> ((4 : Int32) &&& 31))), (.int p1)]))) (fun t ht => XT.ishr X0.here hx rfl (hb hby at_33) rfl ht) ?_
      refine own_step (U' := (s₁.setTop (mkF m 35 #[.val (.int p1), .val (.int p2), .val (.int p3), .val (.int p4), .val (.int p2), .val (.int p3), .unset, .unset, .unset, .unset, .unset] [(.int (3 : Int32)), (.int (p4 >>> ((4 : Int32) &&& 31))), (.int p1)]))) (fun t ht => XS.iconst X0.here hx rfl (hb hby at_34) ht) ?_
      refine own_step (U' := (s₁.setTop (mkF m 36 #[.val (.int p1), .val (.int p2), .val (.int p3), .val (.int p4), .val (.int p2), .val (.int p3), .unset, .unset, .unset, .unset, .unset] [(.int ((p4 >>> ((4 : Int32) &&& 31)) &&& (3 : Int32))), (.int p1)]))) (fun t ht => XS.iand X0.here hx rfl (hb hby at_35) rfl ht) ?_
      refine own_step (U' := (s₁.setTop (mkF m 37 #[.val (.int p1), .val (.int p2), .val (.int p3), .val (.int p4), .val (.int p2), .val (.int p3), .unset, .unset, .unset, .unset, .unset] [(.int (p1 + ((p4 >>> ((4 : Int32) &&& 31)) &&& (3 : Int32))))]))) (fun t ht => XS.iadd X0.here hx rfl (hb hby at_36) rfl ht) ?_
      refine own_step (U' := (s₁.setTop (mkF m 38 #[.val (.int p1), .val (.int p2), .val (.int p3), .val (.int p4), .val (.int p2), .val (.int p3), .unset, .unset, .unset, .unset, .unset] [(.int (2 : Int32)), (.int (p1 + ((p4 >>> ((4 : Int32) &&& 31)) &&& (3 : Int32))))]))) (fun t ht => XS.iconst X0.here hx rfl (hb hby at_37) ht) ?_
      refine own_step (U' := (s₁.setTop (mkF m 39 #[.val (.int p1), .val (.int p2), .val (.int p3), .val (.int p4), .val (.int p2), .val (.int p3), .unset, .unset, .unset, .unset, .unset] [(.int ((p1 + ((p4 >>> ((4 : Int32) &&& 31)) &&& (3 : Int32))) - (2 : Int32)))]))) (fun t ht => XS.isub X0.here hx rfl (hb hby at_38) rfl ht) ?_
      refine own_step (U' := (s₁.setTop (mkF m 41 #[.val (.int p1), .val (.int p2), .val (.int p3), .val (.int p4), .val (.int p2), .val (.int ((p1 + ((p4 >>> ((4 : Int32) &&& 31)) &&& (3 : Int32))) - (2 : Int32))), .unset, .unset, .unset, .unset, .unset] []))) (fun t ht => XS.istore X0.here hx rfl (hb hby at_39) rfl (l' := #[.val (.int p1), .val (.int p2), .val (.int p3), .val (.int p4), .val (.int p2), .val (.int ((p1 + ((p4 >>> ((4 : Int32) &&& 31)) &&& (3 : Int32))) - (2 : Int32))), .unset, .unset, .unset, .unset, .unset]) rfl ht) ?_
      exact tail41 (p2) (((p1 + ((p4 >>> ((4 : Int32) &&& 31)) &&& (3 : Int32))) - (2 : Int32))) 
  ·
    refine own_step (U' := (s₁.setTop (mkF m 12 #[.val (.int p1), .val (.int p2), .val (.int p3), .val (.int p4), .val (.int p2), .val (.int p3), .unset, .unset, .unset, .unset, .unset] []))) (fun t ht => XS.ifNo X0.here hx rfl (hb hby at_9) rfl (XT.i0_eq_f hc9_8) ht) ?_
    refine own_step (U' := (s₁.setTop (mkF m 13 #[.val (.int p1), .val (.int p2), .val (.int p3), .val (.int p4), .val (.int p2), .val (.int p3), .unset, .unset, .unset, .unset, .unset] [(.int p1)]))) (fun t ht => XS.iloadN X0.here hx rfl (hb hby at_12) rfl ht) ?_
    refine own_step (U' := (s₁.setTop (mkF m 14 #[.val (.int p1), .val (.int p2), .val (.int p3), .val (.int p4), .val (.int p2), .val (.int p3), .unset, .unset, .unset, .unset, .unset] [(.int p4), (.int p1)]))) (fun t ht => XS.iloadN X0.here hx rfl (hb hby at_13) rfl ht) ?_
    refine own_step (U' := (s₁.setTop (mkF m 15 #[.val (.int p1), .val (.int p2), .val (.int p3), .val (.int p4), .val (.int p2), .val (.int p3), .unset, .unset, .unset, .unset, .unset] [(.int (1 : Int32)), (.int p4), (.int p1)]))) (fun t ht => XS.iconst X0.here hx rfl (hb hby at_14) ht) ?_
    refine own_step (U' := (s₁.setTop (mkF m 16 #[.val (.int p1), .val (.int p2), .val (.int p3), .val (.int p4), .val (.int p2), .val (.int p3), .unset, .unset, .unset, .unset, .unset] [(.int (p4 >>> ((1 : Int32) &&& 31))), (.int p1)]))) (fun t ht => XT.ishr X0.here hx rfl (hb hby at_15) rfl ht) ?_
    refine own_step (U' := (s₁.setTop (mkF m 17 #[.val (.int p1), .val (.int p2), .val (.int p3), .val (.int p4), .val (.int p2), .val (.int p3), .unset, .unset, .unset, .unset, .unset] [(.int (3 : Int32)), (.int (p4 >>> ((1 : Int32) &&& 31))), (.int p1)]))) (fun t ht => XS.iconst X0.here hx rfl (hb hby at_16) ht) ?_
    refine own_step (U' := (s₁.setTop (mkF m 18 #[.val (.int p1), .val (.int p2), .val (.int p3), .val (.int p4), .val (.int p2), .val (.int p3), .unset, .unset, .unset, .unset, .unset] [(.int ((p4 >>> ((1 : Int32) &&& 31)) &&& (3 : Int32))), (.int p1)]))) (fun t ht => XS.iand X0.here hx rfl (hb hby at_17) rfl ht) ?_
    refine own_step (U' := (s₁.setTop (mkF m 19 #[.val (.int p1), .val (.int p2), .val (.int p3), .val (.int p4), .val (.int p2), .val (.int p3), .unset, .unset, .unset, .unset, .unset] [(.int (p1 + ((p4 >>> ((1 : Int32) &&& 31)) &&& (3 : Int32))))]))) (fun t ht => XS.iadd X0.here hx rfl (hb hby at_18) rfl ht) ?_
    refine own_step (U' := (s₁.setTop (mkF m 20 #[.val (.int p1), .val (.int p2), .val (.int p3), .val (.int p4), .val (.int p2), .val (.int p3), .unset, .unset, .unset, .unset, .unset] [(.int (1 : Int32)), (.int (p1 + ((p4 >>> ((1 : Int32) &&& 31)) &&& (3 : Int32))))]))) (fun t ht => XS.iconst X0.here hx rfl (hb hby at_19) ht) ?_
    refine own_step (U' := (s₁.setTop (mkF m 21 #[.val (.int p1), .val (.int p2), .val (.int p3), .val (.int p4), .val (.int p2), .val (.int p3), .unset, .unset, .unset, .unset, .unset] [(.int ((p1 + ((p4 >>> ((1 : Int32) &&& 31)) &&& (3 : Int32))) - (1 : Int32)))]))) (fun t ht => XS.isub X0.here hx rfl (hb hby at_20) rfl ht) ?_
    refine own_step (U' := (s₁.setTop (mkF m 23 #[.val (.int p1), .val (.int p2), .val (.int p3), .val (.int p4), .val (.int ((p1 + ((p4 >>> ((1 : Int32) &&& 31)) &&& (3 : Int32))) - (1 : Int32))), .val (.int p3), .unset, .unset, .unset, .unset, .unset] []))) (fun t ht => XS.istore X0.here hx rfl (hb hby at_21) rfl (l' := #[.val (.int p1), .val (.int p2), .val (.int p3), .val (.int p4), .val (.int ((p1 + ((p4 >>> ((1 : Int32) &&& 31)) &&& (3 : Int32))) - (1 : Int32))), .val (.int p3), .unset, .unset, .unset, .unset, .unset]) rfl ht) ?_
    refine own_step (U' := (s₁.setTop (mkF m 24 #[.val (.int p1), .val (.int p2), .val (.int p3), .val (.int p4), .val (.int ((p1 + ((p4 >>> ((1 : Int32) &&& 31)) &&& (3 : Int32))) - (1 : Int32))), .val (.int p3), .unset, .unset, .unset, .unset, .unset] [(.int p4)]))) (fun t ht => XS.iloadN X0.here hx rfl (hb hby at_23) rfl ht) ?_
    refine own_step (U' := (s₁.setTop (mkF m 26 #[.val (.int p1), .val (.int p2), .val (.int p3), .val (.int p4), .val (.int ((p1 + ((p4 >>> ((1 : Int32) &&& 31)) &&& (3 : Int32))) - (1 : Int32))), .val (.int p3), .unset, .unset, .unset, .unset, .unset] [(.int (8 : Int32)), (.int p4)]))) (fun t ht => XS.bipush X0.here hx rfl (hb hby at_24) ht) ?_
    refine own_step (U' := (s₁.setTop (mkF m 27 #[.val (.int p1), .val (.int p2), .val (.int p3), .val (.int p4), .val (.int ((p1 + ((p4 >>> ((1 : Int32) &&& 31)) &&& (3 : Int32))) - (1 : Int32))), .val (.int p3), .unset, .unset, .unset, .unset, .unset] [(.int (p4 &&& (8 : Int32)))]))) (fun t ht => XS.iand X0.here hx rfl (hb hby at_26) rfl ht) ?_
    by_cases hc27_10 : (p4 &&& (8 : Int32)) = 0
    ·
      refine own_step (U' := (s₁.setTop (mkF m 41 #[.val (.int p1), .val (.int p2), .val (.int p3), .val (.int p4), .val (.int ((p1 + ((p4 >>> ((1 : Int32) &&& 31)) &&& (3 : Int32))) - (1 : Int32))), .val (.int p3), .unset, .unset, .unset, .unset, .unset] []))) (fun t ht => XS.ifYes X0.here hx rfl (pc0 := 27) (pc' := 41) rfl (hb hby at_27) rfl (XT.i0_eq_t hc27_10) (by decide) (by decide) ht) ?_
      exact tail41 (((p1 + ((p4 >>> ((1 : Int32) &&& 31)) &&& (3 : Int32))) - (1 : Int32))) (p3) 
    ·
      refine own_step (U' := (s₁.setTop (mkF m 30 #[.val (.int p1), .val (.int p2), .val (.int p3), .val (.int p4), .val (.int ((p1 + ((p4 >>> ((1 : Int32) &&& 31)) &&& (3 : Int32))) - (1 : Int32))), .val (.int p3), .unset, .unset, .unset, .unset, .unset] []))) (fun t ht => XS.ifNo X0.here hx rfl (hb hby at_27) rfl (XT.i0_eq_f hc27_10) ht) ?_
      refine own_step (U' := (s₁.setTop (mkF m 31 #[.val (.int p1), .val (.int p2), .val (.int p3), .val (.int p4), .val (.int ((p1 + ((p4 >>> ((1 : Int32) &&& 31)) &&& (3 : Int32))) - (1 : Int32))), .val (.int p3), .unset, .unset, .unset, .unset, .unset] [(.int p1)]))) (fun t ht => XS.iloadN X0.here hx rfl (hb hby at_30) rfl ht) ?_
      refine own_step (U' := (s₁.setTop (mkF m 32 #[.val (.int p1), .val (.int p2), .val (.int p3), .val (.int p4), .val (.int ((p1 + ((p4 >>> ((1 : Int32) &&& 31)) &&& (3 : Int32))) - (1 : Int32))), .val (.int p3), .unset, .unset, .unset, .unset, .unset] [(.int p4), (.int p1)]))) (fun t ht => XS.iloadN X0.here hx rfl (hb hby at_31) rfl ht) ?_
      refine own_step (U' := (s₁.setTop (mkF m 33 #[.val (.int p1), .val (.int p2), .val (.int p3), .val (.int p4), .val (.int ((p1 + ((p4 >>> ((1 : Int32) &&& 31)) &&& (3 : Int32))) - (1 : Int32))), .val (.int p3), .unset, .unset, .unset, .unset, .unset] [(.int (4 : Int32)), (.int p4), (.int p1)]))) (fun t ht => XS.iconst X0.here hx rfl (hb hby at_32) ht) ?_
      refine own_step (U' := (s₁.setTop (mkF m 34 #[.val (.int p1), .val (.int p2), .val (.int p3), .val (.int p4), .val (.int ((p1 + ((p4 >>> ((1 : Int32) &&& 31)) &&& (3 : Int32))) - (1 : Int32))), .val (.int p3), .unset, .unset, .unset, .unset, .unset] [(.int (p4 >>> ((4 : Int32) &&& 31))), (.int p1)]))) (fun t ht => XT.ishr X0.here hx rfl (hb hby at_33) rfl ht) ?_
      refine own_step (U' := (s₁.setTop (mkF m 35 #[.val (.int p1), .val (.int p2), .val (.int p3), .val (.int p4), .val (.int ((p1 + ((p4 >>> ((1 : Int32) &&& 31)) &&& (3 : Int32))) - (1 : Int32))), .val (.int p3), .unset, .unset, .unset, .unset, .unset] [(.int (3 : Int32)), (.int (p4 >>> ((4 : Int32) &&& 31))), (.int p1)]))) (fun t ht => XS.iconst X0.here hx rfl (hb hby at_34) ht) ?_
      refine own_step (U' := (s₁.setTop (mkF m 36 #[.val (.int p1), .val (.int p2), .val (.int p3), .val (.int p4), .val (.int ((p1 + ((p4 >>> ((1 : Int32) &&& 31)) &&& (3 : Int32))) - (1 : Int32))), .val (.int p3), .unset, .unset, .unset, .unset, .unset] [(.int ((p4 >>> ((4 : Int32) &&& 31)) &&& (3 : Int32))), (.int p1)]))) (fun t ht => XS.iand X0.here hx rfl (hb hby at_35) rfl ht) ?_
      refine own_step (U' := (s₁.setTop (mkF m 37 #[.val (.int p1), .val (.int p2), .val (.int p3), .val (.int p4), .val (.int ((p1 + ((p4 >>> ((1 : Int32) &&& 31)) &&& (3 : Int32))) - (1 : Int32))), .val (.int p3), .unset, .unset, .unset, .unset, .unset] [(.int (p1 + ((p4 >>> ((4 : Int32) &&& 31)) &&& (3 : Int32))))]))) (fun t ht => XS.iadd X0.here hx rfl (hb hby at_36) rfl ht) ?_
      refine own_step (U' := (s₁.setTop (mkF m 38 #[.val (.int p1), .val (.int p2), .val (.int p3), .val (.int p4), .val (.int ((p1 + ((p4 >>> ((1 : Int32) &&& 31)) &&& (3 : Int32))) - (1 : Int32))), .val (.int p3), .unset, .unset, .unset, .unset, .unset] [(.int (2 : Int32)), (.int (p1 + ((p4 >>> ((4 : Int32) &&& 31)) &&& (3 : Int32))))]))) (fun t ht => XS.iconst X0.here hx rfl (hb hby at_37) ht) ?_
      refine own_step (U' := (s₁.setTop (mkF m 39 #[.val (.int p1), .val (.int p2), .val (.int p3), .val (.int p4), .val (.int ((p1 + ((p4 >>> ((1 : Int32) &&& 31)) &&& (3 : Int32))) - (1 : Int32))), .val (.int p3), .unset, .unset, .unset, .unset, .unset] [(.int ((p1 + ((p4 >>> ((4 : Int32) &&& 31)) &&& (3 : Int32))) - (2 : Int32)))]))) (fun t ht => XS.isub X0.here hx rfl (hb hby at_38) rfl ht) ?_
      refine own_step (U' := (s₁.setTop (mkF m 41 #[.val (.int p1), .val (.int p2), .val (.int p3), .val (.int p4), .val (.int ((p1 + ((p4 >>> ((1 : Int32) &&& 31)) &&& (3 : Int32))) - (1 : Int32))), .val (.int ((p1 + ((p4 >>> ((4 : Int32) &&& 31)) &&& (3 : Int32))) - (2 : Int32))), .unset, .unset, .unset, .unset, .unset] []))) (fun t ht => XS.istore X0.here hx rfl (hb hby at_39) rfl (l' := #[.val (.int p1), .val (.int p2), .val (.int p3), .val (.int p4), .val (.int ((p1 + ((p4 >>> ((1 : Int32) &&& 31)) &&& (3 : Int32))) - (1 : Int32))), .val (.int ((p1 + ((p4 >>> ((4 : Int32) &&& 31)) &&& (3 : Int32))) - (2 : Int32))), .unset, .unset, .unset, .unset, .unset]) rfl ht) ?_
      exact tail41 (((p1 + ((p4 >>> ((1 : Int32) &&& 31)) &&& (3 : Int32))) - (1 : Int32))) (((p1 + ((p4 >>> ((4 : Int32) &&& 31)) &&& (3 : Int32))) - (2 : Int32))) 
set_option maxRecDepth 65536 in
set_option maxHeartbeats 40000000 in
theorem own_comes {Post : Tables → Env → Array Value → State → Outcome → State → Prop} (hpost : ∀ tb e args s v u, (limb_1_1.after args s (.returned v) u = true ∧ limb_1_2.after args s (.returned v) u = true ∧ True) → FrameEnd s (.returned v) u (Jvm.fieldLocs frame_1_writes args s ++ Jvm.arrayLocs frame_1_arrays args s ++ Jvm.staticLocs frame_1_statics s) 0 0 → Post tb e args s (.returned v) u) :
    ArmFor flags0 classFile x code maxLocals ret World_1 tables_1 room_1 Calls_1 rest_1 Pre_1 Post := by
  intro l hfl _ _ p e ha hc hk s m args below hf hA hF happ hP
  obtain ⟨hcalls, hrest, hpre⟩ := hP
  obtain ⟨-, -, -, hnamed, -, -, -, hat⟩ := (Spec.applies_iff hf).mp happ
  obtain ⟨hg, hn⟩ := and_e (Cond.before_iff.mp (show (Jvm.Cond.and given_1 narrow_1).before args s = true from hpre))
  obtain ⟨hcount, q0⟩ := and_e hg
  obtain ⟨a0, q1⟩ := and_e q0
  obtain ⟨a1, q2⟩ := and_e q1
  obtain ⟨a2, q3⟩ := and_e q2
  have a3 := q3
  obtain ⟨w0, w1, w2, w3, rfl⟩ : ∃ w0 w1 w2 w3 : Value, args = #[w0, w1, w2, w3] := by
    have hs : args.size = 4 := by simpa [Cond.value, given_1] using hcount
    obtain ⟨L⟩ := args
    match L, hs with
    | [w0, w1, w2, w3], _ => exact ⟨w0, w1, w2, w3, rfl⟩
  obtain ⟨i0, e0⟩ := is_v a0
  obtain rfl : w0 = (.int i0) := Option.some.inj e0
  obtain ⟨i1, e1⟩ := is_v a1
  obtain rfl : w1 = (.int i1) := Option.some.inj e1
  obtain ⟨i2, e2⟩ := is_v a2
  obtain rfl : w2 = (.int i2) := Option.some.inj e2
  obtain ⟨i3, e3⟩ := is_v a3
  obtain rfl : w3 = (.int i3) := Option.some.inj e3
  have hw := fun d (hd : d ∈ tables_1) => atoms_spec (ws := Jvm.Cond.code x code maxLocals ret :: tables_1) hat d (List.mem_cons_of_mem _ hd)
  have hfit : Fit s := fun {y c} hc i hi => by
    obtain ⟨ha, rfl⟩ := Array.getElem?_eq_some_iff.mp hc
    have q := List.all_eq_true.mp ((Array.all_eq_true_iff_forall_mem.mp hF) _ (Array.getElem_mem ha)) i (List.mem_range.mpr hi)
    simpa [Array.getElem?_eq_getElem hi] using q

  obtain ⟨n, o, h1, h2, h3, _, L, rfl, ⟨rfl, N⟩, hq⟩ := own_m_law l s _ hw tables_1 i0 i1 i2 i3  s.heap s.heap.size (Nat.le_refl _)  p e ha hc hk s m _ below hf ((Spec.applies_iff_loose hf).mp happ).1 ⟨rfl, State.Warmed39.refl s, rfl⟩ trivial
  refine ⟨n, _, h1, h2, h3, hpost _ _ _ _ _ _ ⟨Cond.after_iff.mpr rfl, Cond.after_iff.mpr (eq_i res_at (Term.int_eval (1)) rfl), trivial⟩ ⟨hq.1, hq.2.1, (hq.2.2.sift fun y hy => Or.inr (N y hy)).mono (by decide) (by decide)⟩⟩
theorem main_1_1 : Claimed_1_1 := own_comes fun _ _ _ _ _ _ h hF => ⟨h.1, hF⟩
theorem main_1_2 : Claimed_1_2 := own_comes fun _ _ _ _ _ _ h hF => ⟨h.2.1, hF⟩
end Jvm.Pilot.@@N@@
namespace Jvm.Pilot.@@N@@
open Jvm Jvm.ClassFile Sem Op Lib Jvm.Free Jvm.Stand Jvm.Pilot.@@N@@.Jvm.D
/-! MADE BY PROGRAM (witnessworld.py) out of the Statement's table words and the real class files: 7 classes; the members and pool entries that the words name. The judged class is class 1, her method 1. -/
namespace start1
open Jvm.ClassFile
def u (s : String) : CpInfo := .utf8 (stringToUtf16 s)
/-- a pool by its gaps: so many unusable entries, then the entry; so many at the end -/
def gap : Nat → List CpInfo → List CpInfo
  | 0, r => r
  | n + 1, r => .unusable :: gap n r
def poolList (es : List (Nat × CpInfo)) (last : Nat) : List CpInfo := es.foldr (fun e r => gap e.1 (e.2 :: r)) (gap last [])
def pool (es : List (Nat × CpInfo)) (last : Nat) : Array CpInfo := ⟨poolList es last⟩
def fileOf (pool : Array CpInfo) (this : Nat) (attrs : Array Attribute := #[]) (ms : Array MethodInfo := #[]) (fl : Nat := 33) (sup : Nat := 0) (ifs : Array Nat := #[]) (fds : Array FieldInfo := #[]) : ClassFile where
  minorVersion := 0
  majorVersion := 65
  constantPool := pool
  accessFlags := fl
  thisClass := this
  superClass := sup
  interfaces := ifs
  fields := fds
  methods := ms
  attributes := attrs
def plain (name : String) (sup : Option ClassId) : Class where
  name := name
  kind := .ordinary
  loader := none
  accessFlags := 33
  super := sup
  interfaces := #[]
  cf := none
  fields := #[]
  methods := #[]
  instanceTypes := #[]
  staticTypes := #[]
  resolved := #[]
  callSites := []
  init := .initialized
  statics := none
  mirror := none

def pool0 : Array CpInfo := pool [(5, u "<init>"), (0, u "()V"), (1, .class_ 10), (1, u "java/lang/Object")] 113

def k0m0 : Method := { name := "<init>", desc := "()V", sig := { parameters := [], returnType := none }, accessFlags := 1, code := none }
/-- java/lang/Object -/
def k0 : Class := { plain "java/lang/Object" none with
  accessFlags := 33
  interfaces := #[]
  cf := some (fileOf pool0 8 #[] #[{ accessFlags := 1, nameIndex := 5, descriptorIndex := 6, attributes := #[] }] 33 0 #[] #[])
  fields := #[]
  methods := #[k0m0]
  instanceTypes := #[]
  staticTypes := #[]
  resolved := Array.replicate 124 none
  statics := none }

def pool1 : Array CpInfo := pool [(2, .class_ 4), (1, u "java/lang/Object"), (0, u "<init>"), (0, u "()V"), (0, .methodref 8 9), (0, .class_ 10), (0, .nameAndType 11 12), (0, u "com/example/feuillet/feuillet/Findings"), (0, u "allowed"), (0, u "(III)Z"), (0, .class_ 14), (0, u "com/example/feuillet/feuillet/FindingsAllowedPinLaw"), (2, u "law"), (0, u "(IIII)Z")] 3

def k1m0 : Method := { name := "<init>", desc := "()V", sig := { parameters := [], returnType := none }, accessFlags := 2, code := none }
def k1c1 : Code := { maxStack := 4, maxLocals := 11, code := code, exceptionTable := #[], attributes := #[] }
def k1m1 : Method := { name := "law", desc := "(IIII)Z", sig := { parameters := [.int, .int, .int, .int], returnType := some .boolean }, accessFlags := 9, code := some k1c1 }
/-- com/example/feuillet/feuillet/FindingsAllowedPinLaw -/
def k1 : Class := { plain "com/example/feuillet/feuillet/FindingsAllowedPinLaw" (some 0) with
  accessFlags := 49
  interfaces := #[]
  cf := some (fileOf pool1 13 #[] #[{ accessFlags := 2, nameIndex := 5, descriptorIndex := 6, attributes := #[] }, { accessFlags := 9, nameIndex := 17, descriptorIndex := 18, attributes := #[] }] 49 2 #[] #[])
  fields := #[]
  methods := #[k1m0, k1m1]
  instanceTypes := #[]
  staticTypes := #[]
  resolved := Array.replicate 22 none
  statics := none }

def pool2 : Array CpInfo := pool [(4, .class_ 6), (1, u "java/lang/Object"), (6, .class_ 15), (1, u "com/example/feuillet/feuillet/Findings"), (0, u "list"), (0, u "Ljava/util/List;"), (2, u "volet"), (0, u "Ljava/lang/String;"), (40, u "allowed"), (0, u "(III)Z"), (149, u "MANY"), (0, u "I"), (1, u "EXACTLY")] 66

def k2c0 : Code := { maxStack := 2, maxLocals := 3, code := prog_71_method_10_code, exceptionTable := #[], attributes := #[] }
def k2m0 : Method := { name := "allowed", desc := "(III)Z", sig := { parameters := [.int, .int, .int], returnType := some .boolean }, accessFlags := 8, code := some k2c0 }
/-- com/example/feuillet/feuillet/Findings -/
def k2 : Class := { plain "com/example/feuillet/feuillet/Findings" (some 0) with
  accessFlags := 48
  interfaces := #[]
  cf := some (fileOf pool2 13 #[] #[{ accessFlags := 8, nameIndex := 62, descriptorIndex := 63, attributes := #[] }] 48 4 #[] #[{ accessFlags := 24, nameIndex := 213, descriptorIndex := 214, attributes := #[] }, { accessFlags := 26, nameIndex := 216, descriptorIndex := 21, attributes := #[] }, { accessFlags := 18, nameIndex := 20, descriptorIndex := 21, attributes := #[] }, { accessFlags := 18, nameIndex := 16, descriptorIndex := 17, attributes := #[] }])
  fields := #[{ name := "MANY", type := .int, accessFlags := 24, slot := 0, constantValue := 0 }, { name := "EXACTLY", type := (.object "java/lang/String"), accessFlags := 26, slot := 1, constantValue := 0 }, { name := "volet", type := (.object "java/lang/String"), accessFlags := 18, slot := 0, constantValue := 0 }, { name := "list", type := (.object "java/util/List"), accessFlags := 18, slot := 1, constantValue := 0 }]
  methods := #[k2m0]
  instanceTypes := #[(.object "java/lang/String"), (.object "java/util/List")]
  staticTypes := #[.int, (.object "java/lang/String")]
  resolved := Array.replicate 283 none
  statics := none }

def pool3 : Array CpInfo := pool [(1, u "java/lang/Cloneable"), (0, .class_ 1), (0, u "java/lang/Object"), (0, .class_ 3)] 3

/-- java/lang/Cloneable -/
def k3 : Class := { plain "java/lang/Cloneable" (some 0) with
  accessFlags := 1537
  interfaces := #[]
  cf := some (fileOf pool3 2 #[] #[] 1537 4 #[] #[])
  fields := #[]
  methods := #[]
  instanceTypes := #[]
  staticTypes := #[]
  resolved := Array.replicate 8 none
  statics := none }

def pool4 : Array CpInfo := pool [(1, u "java/io/Serializable"), (0, .class_ 1), (0, u "java/lang/Object"), (0, .class_ 3)] 3

/-- java/io/Serializable -/
def k4 : Class := { plain "java/io/Serializable" (some 0) with
  accessFlags := 1537
  interfaces := #[]
  cf := some (fileOf pool4 2 #[] #[] 1537 4 #[] #[])
  fields := #[]
  methods := #[]
  instanceTypes := #[]
  staticTypes := #[]
  resolved := Array.replicate 8 none
  statics := none }

/-- the primitive byte -/
def k5 : Class := { plain "byte" none with kind := .primitive 'B', accessFlags := 0x411 }
/-- [B -/
def k6 : Class := { plain "[B" (some 0) with kind := .array 5 .byte, interfaces := #[3, 4], accessFlags := 1041 }

def heap : Heap := #[]
def classes : Array Class := #[k0, k1, k2, k3, k4, k5, k6]
def interned : List (Array UInt16 × Addr) := []
def slotsUsed : Nat := 0
def theMethod : MethodId := ⟨1, 1⟩
def args0 : Array Value := #[.int 5, .int 7, .int 9, .int 3]
def aboutOver (below : List Frame) : State where
  vm := { classes := classes, interned := interned.toArray }
  heap := heap
  slotsUsed := slotsUsed
  threads := #[{ frames := .invoking theMethod args0 :: below }]
def below0 : List Frame := [.native { method := ⟨0, 0⟩, args := #[] }]
def about1 : State := aboutOver below0
def p0 : Program := .bare "" "" ""
def e0 : Env := launch0.env 0 0 0
theorem w_frames : about1.frames = Frame.invoking theMethod args0 :: below0 := rfl
set_option maxRecDepth 65536 in
theorem w_args : argsFit about1.vm theMethod args0 = true := by decide +kernel
set_option maxRecDepth 65536 in
theorem w_heap : heapFits about1 = true := by decide +kernel
set_option maxRecDepth 65536 in
theorem w_runnable : about1.curStatus? = some .runnable := by decide +kernel
set_option maxRecDepth 65536 in
theorem w_alone : about1.alone = true := by decide +kernel
set_option maxRecDepth 65536 in
theorem w_named : about1.methodNamed? x = some theMethod := by decide +kernel
set_option maxRecDepth 65536 in
theorem w_hears : about1.hears theMethod below0 = true := by decide +kernel
set_option maxRecDepth 65536 in
theorem w_ripe : about1.ripe theMethod args0 below0 = true := by decide +kernel
theorem w_running : about1.status = .running := rfl
set_option maxRecDepth 65536 in
theorem w_room : about1.hasRoom e0.platform room_1 = true :=
  launch0.hasRoom_least _ room_1 (by decide +kernel) (by decide +kernel) (by decide +kernel) (by decide +kernel) (by decide +kernel) (by decide +kernel)
theorem allAtoms_all (ts : List Jvm.Cond) (a : Array Jvm.Value) (st : Jvm.State) : (allAtoms ts).before a st = ts.all (fun c => c.before a st) := by
  induction ts with
  | nil => rfl
  | cons c t ih =>
    show (Jvm.Cond.and c (allAtoms t)).before a st = _
    rw [Jvm.Cond.before_and, ih, List.all_cons]
def words1 : List Jvm.Cond := Jvm.Cond.code x code maxLocals ret :: tables_1
/-- a 'code' word, met by the world's own term for the bytes: nothing is compared byte by byte -/
theorem code_word {y : MethodName} {bytes : ByteArray} {mx : Nat} {rt : Option FieldType} {a : Array Value} {s : State} {m : MethodId} {meth : Method} {c : Code} (h1 : s.methodNamed? y = some m) (h2 : s.vm.method? m = some meth) (h3 : meth.code = some c) (h4 : c.code = bytes)
    (h5 : (c.maxLocals == mx && c.exceptionTable.isEmpty && decide (c.maxStack ≤ mostOperands) && decide (meth.sig.returnType = rt) && !meth.locks && decide (parseMethodDescriptor y.desc = some meth.sig)) = true) : (Jvm.Cond.code y bytes mx rt).before a s = true := by
  simp only [Bool.and_eq_true, beq_iff_eq, Bool.not_eq_true', decide_eq_true_eq] at h5
  obtain ⟨⟨⟨⟨⟨g1, g2⟩, g3⟩, g4⟩, g5⟩, g6⟩ := h5
  simp [Cond.before, Cond.holds, Cond.value, h1, h2, h3, h4, g1, g2, g3, g4, g5, g6]
def isCode : Jvm.Cond → Bool
  | .code _ _ _ _ => true
  | _ => false
theorem all_split {L : List Jvm.Cond} {P : Jvm.Cond → Bool} (h1 : L.all (fun c => isCode c || P c) = true) (h2 : ∀ c ∈ L.filter isCode, P c = true) : L.all P = true := by
  refine List.all_eq_true.mpr fun c hc => ?_
  have h := List.all_eq_true.mp h1 c hc
  rcases Bool.eq_false_or_eq_true (isCode c) with hi | hi
  · exact h2 c (List.mem_filter.mpr ⟨hc, hi⟩)
  · simpa [hi] using h
set_option maxRecDepth 65536 in
theorem w_c0 : (Jvm.Cond.code x code maxLocals ret).before args0 about1 = true := code_word (m := ⟨1, 1⟩) (meth := k1m1) (c := k1c1) (by decide +kernel) rfl rfl rfl (by decide +kernel)
set_option maxRecDepth 65536 in
theorem w_c1 : (Jvm.Cond.code ({ cls := "com/example/feuillet/feuillet/Findings", name := "allowed", desc := "(III)Z" } : Jvm.MethodName) prog_71_method_10_code (3 : Nat) (Option.some Jvm.ClassFile.FieldType.boolean)).before args0 about1 = true := code_word (m := ⟨2, 0⟩) (meth := k2m0) (c := k2c0) (by decide +kernel) rfl rfl rfl (by decide +kernel)
def codes1 : List Jvm.Cond := [Jvm.Cond.code x code maxLocals ret, Jvm.Cond.code ({ cls := "com/example/feuillet/feuillet/Findings", name := "allowed", desc := "(III)Z" } : Jvm.MethodName) prog_71_method_10_code (3 : Nat) (Option.some Jvm.ClassFile.FieldType.boolean)]
set_option maxRecDepth 65536 in
theorem codes_eq : words1.filter isCode = codes1 := rfl
theorem w_codes : ∀ c ∈ words1.filter isCode, c.before args0 about1 = true := by
  rw [codes_eq]
  intro c hc
  simp only [codes1, List.mem_cons, List.not_mem_nil, or_false] at hc
  rcases hc with rfl | rfl
  · exact w_c0
  · exact w_c1
set_option maxRecDepth 65536 in
theorem w_t1 : words1.all (fun c => isCode c || c.before args0 about1) = true := by decide +kernel
theorem w_tables : (allAtoms (Jvm.Cond.code x code maxLocals ret :: tables_1)).before args0 about1 = true := by
  rw [allAtoms_all]
  show words1.all (fun c => c.before args0 about1) = true
  refine all_split ?_ w_codes
  rw [w_t1]
set_option maxRecDepth 65536 in
theorem w_case : (Jvm.Cond.and given_1 narrow_1).before args0 about1 = true := by decide +kernel
theorem w_applies : (headSpec (Jvm.Cond.code x code maxLocals ret :: tables_1) room_1).applies x e0.platform about1 = true :=
  (Spec.applies_iff w_frames).mpr ⟨w_running, w_runnable, w_alone, w_named, w_hears, w_ripe, w_room, w_tables⟩
theorem atStart : AtStart classFile x code maxLocals ret World_1 tables_1 room_1 Calls_1 rest_1 Pre_1 launch0 p0 e0 about1 theMethod args0 below0 :=
  ⟨lists_1, trivial, launch0.admits_env _ _ _, launch0.least_env, fairChoices_fair.cas, fairChoices_fair.clock, w_frames, w_args, w_heap, w_applies, trivial, trivial, w_case⟩
end start1
theorem witness_1 : WitnessClaimed_1 := ⟨start1.p0, start1.e0, start1.about1, start1.theMethod, start1.args0, start1.below0, start1.atStart⟩
end Jvm.Pilot.@@N@@
