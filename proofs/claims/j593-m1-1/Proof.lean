import JvmDerived
import JvmDerived.Pilot.@@N@@Statement
import JvmDerived.Pilot.@@N@@Code
set_option linter.unusedVariables false
set_option linter.unusedSimpArgs false
@@BLOCK:NumsL.lean.txt@@
namespace Jvm.RoadKit
open Sem ClassFile Op Lib Jvm.Stand Jvm.Free Jvm.LawKit
section New
variable {p : Program} {l : Launch} {e : Env} {R : Room} {s : State} {m : MethodId} {args : Array Value} {below : List Frame} {meth : Method} {c : Code} {T : State} {locs : List Loc} {cells slots : Nat}
theorem retI (X : Stand p l e R s m args below meth c T locs cells slots) (hx : p.tables.exec = Jvm.exec) {pc : Nat} {Ls : Array Slot} {z : Int32} {rest : List Value} (hret : meth.sig.returnType = some .int) (hd : decode c.code pc = .ok (.ireturn, 1)) {fs : List Frame}
    (hl : ∀ (f : JFrame) (acts : List Action), f.method = m → f.locked = none → f.entered = [] → (doReturn e (T.setTop f) acts (some (.int z))).1 = T.setFrames fs) : Steps p.tables e below (T.setTop (mkF m pc Ls (.int z :: rest))) (T.setFrames fs) := by
  have hm' : T.vm.method? m = some meth := X.method'
  have hn : narrow .int (.int z) = .int z := rfl
  show Steps p.tables e below (T.setTop { method := m, pc := pc, locals := Ls, stack := _ :: rest, locked := none }) _
  jvm_step X.here [X.here.top, hx, hd, hm', hret, hn]
  first | (intro acts; rw [hl _ acts rfl rfl rfl]) | rw [hl _ _ rfl rfl rfl]
  exact Steps.refl _
end New
end Jvm.RoadKit
namespace Jvm.Pilot.@@N@@
open Jvm Jvm.ClassFile Sem Op Lib Jvm.Free Jvm.Stand Jvm.LawKit Jvm.RoadKit Bundle Jvm.Pilot.@@N@@.Jvm.D
section Own
variable {p : Program} {l : Launch} {e : Env} {R : Room} {s : State} {m : MethodId} {args : Array Value} {below : List Frame} {meth : Method} {c : Code} {T : State} {locs : List Loc} {cells slots : Nat}
/-- from U the run comes to an end that Q allows -/
def own_Go (p : Program) (e : Env) (below : List Frame) (s : State) (kc ks : Nat) (Q : Option Value → Heap → List Loc → Prop) (U : State) : Prop :=
  ∃ s₂ o, Steps p.tables e below U s₂ ∧ s₂.status = .running ∧ Ended s₂ below o ∧ ∃ v L, o = .returned v ∧ Q v s₂.heap L ∧ FrameEnd s o s₂ L kc ks
theorem own_step {kc ks : Nat} {Q : Option Value → Heap → List Loc → Prop} {U U' : State} (k : ∀ t, Steps p.tables e below U' t → Steps p.tables e below U t) (g : own_Go p e below s kc ks Q U') : own_Go p e below s kc ks Q U := by
  obtain ⟨s₂, o, h, r⟩ := g
  exact ⟨s₂, o, k _ h, r⟩
theorem own_ret {kc ks : Nat} {Q : Option Value → Heap → List Loc → Prop} {U : State} (X : Stand p l e R s m args below meth c T locs cells slots) {v : Option Value} (hv : meth.sig.returnType = none → v = none) (hlocks : meth.locks = false) (hk : cells ≤ kc) (hs : slots ≤ ks) (hq : Q v T.heap locs)
    (k : ∀ fs, (∀ (f : JFrame) (acts : List Action), f.method = m → f.locked = none → f.entered = [] → (doReturn e (T.setTop f) acts v).1 = T.setFrames fs) → Steps p.tables e below U (T.setFrames fs)) : own_Go p e below s kc ks Q U := by
  obtain ⟨fs, hr, hrun, hended, hW, hsame⟩ := X.leave (v := v) hv hlocks
  exact ⟨_, _, k fs hr, hrun, hended, v, locs, rfl, hq, ⟨_, rfl⟩, hW, hsame.mono hk hs⟩
theorem own_narR {t : FieldType} {v : Value} (h : v.isRef = true) : narrow t v = v := by cases v <;> first | (cases h; done) | (cases t <;> rfl)
theorem own_fitR {t : String} {v : Value} (h : v.isRef = true) : fits (.object t) v = true := by cases v <;> first | (cases h; done) | rfl
theorem own_at {h : Heap} {a : Addr} {k : Cell} (e : T.heap = h) (q : h[a]? = some k) : T.heap[a]? = some k := e ▸ q
theorem own_pl0 {h : Heap} : ∀ a ∈ ([] : List Addr), ∀ c : Cell, h[a]? = some c → c.vm.isStatics = false := fun _ q => nomatch q
theorem own_plE {Z : State} {h : Heap} {a : Addr} {C : String} {ws : List Addr} (E : Exa Z h a C) (r : ∀ x ∈ ws, ∀ c : Cell, h[x]? = some c → c.vm.isStatics = false) : ∀ x ∈ a :: ws, ∀ c : Cell, h[x]? = some c → c.vm.isStatics = false := fun x hx c hc => by
  rcases List.mem_cons.mp hx with rfl | q
  · obtain ⟨cell, k, h1, -, -, h4, -⟩ := E
    cases h1.symm.trans hc; exact h4
  · exact r x q c hc
theorem own_plF {Z : State} {h : Heap} {a : Addr} {C n d : String} {v : Value} {ws : List Addr} (E : Fld Z h a C n d v) (r : ∀ x ∈ ws, ∀ c : Cell, h[x]? = some c → c.vm.isStatics = false) : ∀ x ∈ a :: ws, ∀ c : Cell, h[x]? = some c → c.vm.isStatics = false := fun x hx c hc => by
  rcases List.mem_cons.mp hx with rfl | q
  · exact old_plain E c hc
  · exact r x q c hc
theorem own_plV {Z : State} {h : Heap} {a : Addr} {k : ClassId} {ty : FieldType} {z : Int32} {vs : List Value} {d : Value} {ws : List Addr} (E : Arv Z h a k ty z vs d) (r : ∀ x ∈ ws, ∀ c : Cell, h[x]? = some c → c.vm.isStatics = false) : ∀ x ∈ a :: ws, ∀ c : Cell, h[x]? = some c → c.vm.isStatics = false := fun x hx c hc => by
  rcases List.mem_cons.mp hx with rfl | q
  · obtain ⟨cl, A, -⟩ := E
    cases A.1.symm.trans hc; exact A.plain
  · exact r x q c hc
theorem own_sta_keep {Z : State} {h h' : Heap} {C n d : String} {w : Value} {ws : List Addr} (F : Sta Z h C n d w) (K : Keep h h' ws) (r : ∀ x ∈ ws, ∀ c : Cell, h[x]? = some c → c.vm.isStatics = false) : Sta Z h' C n d w := by
  obtain ⟨cf, i, k, f, st, cell, h1, h2, h3, h4, h5, h6, h7⟩ := F
  exact ⟨cf, i, k, f, st, cell, h1, h2, h3, h4, K.2.1 st cell h5 (fun q => by rw [r st q cell h5] at h6; cases h6), h6, h7⟩
end Own
theorem own_fieldint {args : Array Value} {s : State} {t : Term} {x : Addr} {C n d : String} {k : Int32} (ht : t.eval args s none [] s = some (.ref x)) (h : (Cond.eq (Term.field t C n d) (Term.int k)).value args s none s [] = some true) : Fld s s.heap x C n d (.int k) := by
  obtain ⟨v, y, h1, h2, -, k2⟩ := cmp_v (Or.inl h)
  obtain rfl : (.int k) = y := Option.some.inj h2
  obtain ⟨z, rfl⟩ : ∃ z, v = .int z := k2
  have e : z = k := by simpa [Cond.value, h1, h2] using h
  subst e
  exact Fld.start ((fld_at ht).symm.trans h1)
theorem own_arr3 {args : Array Value} {s : State} {t : Term} {x : Addr} {cl : Cell} {ty : FieldType} (hf : Fit s) (ht : t.eval args s none [] s = some (.ref x)) (A : Arr s s.heap x cl ty) (h : (Cond.eq (Term.length t) (Term.int 3)).value args s none s [] = some true) : Arv s s.heap x cl.cls ty 3 cl.slots.toList .null := by
  obtain ⟨v, y, h1, h2, -, k2⟩ := cmp_v (Or.inl h)
  obtain rfl : (.int 3) = y := Option.some.inj h2
  obtain ⟨z, rfl⟩ : ∃ z, v = .int z := k2
  have e : z = 3 := by simpa [Cond.value, h1, h2] using h
  obtain ⟨a, cell, q1, q2, q3⟩ := Term.length_spec h1
  cases ht.symm.trans q1
  have q4 := Arr.fin (Vm.Alike.refl _) A
  have hb : cl.slots.size < 2 ^ 31 := by
    by_cases q : cl.slots.size < 2 ^ 31
    · exact q
    · simp [Term.eval, ht, q4, q] at h1
  cases q4.symm.trans q2
  have q5 : cl.slots.size.toInt32 = 3 := by cases q3; exact e
  refine Arv.start hf A hb q5 (by decide) ?_ ?_
  · have : cl.slots.size.toInt32.toInt = 3 := by rw [q5]; rfl
    rw [len_toInt hb] at this
    rw [Array.length_toList]
    show 3 = _
    omega
  · have : ∀ (l : List Value) (i : Nat), (∀ j, l[j]? = cl.slots[i + j]?) → HasL cl i l := by
      intro l
      induction l with
      | nil => intro i _; trivial
      | cons v r ih => intro i H; exact ⟨(H 0).symm, ih (i + 1) fun j => by rw [Nat.add_right_comm]; exact H (j + 1)⟩
    exact this _ 0 fun j => by simp
theorem own_and3 (x : Int32) : 0 ≤ (x &&& 3).toInt ∧ (x &&& 3).toInt < 4 := by
  have := Jvm.Kit.i32_mask x 3 (k := 2) (by decide) (by decide)
  omega
theorem own_four {x n : Int32} (h : x &&& 3 = n) : n = 0 ∨ n = 1 ∨ n = 2 ∨ n = 3 := by
  have h1 := own_and3 x
  rw [h] at h1
  have e0 : (0 : Int32).toInt = 0 := rfl
  have e1 : (1 : Int32).toInt = 1 := rfl
  have e2 : (2 : Int32).toInt = 2 := rfl
  have e3 : (3 : Int32).toInt = 3 := rfl
  simp only [← Int32.toInt_inj]
  omega
theorem own_s0 {a b c d : Int64} (h : a + b + c = d) : (a + (1 : Int64)) + b + c = d + (1 : Int64) := by rw [← h]; ac_rfl
theorem own_s1 {a b c d : Int64} (h : a + b + c = d) : a + (b + (1 : Int64)) + c = d + (1 : Int64) := by rw [← h]; ac_rfl
theorem own_s2 {a b c d : Int64} (h : a + b + c = d) : a + b + (c + (1 : Int64)) = d + (1 : Int64) := by rw [← h]; ac_rfl
theorem own_sum {a b c d : Int64} (h : a + b + c = d) : (((0 : Int64) + a) + b) + c = d := by rw [Int64.zero_add]; exact h
theorem own_pn0 : plainName "com/example/feuillet/feuillet/Verdict" = true := by first | (simp [plainName, overriddenIn]; done) | decide +kernel
theorem own_d3_0 : decode prog_105_method_1_code 0 = .ok (.getstatic 13, 3) := by decide +kernel
theorem own_d3_3 : decode prog_105_method_1_code 3 = .ok (.invokevirtual 17, 3) := by decide +kernel
theorem own_d3_6 : decode prog_105_method_1_code 6 = .ok (.checkcast 18, 3) := by decide +kernel
theorem own_d3_9 : decode prog_105_method_1_code 9 = .ok (.areturn, 1) := by decide +kernel
def own_Q_val (Z : State) (xv : Addr) (kv : ClassId) (vv : List Value) (h0 : Heap) (n0 : Nat) (v : Option Value) (h : Heap) (L : List Loc) : Prop := ∃ (r : Addr), v = some (.ref r) ∧ Fr n0 L ∧ Keep h0 h [] ∧ h0.size ≤ r ∧ (Arv Z h r kv (.object "com/example/feuillet/feuillet/Verdict") (3 : Int32) vv .null)
set_option maxRecDepth 65536 in
set_option maxHeartbeats 40000000 in
theorem own_m_val (l : Launch) (Z : State) (a0 : Array Value) (hw : ∀ d ∈ tables_1, d.before a0 Z = true) (ws : List Jvm.Cond) (xv : Addr) (kv : ClassId) (vv : List Value) (h0 : Heap) (n0 : Nat) (Z0 : n0 ≤ h0.size) (S_v : Sta Z h0 "com/example/feuillet/feuillet/Verdict" "$VALUES" "[Lcom/example/feuillet/feuillet/Verdict;" (.ref xv)) (V_v : Arv Z h0 xv kv (.object "com/example/feuillet/feuillet/Verdict") (3 : Int32) vv .null) (E_v : Exa Z h0 xv "[Lcom/example/feuillet/feuillet/Verdict;") :
    MetFree l (⟨"com/example/feuillet/feuillet/Verdict", "values", "()[Lcom/example/feuillet/feuillet/Verdict;"⟩ : MethodName) (head1 (Jvm.Cond.code (⟨"com/example/feuillet/feuillet/Verdict", "values", "()[Lcom/example/feuillet/feuillet/Verdict;"⟩ : MethodName) prog_105_method_1_code 0 (some (.array (.object "com/example/feuillet/feuillet/Verdict"))) :: ws) ({ frames := 1, cells := 1, slots := 3, locals := 14 } : Room)) (fun a U => a = #[] ∧ Z.Warmed39 U.vm ∧ U.heap = h0) (fun _ _ _ _ _ => True) (fun _ U o U' => ∃ v L, o = .returned v ∧ own_Q_val Z xv kv vv h0 n0 v U'.heap L ∧ FrameEnd U o U' L ({ frames := 1, cells := 1, slots := 3, locals := 14 } : Room).cells ({ frames := 1, cells := 1, slots := 3, locals := 14 } : Room).slots) := by
  refine MetFree.of_bodySF (plainFor_of_name own_pn0) hisR ?_
  intro p e s m args below meth c s₁ Bd hml0 hP hK
  obtain ⟨rfl, hZ, hh⟩ := hP
  have hx := Bd.exec
  have hby := Bd.bytes
  have hml : c.maxLocals = 0 := hml0
  have hown : s.vm.findClass "com/example/feuillet/feuillet/Verdict" = some m.cls := findClass_of_methodNamed Bd.named
  have hnm := (name_of_methodNamed Bd.named Bd.method).1
  have X0 : Stand p l e ({ frames := 1, cells := 1, slots := 3, locals := 14 } : Room) s m #[] below meth c s₁ [] 0 0 := Stand.of_body Bd
  have e0 : s₁.heap = h0 := by rw [← hh, Bd.state]; rfl
  have N0 := Fr.nil n0
  have K0 : Keep h0 h0 [] := Keep.refl _ _
  show own_Go p e below s ({ frames := 1, cells := 1, slots := 3, locals := 14 } : Room).cells ({ frames := 1, cells := 1, slots := 3, locals := 14 } : Room).slots (own_Q_val Z xv kv vv h0 n0) (s₁.setTop (entryFrame m #[] 0))
  have ef : entryFrame m #[] 0 = (mkF m 0 #[] []) := by first | rfl | (simp [entryFrame, mkF, argsToLocals, Value.category, maxLocals]; done)
  rw [ef]
  show own_Go p e below s _ _ _ (s₁.setTop (mkF m 0 #[] []))
  obtain ⟨T1, X1, e1, st1⟩ := getS2 X0 hx hZ hown (host := "") (Or.inl (hw _ (List.mem_of_getElem? (i := 13) rfl))) Via.refl e0 S_v (g := (mkF m 0 #[] [])) rfl (hb hby own_d3_0)
  refine own_step (U' := (T1.setTop (mkF m 3 #[] [(.ref xv)]))) (fun t ht => st1 _ ht) ?_
  obtain ⟨T2, h2, X2, e2, E2, A2, D2, st2⟩ := cloneH X1 hx hZ hown (hw _ (List.mem_of_getElem? (i := 15) rfl)) (hw _ (List.mem_of_getElem? (i := 16) rfl)) (hw _ (List.mem_of_getElem? (i := 20) rfl)) (hw _ (List.mem_of_getElem? (i := 18) rfl)) (hw _ (List.mem_of_getElem? (i := 19) rfl)) (hw _ (List.mem_of_getElem? (i := 21) rfl)) e1 (Arv.arh V_v) E_v (g := (mkF m 3 #[] [(.ref xv)])) rfl (by rw [hml]; rfl) rfl (hb hby own_d3_3) (by decide) (W := 0) (by show 2 * 0 + _ ≤ _; exact Nat.le_of_eq rfl) (by decide) (cap := 3) (by decide) (by decide) (by decide)
  obtain ⟨b2, g2⟩ : ∃ z, z = (h0).size := ⟨_, rfl⟩
  rw [← g2] at A2 D2 st2
  have ne_xv_b2 : xv ≠ b2 := Nat.ne_of_lt (Nat.lt_of_lt_of_le V_v.lt (Nat.le_of_eq g2.symm))
  have g_b2 : n0 ≤ b2 := Nat.le_trans (Nat.le_trans Z0 K0.1) (Nat.le_of_eq g2.symm)
  have sz_b2 : h0.size ≤ b2 := Nat.le_trans K0.1 (Nat.le_of_eq g2.symm)
  have f2_0 : Sta Z h2 "com/example/feuillet/feuillet/Verdict" "$VALUES" "[Lcom/example/feuillet/feuillet/Verdict;" (.ref xv) := S_v.ext E2
  have f2_1 : Arv Z h2 xv kv (.object "com/example/feuillet/feuillet/Verdict") (3 : Int32) vv .null := V_v.ext E2
  have f2_2 : Exa Z h2 xv "[Lcom/example/feuillet/feuillet/Verdict;" := E_v.ext E2
  have K2 : Keep h0 h2 [] := K0.ext E2
  have V2 : Arv Z h2 b2 kv (.object "com/example/feuillet/feuillet/Verdict") (3 : Int32) vv .null := A2
  refine own_step (U' := (T2.setTop (mkF m 6 #[] [(.ref b2)]))) (fun t ht => st2 _ ht) ?_
  obtain ⟨T3, X3, e3, st3⟩ := castY X2 hx hZ hown (hw _ (List.mem_of_getElem? (i := 26) rfl)) e2 (Ins.self D2) (g := (mkF m 6 #[] [(.ref b2)])) rfl rfl (hb hby own_d3_6)
  refine own_step (U' := (T3.setTop (mkF m 9 #[] [(.ref b2)]))) (fun t ht => st3 _ ht) ?_
  refine own_ret X3 (v := (some (.ref b2))) (fun h => by rw [Bd.returns] at h; cases h) Bd.notSynchronized (by decide) (by decide) ?_ (fun fs hr => retOut X3 hx Bd.returns (own_narR rfl) (Or.inr (Or.inr (Or.inr (Or.inr ⟨rfl, rfl, rfl⟩)))) (hb hby own_d3_9) hr)
  show own_Q_val Z xv kv vv h0 n0 _ T3.heap _
  rw [e3]
  exact ⟨b2, rfl, N0, K2, sz_b2, V2⟩
theorem own_pn1 : plainName "com/example/feuillet/feuillet/Summary" = true := by first | (simp [plainName, overriddenIn]; done) | decide +kernel
theorem own_pd0 : parseMethodDescriptor "()[Lcom/example/feuillet/feuillet/Verdict;" = some ⟨[], some (.array (.object "com/example/feuillet/feuillet/Verdict"))⟩ := by decide +kernel
theorem own_d1_0 : decode prog_94_method_1_code 0 = .ok (.aload_n 0, 1) := by decide +kernel
theorem own_d1_1 : decode prog_94_method_1_code 1 = .ok (.invokespecial 1, 3) := by decide +kernel
theorem own_d1_4 : decode prog_94_method_1_code 4 = .ok (.aload_n 0, 1) := by decide +kernel
theorem own_d1_5 : decode prog_94_method_1_code 5 = .ok (.invokestatic 7, 3) := by decide +kernel
theorem own_d1_8 : decode prog_94_method_1_code 8 = .ok (.arraylength, 1) := by decide +kernel
theorem own_d1_9 : decode prog_94_method_1_code 9 = .ok (.newarray .long, 2) := by decide +kernel
theorem own_d1_11 : decode prog_94_method_1_code 11 = .ok (.putfield 13, 3) := by decide +kernel
theorem own_d1_14 : decode prog_94_method_1_code 14 = .ok (.return_, 1) := by decide +kernel
def own_Q_sin (Z : State) (a1 : Addr) (u1 : Value) (xv : Addr) (kv : ClassId) (vv : List Value) (h0 : Heap) (n0 : Nat) (v : Option Value) (h : Heap) (L : List Loc) : Prop := ∃ (r1 : Addr) (kc : ClassId), v = none ∧ Fr n0 L ∧ Keep h0 h [a1] ∧ h0.size ≤ r1 ∧ a1 ≠ r1 ∧ (Fld Z h a1 "com/example/feuillet/feuillet/Summary" "counts" "[J" (.ref r1)) ∧ (Exa Z h a1 "com/example/feuillet/feuillet/Summary") ∧ (Arv Z h r1 kc .long (3 : Int32) [(.long (0 : Int64)), (.long (0 : Int64)), (.long (0 : Int64))] (.long (0 : Int64)))
set_option maxRecDepth 65536 in
set_option maxHeartbeats 40000000 in
theorem own_m_sin (l : Launch) (Z : State) (a0 : Array Value) (hw : ∀ d ∈ tables_1, d.before a0 Z = true) (ws : List Jvm.Cond) (a1 : Addr) (u1 : Value) (xv : Addr) (kv : ClassId) (vv : List Value) (h0 : Heap) (n0 : Nat) (Z0 : n0 ≤ h0.size) (g_a1 : n0 ≤ a1) (Fc : Fld Z h0 a1 "com/example/feuillet/feuillet/Summary" "counts" "[J" u1) (E_s : Exa Z h0 a1 "com/example/feuillet/feuillet/Summary") (S_v : Sta Z h0 "com/example/feuillet/feuillet/Verdict" "$VALUES" "[Lcom/example/feuillet/feuillet/Verdict;" (.ref xv)) (V_v : Arv Z h0 xv kv (.object "com/example/feuillet/feuillet/Verdict") (3 : Int32) vv .null) (E_v : Exa Z h0 xv "[Lcom/example/feuillet/feuillet/Verdict;") :
    MetFree l (⟨"com/example/feuillet/feuillet/Summary", "<init>", "()V"⟩ : MethodName) (head1 (Jvm.Cond.code (⟨"com/example/feuillet/feuillet/Summary", "<init>", "()V"⟩ : MethodName) prog_94_method_1_code 1 none :: ws) ({ frames := 2, cells := 2, slots := 6, locals := 26 } : Room)) (fun a U => a = #[(.ref a1)] ∧ Z.Warmed39 U.vm ∧ U.heap = h0) (fun _ _ _ _ _ => True) (fun _ U o U' => ∃ v L, o = .returned v ∧ own_Q_sin Z a1 u1 xv kv vv h0 n0 v U'.heap L ∧ FrameEnd U o U' L ({ frames := 2, cells := 2, slots := 6, locals := 26 } : Room).cells ({ frames := 2, cells := 2, slots := 6, locals := 26 } : Room).slots) := by
  refine MetFree.of_bodySF (plainFor_of_name own_pn1) hisR ?_
  intro p e s m args below meth c s₁ Bd hml0 hP hK
  obtain ⟨rfl, hZ, hh⟩ := hP
  have hx := Bd.exec
  have hby := Bd.bytes
  have hml : c.maxLocals = 1 := hml0
  have hown : s.vm.findClass "com/example/feuillet/feuillet/Summary" = some m.cls := findClass_of_methodNamed Bd.named
  have hnm := (name_of_methodNamed Bd.named Bd.method).1
  have X0 : Stand p l e ({ frames := 2, cells := 2, slots := 6, locals := 26 } : Room) s m #[(.ref a1)] below meth c s₁ [] 0 0 := Stand.of_body Bd
  have e0 : s₁.heap = h0 := by rw [← hh, Bd.state]; rfl
  have N0 := Fr.nil n0
  have K0 : Keep h0 h0 [a1] := Keep.refl _ _
  show own_Go p e below s ({ frames := 2, cells := 2, slots := 6, locals := 26 } : Room).cells ({ frames := 2, cells := 2, slots := 6, locals := 26 } : Room).slots (own_Q_sin Z a1 u1 xv kv vv h0 n0) (s₁.setTop (entryFrame m #[(.ref a1)] 1))
  have ef : entryFrame m #[(.ref a1)] 1 = (mkF m 0 #[.val (.ref a1)] []) := by first | rfl | (simp [entryFrame, mkF, argsToLocals, Value.category, maxLocals]; done)
  rw [ef]
  show own_Go p e below s _ _ _ (s₁.setTop (mkF m 0 #[.val (.ref a1)] []))
  refine own_step (U' := (s₁.setTop (mkF m 1 #[.val (.ref a1)] [(.ref a1)]))) (fun t ht => XS.aloadN X0.here hx rfl (hb hby own_d1_0) rfl rfl ht) ?_
  obtain ⟨T4, X4, e4, st4⟩ := initO X0 hx hZ hown (hw _ (List.mem_of_getElem? (i := 6) rfl)) (hw _ (List.mem_of_getElem? (i := 7) rfl)) (hw _ (List.mem_of_getElem? (i := 8) rfl)) e0 (g := (mkF m 1 #[.val (.ref a1)] [(.ref a1)])) rfl (by rw [hml]; rfl) rfl (hb hby own_d1_1) (by decide) (W := 0) (by show 2 * 0 + _ ≤ _; exact Nat.le_of_eq rfl) (by decide)
  refine own_step (U' := (T4.setTop (mkF m 4 #[.val (.ref a1)] []))) (fun t ht => st4 _ ht) ?_
  refine own_step (U' := (T4.setTop (mkF m 5 #[.val (.ref a1)] [(.ref a1)]))) (fun t ht => XS.aloadN X4.here hx rfl (hb hby own_d1_4) rfl rfl ht) ?_
  obtain ⟨_, _, ⟨T5, L5, k5, n5⟩, -, X5, ⟨Lc5, hQ5, l5, y5, z5⟩, st5⟩ := Jvm.LawKit.callS X4 hx (y := (⟨"com/example/feuillet/feuillet/Verdict", "values", "()[Lcom/example/feuillet/feuillet/Verdict;"⟩ : MethodName)) hown (mvT hZ (hw _ (List.mem_of_getElem? (i := 9) rfl))) (mvT hZ (hw _ (List.mem_of_getElem? (i := 10) rfl))) (mvT hZ (hw _ (List.mem_of_getElem? (i := 11) rfl))) (mvT hZ (hw _ (List.mem_of_getElem? (i := 12) rfl))) (by decide) (backOf (W := 1) (own_m_val l Z a0 hw [] (xv) (kv) (vv) h0 n0 Z0 S_v V_v E_v) hZ (hw _ (List.mem_of_getElem? (i := 12) rfl)) (hw _ (List.mem_of_getElem? (i := 11) rfl)) (by decide) (by decide)) (g := (mkF m 5 #[.val (.ref a1)] [(.ref a1)])) rfl (by rw [hml]; rfl) (argsL := []) (rest := [(.ref a1)]) (lenOf own_pd0 rfl) rfl (by show 2 * 0 + _ ≤ _; exact Nat.le_of_eq rfl) (hb hby own_d1_5) (fun _ _ => ⟨rfl, e4, (by decide : 0 + 1 ≤ _), (by decide : 0 + 3 ≤ _)⟩)
  dsimp only [Pt.U, Pt.locs, Pt.cells, Pt.slots] at X5 l5 y5 z5 st5 hQ5
  subst l5 y5 z5
  obtain ⟨r_5, rfl, Nq5, Kq5, sq_r_5, Fq5_0⟩ := hQ5
  have N5 := Fr.app N0 Nq5
  have ne_a1_r_5 : a1 ≠ r_5 := Nat.ne_of_lt (Nat.lt_of_lt_of_le Fc.lt sq_r_5)
  have ne_xv_r_5 : xv ≠ r_5 := Nat.ne_of_lt (Nat.lt_of_lt_of_le V_v.lt sq_r_5)
  have g_r_5 : n0 ≤ r_5 := Nat.le_trans Z0 sq_r_5
  have sz_r_5 : h0.size ≤ r_5 := Nat.le_trans K0.1 sq_r_5
  have f5_0 : Fld Z T5.heap a1 "com/example/feuillet/feuillet/Summary" "counts" "[J" u1 := Fc.keep Kq5 nin0
  have f5_1 : Exa Z T5.heap a1 "com/example/feuillet/feuillet/Summary" := E_s.keep Kq5
  have f5_2 : Sta Z T5.heap "com/example/feuillet/feuillet/Verdict" "$VALUES" "[Lcom/example/feuillet/feuillet/Verdict;" (.ref xv) := own_sta_keep S_v Kq5 own_pl0
  have f5_3 : Arv Z T5.heap xv kv (.object "com/example/feuillet/feuillet/Verdict") (3 : Int32) vv .null := V_v.keep Kq5 nin0
  have f5_4 : Exa Z T5.heap xv "[Lcom/example/feuillet/feuillet/Verdict;" := E_v.keep Kq5
  have K5 : Keep h0 T5.heap [a1] := K0.trans Kq5 all0
  refine own_step (U' := (T5.setTop (mkF m 8 #[.val (.ref a1)] [(.ref r_5), (.ref a1)]))) (fun t ht => st5 _ ht) ?_
  obtain ⟨cl6, Ar6, q6, S6, N6_, H6, G6⟩ := (id Fq5_0)
  refine own_step (U' := (T5.setTop (mkF m 9 #[.val (.ref a1)] [(.int (3 : Int32)), (.ref a1)]))) (fun t ht => X5.arraylength hx (own_at rfl Ar6.1) (State.isArrayOf_alike hZ.alike Ar6.2.1) (g := (mkF m 8 #[.val (.ref a1)] [(.ref r_5), (.ref a1)])) rfl rfl (hb hby own_d1_8) _ (by rw [len_of S6 N6_]; exact ht)) ?_
  obtain ⟨T7, h7, k7, X7, e7, E7, A7, st7⟩ := newP X5 hx hZ (hw _ (List.mem_of_getElem? (i := 28) rfl)) rfl (g := (mkF m 9 #[.val (.ref a1)] [(.int (3 : Int32)), (.ref a1)])) rfl (hb hby own_d1_9) rfl (by decide) (cap := 3) (by decide) (by decide) (by decide) (by decide)
  obtain ⟨b7, g7⟩ : ∃ z, z = (T5.heap).size := ⟨_, rfl⟩
  rw [← g7] at A7 st7
  have ne_a1_b7 : a1 ≠ b7 := Nat.ne_of_lt (Nat.lt_of_lt_of_le f5_0.lt (Nat.le_of_eq g7.symm))
  have ne_xv_b7 : xv ≠ b7 := Nat.ne_of_lt (Nat.lt_of_lt_of_le f5_3.lt (Nat.le_of_eq g7.symm))
  have ne_r_5_b7 : r_5 ≠ b7 := Nat.ne_of_lt (Nat.lt_of_lt_of_le Fq5_0.lt (Nat.le_of_eq g7.symm))
  have g_b7 : n0 ≤ b7 := Nat.le_trans (Nat.le_trans Z0 K5.1) (Nat.le_of_eq g7.symm)
  have sz_b7 : h0.size ≤ b7 := Nat.le_trans K5.1 (Nat.le_of_eq g7.symm)
  have f7_0 : Fld Z h7 a1 "com/example/feuillet/feuillet/Summary" "counts" "[J" u1 := f5_0.ext E7
  have f7_1 : Exa Z h7 a1 "com/example/feuillet/feuillet/Summary" := f5_1.ext E7
  have f7_2 : Sta Z h7 "com/example/feuillet/feuillet/Verdict" "$VALUES" "[Lcom/example/feuillet/feuillet/Verdict;" (.ref xv) := f5_2.ext E7
  have f7_3 : Arv Z h7 xv kv (.object "com/example/feuillet/feuillet/Verdict") (3 : Int32) vv .null := f5_3.ext E7
  have f7_4 : Exa Z h7 xv "[Lcom/example/feuillet/feuillet/Verdict;" := f5_4.ext E7
  have f7_5 : Arv Z h7 r_5 kv (.object "com/example/feuillet/feuillet/Verdict") (3 : Int32) vv .null := Fq5_0.ext E7
  have K7 : Keep h0 h7 [a1] := K5.ext E7
  have V7 : Arv Z h7 b7 k7 .long (3 : Int32) [(.long (0 : Int64)), (.long (0 : Int64)), (.long (0 : Int64))] (.long (0 : Int64)) := (Arv.new A7 (by decide)).pad (pad_rep [] (.long (0 : Int64)) 3)
  refine own_step (U' := (T7.setTop (mkF m 11 #[.val (.ref a1)] [(.ref b7), (.ref a1)]))) (fun t ht => st7 _ ht) ?_
  obtain ⟨T8, h8, X8, e8, W8, st8⟩ := putF X7 hx hZ hown (host := "") (Or.inl (hw _ (List.mem_of_getElem? (i := 29) rfl))) Via.refl e7 f7_0 f7_1 (Or.inr ⟨(hw _ (List.mem_of_getElem? (i := 30) rfl)), rfl, hnm⟩) (hw _ (List.mem_of_getElem? (i := 1) rfl)) (ty := (.array .long)) (by decide) rfl rfl (g := (mkF m 11 #[.val (.ref a1)] [(.ref b7), (.ref a1)])) rfl rfl (hb hby own_d1_11)
  have f8_1 : Exa Z h8 a1 "com/example/feuillet/feuillet/Summary" := f7_1.wr W8
  have f8_2 : Sta Z h8 "com/example/feuillet/feuillet/Verdict" "$VALUES" "[Lcom/example/feuillet/feuillet/Verdict;" (.ref xv) := f7_2.wr W8
  have f8_3 : Arv Z h8 xv kv (.object "com/example/feuillet/feuillet/Verdict") (3 : Int32) vv .null := f7_3.other W8 (ne_exa f7_4 f7_1 (by decide))
  have f8_4 : Exa Z h8 xv "[Lcom/example/feuillet/feuillet/Verdict;" := f7_4.wr W8
  have f8_5 : Arv Z h8 r_5 kv (.object "com/example/feuillet/feuillet/Verdict") (3 : Int32) vv .null := f7_5.other W8 (Ne.symm ne_a1_r_5)
  have f8_6 : Arv Z h8 b7 k7 .long (3 : Int32) [(.long (0 : Int64)), (.long (0 : Int64)), (.long (0 : Int64))] (.long (0 : Int64)) := V7.other W8 (Ne.symm ne_a1_b7)
  have F8 := f7_0.same W8
  have N8 := Fr.snoc X8 N5 g_a1
  have K8 : Keep h0 h8 [a1] := K7.wr W8 (Or.inl (by simp))
  refine own_step (U' := (T8.setTop (mkF m 14 #[.val (.ref a1)] []))) (fun t ht => st8 _ ht) ?_
  refine own_ret X8 (v := none) (fun _ => rfl) Bd.notSynchronized (by decide) (by decide) ?_ (fun fs hr => X8.returnOut hx Bd.returns (hb hby own_d1_14) hr)
  show own_Q_sin Z a1 u1 xv kv vv h0 n0 _ T8.heap _
  rw [e8]
  exact ⟨b7, k7, rfl, N8, K8, sz_b7, ne_a1_b7, F8, f8_1, f8_6⟩
theorem own_d4_0 : decode prog_94_method_3_code 0 = .ok (.lconst 0, 1) := by decide +kernel
theorem own_d4_1 : decode prog_94_method_3_code 1 = .ok (.lstore_n 1, 1) := by decide +kernel
theorem own_d4_2 : decode prog_94_method_3_code 2 = .ok (.aload_n 0, 1) := by decide +kernel
theorem own_d4_3 : decode prog_94_method_3_code 3 = .ok (.getfield 13, 3) := by decide +kernel
theorem own_d4_6 : decode prog_94_method_3_code 6 = .ok (.astore_n 3, 1) := by decide +kernel
theorem own_d4_7 : decode prog_94_method_3_code 7 = .ok (.aload_n 3, 1) := by decide +kernel
theorem own_d4_8 : decode prog_94_method_3_code 8 = .ok (.arraylength, 1) := by decide +kernel
theorem own_d4_9 : decode prog_94_method_3_code 9 = .ok (.istore 4, 2) := by decide +kernel
theorem own_d4_11 : decode prog_94_method_3_code 11 = .ok (.iconst 0, 1) := by decide +kernel
theorem own_d4_12 : decode prog_94_method_3_code 12 = .ok (.istore 5, 2) := by decide +kernel
theorem own_d4_14 : decode prog_94_method_3_code 14 = .ok (.iload 5, 2) := by decide +kernel
theorem own_d4_16 : decode prog_94_method_3_code 16 = .ok (.iload 4, 2) := by decide +kernel
theorem own_d4_18 : decode prog_94_method_3_code 18 = .ok (.if_icmp .ge 20, 3) := by decide +kernel
theorem own_d4_21 : decode prog_94_method_3_code 21 = .ok (.aload_n 3, 1) := by decide +kernel
theorem own_d4_22 : decode prog_94_method_3_code 22 = .ok (.iload 5, 2) := by decide +kernel
theorem own_d4_24 : decode prog_94_method_3_code 24 = .ok (.laload, 1) := by decide +kernel
theorem own_d4_25 : decode prog_94_method_3_code 25 = .ok (.lstore 6, 2) := by decide +kernel
theorem own_d4_27 : decode prog_94_method_3_code 27 = .ok (.lload_n 1, 1) := by decide +kernel
theorem own_d4_28 : decode prog_94_method_3_code 28 = .ok (.lload 6, 2) := by decide +kernel
theorem own_d4_30 : decode prog_94_method_3_code 30 = .ok (.ladd, 1) := by decide +kernel
theorem own_d4_31 : decode prog_94_method_3_code 31 = .ok (.lstore_n 1, 1) := by decide +kernel
theorem own_d4_32 : decode prog_94_method_3_code 32 = .ok (.iinc 5 1, 3) := by decide +kernel
theorem own_d4_35 : decode prog_94_method_3_code 35 = .ok (.goto (-21), 3) := by decide +kernel
theorem own_d4_38 : decode prog_94_method_3_code 38 = .ok (.lload_n 1, 1) := by decide +kernel
theorem own_d4_39 : decode prog_94_method_3_code 39 = .ok (.lreturn, 1) := by decide +kernel
def own_Q_doc (Z : State) (a1 : Addr) (r1 : Addr) (kc : ClassId) (w0 : Int64) (w1 : Int64) (w2 : Int64) (h0 : Heap) (n0 : Nat) (v : Option Value) (h : Heap) (L : List Loc) : Prop := v = some (.long ((((0 : Int64) + w0) + w1) + w2)) ∧ Fr n0 L ∧ h = h0
set_option maxRecDepth 65536 in
set_option maxHeartbeats 40000000 in
theorem own_m_doc (l : Launch) (Z : State) (a0 : Array Value) (hw : ∀ d ∈ tables_1, d.before a0 Z = true) (ws : List Jvm.Cond) (a1 : Addr) (r1 : Addr) (kc : ClassId) (w0 : Int64) (w1 : Int64) (w2 : Int64) (h0 : Heap) (n0 : Nat) (Z0 : n0 ≤ h0.size) (Fc : Fld Z h0 a1 "com/example/feuillet/feuillet/Summary" "counts" "[J" (.ref r1)) (V_c : Arv Z h0 r1 kc .long (3 : Int32) [(.long w0), (.long w1), (.long w2)] (.long (0 : Int64))) :
    MetFree l (⟨"com/example/feuillet/feuillet/Summary", "documents", "()J"⟩ : MethodName) (head1 (Jvm.Cond.code (⟨"com/example/feuillet/feuillet/Summary", "documents", "()J"⟩ : MethodName) prog_94_method_3_code 8 (some .long) :: ws) ({ frames := 0, cells := 0, slots := 0, locals := 0 } : Room)) (fun a U => a = #[(.ref a1)] ∧ Z.Warmed39 U.vm ∧ U.heap = h0) (fun _ _ _ _ _ => True) (fun _ U o U' => ∃ v L, o = .returned v ∧ own_Q_doc Z a1 r1 kc w0 w1 w2 h0 n0 v U'.heap L ∧ FrameEnd U o U' L ({ frames := 0, cells := 0, slots := 0, locals := 0 } : Room).cells ({ frames := 0, cells := 0, slots := 0, locals := 0 } : Room).slots) := by
  refine MetFree.of_bodySF (plainFor_of_name own_pn1) hisR ?_
  intro p e s m args below meth c s₁ Bd hml0 hP hK
  obtain ⟨rfl, hZ, hh⟩ := hP
  have hx := Bd.exec
  have hby := Bd.bytes
  have hml : c.maxLocals = 8 := hml0
  have hown : s.vm.findClass "com/example/feuillet/feuillet/Summary" = some m.cls := findClass_of_methodNamed Bd.named
  have hnm := (name_of_methodNamed Bd.named Bd.method).1
  have X0 : Stand p l e ({ frames := 0, cells := 0, slots := 0, locals := 0 } : Room) s m #[(.ref a1)] below meth c s₁ [] 0 0 := Stand.of_body Bd
  have e0 : s₁.heap = h0 := by rw [← hh, Bd.state]; rfl
  have N0 := Fr.nil n0
  have K0 : Keep h0 h0 [] := Keep.refl _ _
  show own_Go p e below s ({ frames := 0, cells := 0, slots := 0, locals := 0 } : Room).cells ({ frames := 0, cells := 0, slots := 0, locals := 0 } : Room).slots (own_Q_doc Z a1 r1 kc w0 w1 w2 h0 n0) (s₁.setTop (entryFrame m #[(.ref a1)] 8))
  have ef : entryFrame m #[(.ref a1)] 8 = (mkF m 0 #[.val (.ref a1), .unset, .unset, .unset, .unset, .unset, .unset, .unset] []) := by first | rfl | (simp [entryFrame, mkF, argsToLocals, Value.category, maxLocals]; done)
  rw [ef]
  show own_Go p e below s _ _ _ (s₁.setTop (mkF m 0 #[.val (.ref a1), .unset, .unset, .unset, .unset, .unset, .unset, .unset] []))
  refine own_step (U' := (s₁.setTop (mkF m 1 #[.val (.ref a1), .unset, .unset, .unset, .unset, .unset, .unset, .unset] [(.long (0 : Int64))]))) (fun t ht => XT.lconstV X0.here hx rfl (0 : Int64) (hb hby own_d4_0) rfl ht) ?_
  refine own_step (U' := (s₁.setTop (mkF m 2 #[.val (.ref a1), .val (.long (0 : Int64)), .second, .unset, .unset, .unset, .unset, .unset] []))) (fun t ht => XT.lstoreN X0.here hx rfl (hb hby own_d4_1) rfl (l' := #[.val (.ref a1), .val (.long (0 : Int64)), .second, .unset, .unset, .unset, .unset, .unset]) rfl ht) ?_
  refine own_step (U' := (s₁.setTop (mkF m 3 #[.val (.ref a1), .val (.long (0 : Int64)), .second, .unset, .unset, .unset, .unset, .unset] [(.ref a1)]))) (fun t ht => XS.aloadN X0.here hx rfl (hb hby own_d4_2) rfl rfl ht) ?_
  obtain ⟨T9, X9, e9, st9⟩ := getF X0 hx hZ hown (host := "") (Or.inl (hw _ (List.mem_of_getElem? (i := 29) rfl))) Via.refl e0 Fc (g := (mkF m 3 #[.val (.ref a1), .val (.long (0 : Int64)), .second, .unset, .unset, .unset, .unset, .unset] [(.ref a1)])) rfl rfl (hb hby own_d4_3)
  refine own_step (U' := (T9.setTop (mkF m 6 #[.val (.ref a1), .val (.long (0 : Int64)), .second, .unset, .unset, .unset, .unset, .unset] [(.ref r1)]))) (fun t ht => st9 _ ht) ?_
  refine own_step (U' := (T9.setTop (mkF m 7 #[.val (.ref a1), .val (.long (0 : Int64)), .second, .val (.ref r1), .unset, .unset, .unset, .unset] []))) (fun t ht => XS.astoreN X9.here hx rfl (hb hby own_d4_6) rfl rfl (l' := #[.val (.ref a1), .val (.long (0 : Int64)), .second, .val (.ref r1), .unset, .unset, .unset, .unset]) rfl ht) ?_
  refine own_step (U' := (T9.setTop (mkF m 8 #[.val (.ref a1), .val (.long (0 : Int64)), .second, .val (.ref r1), .unset, .unset, .unset, .unset] [(.ref r1)]))) (fun t ht => XS.aloadN X9.here hx rfl (hb hby own_d4_7) rfl rfl ht) ?_
  obtain ⟨cl10, Ar10, q10, S10, N10_, H10, G10⟩ := (id V_c)
  refine own_step (U' := (T9.setTop (mkF m 9 #[.val (.ref a1), .val (.long (0 : Int64)), .second, .val (.ref r1), .unset, .unset, .unset, .unset] [(.int (3 : Int32))]))) (fun t ht => X9.arraylength hx (own_at e9 Ar10.1) (State.isArrayOf_alike hZ.alike Ar10.2.1) (g := (mkF m 8 #[.val (.ref a1), .val (.long (0 : Int64)), .second, .val (.ref r1), .unset, .unset, .unset, .unset] [(.ref r1)])) rfl rfl (hb hby own_d4_8) _ (by rw [len_of S10 N10_]; exact ht)) ?_
  refine own_step (U' := (T9.setTop (mkF m 11 #[.val (.ref a1), .val (.long (0 : Int64)), .second, .val (.ref r1), .val (.int (3 : Int32)), .unset, .unset, .unset] []))) (fun t ht => XS.istore X9.here hx rfl (hb hby own_d4_9) rfl (l' := #[.val (.ref a1), .val (.long (0 : Int64)), .second, .val (.ref r1), .val (.int (3 : Int32)), .unset, .unset, .unset]) rfl ht) ?_
  refine own_step (U' := (T9.setTop (mkF m 12 #[.val (.ref a1), .val (.long (0 : Int64)), .second, .val (.ref r1), .val (.int (3 : Int32)), .unset, .unset, .unset] [(.int (0 : Int32))]))) (fun t ht => XS.iconst X9.here hx rfl (hb hby own_d4_11) ht) ?_
  refine own_step (U' := (T9.setTop (mkF m 14 #[.val (.ref a1), .val (.long (0 : Int64)), .second, .val (.ref r1), .val (.int (3 : Int32)), .val (.int (0 : Int32)), .unset, .unset] []))) (fun t ht => XS.istore X9.here hx rfl (hb hby own_d4_12) rfl (l' := #[.val (.ref a1), .val (.long (0 : Int64)), .second, .val (.ref r1), .val (.int (3 : Int32)), .val (.int (0 : Int32)), .unset, .unset]) rfl ht) ?_
  refine own_step (U' := (T9.setTop (mkF m 16 #[.val (.ref a1), .val (.long (0 : Int64)), .second, .val (.ref r1), .val (.int (3 : Int32)), .val (.int (0 : Int32)), .unset, .unset] [(.int (0 : Int32))]))) (fun t ht => XS.iload X9.here hx rfl (hb hby own_d4_14) rfl ht) ?_
  refine own_step (U' := (T9.setTop (mkF m 18 #[.val (.ref a1), .val (.long (0 : Int64)), .second, .val (.ref r1), .val (.int (3 : Int32)), .val (.int (0 : Int32)), .unset, .unset] [(.int (3 : Int32)), (.int (0 : Int32))]))) (fun t ht => XS.iload X9.here hx rfl (hb hby own_d4_16) rfl ht) ?_
  refine own_step (U' := (T9.setTop (mkF m 21 #[.val (.ref a1), .val (.long (0 : Int64)), .second, .val (.ref r1), .val (.int (3 : Int32)), .val (.int (0 : Int32)), .unset, .unset] []))) (fun t ht => XS.icmpNo X9.here hx rfl (hb hby own_d4_18) rfl (XT.ii_ge_f ((by decide) : (0 : Int32) < (3 : Int32))) ht) ?_
  refine own_step (U' := (T9.setTop (mkF m 22 #[.val (.ref a1), .val (.long (0 : Int64)), .second, .val (.ref r1), .val (.int (3 : Int32)), .val (.int (0 : Int32)), .unset, .unset] [(.ref r1)]))) (fun t ht => XS.aloadN X9.here hx rfl (hb hby own_d4_21) rfl rfl ht) ?_
  refine own_step (U' := (T9.setTop (mkF m 24 #[.val (.ref a1), .val (.long (0 : Int64)), .second, .val (.ref r1), .val (.int (3 : Int32)), .val (.int (0 : Int32)), .unset, .unset] [(.int (0 : Int32)), (.ref r1)]))) (fun t ht => XS.iload X9.here hx rfl (hb hby own_d4_22) rfl ht) ?_
  obtain ⟨cl11, Ar11, q11, S11, N11_, H11, G11⟩ := (id V_c)
  have hin11 : ¬ ((0 : Int32) < 0 ∨ cl11.slots.size ≤ ((0 : Int32)).toNatClampNeg) := inb_of S11 ⟨by decide, by decide⟩
  have hat11 : cl11.slots[((0 : Int32)).toNatClampNeg]? = some (.long w0) := Has.at H11 hin11 rfl
  refine own_step (U' := (T9.setTop (mkF m 25 #[.val (.ref a1), .val (.long (0 : Int64)), .second, .val (.ref r1), .val (.int (3 : Int32)), .val (.int (0 : Int32)), .unset, .unset] [(.long w0)]))) (fun t ht => X9.laload hx (j := (0 : Int32)) (v := (.long w0)) (own_at e9 Ar11.1) (State.isArrayOf_alike hZ.alike Ar11.2.1) Ar11.2.2 hin11 hat11 (g := (mkF m 24 #[.val (.ref a1), .val (.long (0 : Int64)), .second, .val (.ref r1), .val (.int (3 : Int32)), .val (.int (0 : Int32)), .unset, .unset] [(.int (0 : Int32)), (.ref r1)])) rfl rfl (hb hby own_d4_24) _ ht) ?_
  refine own_step (U' := (T9.setTop (mkF m 27 #[.val (.ref a1), .val (.long (0 : Int64)), .second, .val (.ref r1), .val (.int (3 : Int32)), .val (.int (0 : Int32)), .val (.long w0), .second] []))) (fun t ht => XT.lstore X9.here hx rfl (hb hby own_d4_25) rfl (l' := #[.val (.ref a1), .val (.long (0 : Int64)), .second, .val (.ref r1), .val (.int (3 : Int32)), .val (.int (0 : Int32)), .val (.long w0), .second]) rfl ht) ?_
  refine own_step (U' := (T9.setTop (mkF m 28 #[.val (.ref a1), .val (.long (0 : Int64)), .second, .val (.ref r1), .val (.int (3 : Int32)), .val (.int (0 : Int32)), .val (.long w0), .second] [(.long (0 : Int64))]))) (fun t ht => XT.lloadN X9.here hx rfl (hb hby own_d4_27) rfl ht) ?_
  refine own_step (U' := (T9.setTop (mkF m 30 #[.val (.ref a1), .val (.long (0 : Int64)), .second, .val (.ref r1), .val (.int (3 : Int32)), .val (.int (0 : Int32)), .val (.long w0), .second] [(.long w0), (.long (0 : Int64))]))) (fun t ht => XT.lload X9.here hx rfl (hb hby own_d4_28) rfl ht) ?_
  refine own_step (U' := (T9.setTop (mkF m 31 #[.val (.ref a1), .val (.long (0 : Int64)), .second, .val (.ref r1), .val (.int (3 : Int32)), .val (.int (0 : Int32)), .val (.long w0), .second] [(.long ((0 : Int64) + w0))]))) (fun t ht => XT.ladd X9.here hx rfl (hb hby own_d4_30) rfl ht) ?_
  refine own_step (U' := (T9.setTop (mkF m 32 #[.val (.ref a1), .val (.long ((0 : Int64) + w0)), .second, .val (.ref r1), .val (.int (3 : Int32)), .val (.int (0 : Int32)), .val (.long w0), .second] []))) (fun t ht => XT.lstoreN X9.here hx rfl (hb hby own_d4_31) rfl (l' := #[.val (.ref a1), .val (.long ((0 : Int64) + w0)), .second, .val (.ref r1), .val (.int (3 : Int32)), .val (.int (0 : Int32)), .val (.long w0), .second]) rfl ht) ?_
  refine own_step (U' := (T9.setTop (mkF m 35 #[.val (.ref a1), .val (.long ((0 : Int64) + w0)), .second, .val (.ref r1), .val (.int (3 : Int32)), .val (.int ((0 : Int32) + (1 : Int32))), .val (.long w0), .second] []))) (fun t ht => XT.iincV X9.here hx rfl (1 : Int32) (hb hby own_d4_32) rfl rfl (l' := #[.val (.ref a1), .val (.long ((0 : Int64) + w0)), .second, .val (.ref r1), .val (.int (3 : Int32)), .val (.int ((0 : Int32) + (1 : Int32))), .val (.long w0), .second]) rfl ht) ?_
  refine own_step (U' := (T9.setTop (mkF m 14 #[.val (.ref a1), .val (.long ((0 : Int64) + w0)), .second, .val (.ref r1), .val (.int (3 : Int32)), .val (.int ((0 : Int32) + (1 : Int32))), .val (.long w0), .second] []))) (fun t ht => XS.goto X9.here hx rfl (pc0 := 35) (pc' := 14) rfl (hb hby own_d4_35) (by decide) (by decide) ht) ?_
  refine own_step (U' := (T9.setTop (mkF m 16 #[.val (.ref a1), .val (.long ((0 : Int64) + w0)), .second, .val (.ref r1), .val (.int (3 : Int32)), .val (.int ((0 : Int32) + (1 : Int32))), .val (.long w0), .second] [(.int ((0 : Int32) + (1 : Int32)))]))) (fun t ht => XS.iload X9.here hx rfl (hb hby own_d4_14) rfl ht) ?_
  refine own_step (U' := (T9.setTop (mkF m 18 #[.val (.ref a1), .val (.long ((0 : Int64) + w0)), .second, .val (.ref r1), .val (.int (3 : Int32)), .val (.int ((0 : Int32) + (1 : Int32))), .val (.long w0), .second] [(.int (3 : Int32)), (.int ((0 : Int32) + (1 : Int32)))]))) (fun t ht => XS.iload X9.here hx rfl (hb hby own_d4_16) rfl ht) ?_
  refine own_step (U' := (T9.setTop (mkF m 21 #[.val (.ref a1), .val (.long ((0 : Int64) + w0)), .second, .val (.ref r1), .val (.int (3 : Int32)), .val (.int ((0 : Int32) + (1 : Int32))), .val (.long w0), .second] []))) (fun t ht => XS.icmpNo X9.here hx rfl (hb hby own_d4_18) rfl (XT.ii_ge_f ((by decide) : ((0 : Int32) + (1 : Int32)) < (3 : Int32))) ht) ?_
  refine own_step (U' := (T9.setTop (mkF m 22 #[.val (.ref a1), .val (.long ((0 : Int64) + w0)), .second, .val (.ref r1), .val (.int (3 : Int32)), .val (.int ((0 : Int32) + (1 : Int32))), .val (.long w0), .second] [(.ref r1)]))) (fun t ht => XS.aloadN X9.here hx rfl (hb hby own_d4_21) rfl rfl ht) ?_
  refine own_step (U' := (T9.setTop (mkF m 24 #[.val (.ref a1), .val (.long ((0 : Int64) + w0)), .second, .val (.ref r1), .val (.int (3 : Int32)), .val (.int ((0 : Int32) + (1 : Int32))), .val (.long w0), .second] [(.int ((0 : Int32) + (1 : Int32))), (.ref r1)]))) (fun t ht => XS.iload X9.here hx rfl (hb hby own_d4_22) rfl ht) ?_
  obtain ⟨cl12, Ar12, q12, S12, N12_, H12, G12⟩ := (id V_c)
  have hin12 : ¬ (((0 : Int32) + (1 : Int32)) < 0 ∨ cl12.slots.size ≤ (((0 : Int32) + (1 : Int32))).toNatClampNeg) := inb_of S12 ⟨by decide, by decide⟩
  have hat12 : cl12.slots[(((0 : Int32) + (1 : Int32))).toNatClampNeg]? = some (.long w1) := Has.at H12 hin12 rfl
  refine own_step (U' := (T9.setTop (mkF m 25 #[.val (.ref a1), .val (.long ((0 : Int64) + w0)), .second, .val (.ref r1), .val (.int (3 : Int32)), .val (.int ((0 : Int32) + (1 : Int32))), .val (.long w0), .second] [(.long w1)]))) (fun t ht => X9.laload hx (j := ((0 : Int32) + (1 : Int32))) (v := (.long w1)) (own_at e9 Ar12.1) (State.isArrayOf_alike hZ.alike Ar12.2.1) Ar12.2.2 hin12 hat12 (g := (mkF m 24 #[.val (.ref a1), .val (.long ((0 : Int64) + w0)), .second, .val (.ref r1), .val (.int (3 : Int32)), .val (.int ((0 : Int32) + (1 : Int32))), .val (.long w0), .second] [(.int ((0 : Int32) + (1 : Int32))), (.ref r1)])) rfl rfl (hb hby own_d4_24) _ ht) ?_
  refine own_step (U' := (T9.setTop (mkF m 27 #[.val (.ref a1), .val (.long ((0 : Int64) + w0)), .second, .val (.ref r1), .val (.int (3 : Int32)), .val (.int ((0 : Int32) + (1 : Int32))), .val (.long w1), .second] []))) (fun t ht => XT.lstore X9.here hx rfl (hb hby own_d4_25) rfl (l' := #[.val (.ref a1), .val (.long ((0 : Int64) + w0)), .second, .val (.ref r1), .val (.int (3 : Int32)), .val (.int ((0 : Int32) + (1 : Int32))), .val (.long w1), .second]) rfl ht) ?_
  refine own_step (U' := (T9.setTop (mkF m 28 #[.val (.ref a1), .val (.long ((0 : Int64) + w0)), .second, .val (.ref r1), .val (.int (3 : Int32)), .val (.int ((0 : Int32) + (1 : Int32))), .val (.long w1), .second] [(.long ((0 : Int64) + w0))]))) (fun t ht => XT.lloadN X9.here hx rfl (hb hby own_d4_27) rfl ht) ?_
  refine own_step (U' := (T9.setTop (mkF m 30 #[.val (.ref a1), .val (.long ((0 : Int64) + w0)), .second, .val (.ref r1), .val (.int (3 : Int32)), .val (.int ((0 : Int32) + (1 : Int32))), .val (.long w1), .second] [(.long w1), (.long ((0 : Int64) + w0))]))) (fun t ht => XT.lload X9.here hx rfl (hb hby own_d4_28) rfl ht) ?_
  refine own_step (U' := (T9.setTop (mkF m 31 #[.val (.ref a1), .val (.long ((0 : Int64) + w0)), .second, .val (.ref r1), .val (.int (3 : Int32)), .val (.int ((0 : Int32) + (1 : Int32))), .val (.long w1), .second] [(.long (((0 : Int64) + w0) + w1))]))) (fun t ht => XT.ladd X9.here hx rfl (hb hby own_d4_30) rfl ht) ?_
  refine own_step (U' := (T9.setTop (mkF m 32 #[.val (.ref a1), .val (.long (((0 : Int64) + w0) + w1)), .second, .val (.ref r1), .val (.int (3 : Int32)), .val (.int ((0 : Int32) + (1 : Int32))), .val (.long w1), .second] []))) (fun t ht => XT.lstoreN X9.here hx rfl (hb hby own_d4_31) rfl (l' := #[.val (.ref a1), .val (.long (((0 : Int64) + w0) + w1)), .second, .val (.ref r1), .val (.int (3 : Int32)), .val (.int ((0 : Int32) + (1 : Int32))), .val (.long w1), .second]) rfl ht) ?_
  refine own_step (U' := (T9.setTop (mkF m 35 #[.val (.ref a1), .val (.long (((0 : Int64) + w0) + w1)), .second, .val (.ref r1), .val (.int (3 : Int32)), .val (.int (((0 : Int32) + (1 : Int32)) + (1 : Int32))), .val (.long w1), .second] []))) (fun t ht => XT.iincV X9.here hx rfl (1 : Int32) (hb hby own_d4_32) rfl rfl (l' := #[.val (.ref a1), .val (.long (((0 : Int64) + w0) + w1)), .second, .val (.ref r1), .val (.int (3 : Int32)), .val (.int (((0 : Int32) + (1 : Int32)) + (1 : Int32))), .val (.long w1), .second]) rfl ht) ?_
  refine own_step (U' := (T9.setTop (mkF m 14 #[.val (.ref a1), .val (.long (((0 : Int64) + w0) + w1)), .second, .val (.ref r1), .val (.int (3 : Int32)), .val (.int (((0 : Int32) + (1 : Int32)) + (1 : Int32))), .val (.long w1), .second] []))) (fun t ht => XS.goto X9.here hx rfl (pc0 := 35) (pc' := 14) rfl (hb hby own_d4_35) (by decide) (by decide) ht) ?_
  refine own_step (U' := (T9.setTop (mkF m 16 #[.val (.ref a1), .val (.long (((0 : Int64) + w0) + w1)), .second, .val (.ref r1), .val (.int (3 : Int32)), .val (.int (((0 : Int32) + (1 : Int32)) + (1 : Int32))), .val (.long w1), .second] [(.int (((0 : Int32) + (1 : Int32)) + (1 : Int32)))]))) (fun t ht => XS.iload X9.here hx rfl (hb hby own_d4_14) rfl ht) ?_
  refine own_step (U' := (T9.setTop (mkF m 18 #[.val (.ref a1), .val (.long (((0 : Int64) + w0) + w1)), .second, .val (.ref r1), .val (.int (3 : Int32)), .val (.int (((0 : Int32) + (1 : Int32)) + (1 : Int32))), .val (.long w1), .second] [(.int (3 : Int32)), (.int (((0 : Int32) + (1 : Int32)) + (1 : Int32)))]))) (fun t ht => XS.iload X9.here hx rfl (hb hby own_d4_16) rfl ht) ?_
  refine own_step (U' := (T9.setTop (mkF m 21 #[.val (.ref a1), .val (.long (((0 : Int64) + w0) + w1)), .second, .val (.ref r1), .val (.int (3 : Int32)), .val (.int (((0 : Int32) + (1 : Int32)) + (1 : Int32))), .val (.long w1), .second] []))) (fun t ht => XS.icmpNo X9.here hx rfl (hb hby own_d4_18) rfl (XT.ii_ge_f ((by decide) : (((0 : Int32) + (1 : Int32)) + (1 : Int32)) < (3 : Int32))) ht) ?_
  refine own_step (U' := (T9.setTop (mkF m 22 #[.val (.ref a1), .val (.long (((0 : Int64) + w0) + w1)), .second, .val (.ref r1), .val (.int (3 : Int32)), .val (.int (((0 : Int32) + (1 : Int32)) + (1 : Int32))), .val (.long w1), .second] [(.ref r1)]))) (fun t ht => XS.aloadN X9.here hx rfl (hb hby own_d4_21) rfl rfl ht) ?_
  refine own_step (U' := (T9.setTop (mkF m 24 #[.val (.ref a1), .val (.long (((0 : Int64) + w0) + w1)), .second, .val (.ref r1), .val (.int (3 : Int32)), .val (.int (((0 : Int32) + (1 : Int32)) + (1 : Int32))), .val (.long w1), .second] [(.int (((0 : Int32) + (1 : Int32)) + (1 : Int32))), (.ref r1)]))) (fun t ht => XS.iload X9.here hx rfl (hb hby own_d4_22) rfl ht) ?_
  obtain ⟨cl13, Ar13, q13, S13, N13_, H13, G13⟩ := (id V_c)
  have hin13 : ¬ ((((0 : Int32) + (1 : Int32)) + (1 : Int32)) < 0 ∨ cl13.slots.size ≤ ((((0 : Int32) + (1 : Int32)) + (1 : Int32))).toNatClampNeg) := inb_of S13 ⟨by decide, by decide⟩
  have hat13 : cl13.slots[((((0 : Int32) + (1 : Int32)) + (1 : Int32))).toNatClampNeg]? = some (.long w2) := Has.at H13 hin13 rfl
  refine own_step (U' := (T9.setTop (mkF m 25 #[.val (.ref a1), .val (.long (((0 : Int64) + w0) + w1)), .second, .val (.ref r1), .val (.int (3 : Int32)), .val (.int (((0 : Int32) + (1 : Int32)) + (1 : Int32))), .val (.long w1), .second] [(.long w2)]))) (fun t ht => X9.laload hx (j := (((0 : Int32) + (1 : Int32)) + (1 : Int32))) (v := (.long w2)) (own_at e9 Ar13.1) (State.isArrayOf_alike hZ.alike Ar13.2.1) Ar13.2.2 hin13 hat13 (g := (mkF m 24 #[.val (.ref a1), .val (.long (((0 : Int64) + w0) + w1)), .second, .val (.ref r1), .val (.int (3 : Int32)), .val (.int (((0 : Int32) + (1 : Int32)) + (1 : Int32))), .val (.long w1), .second] [(.int (((0 : Int32) + (1 : Int32)) + (1 : Int32))), (.ref r1)])) rfl rfl (hb hby own_d4_24) _ ht) ?_
  refine own_step (U' := (T9.setTop (mkF m 27 #[.val (.ref a1), .val (.long (((0 : Int64) + w0) + w1)), .second, .val (.ref r1), .val (.int (3 : Int32)), .val (.int (((0 : Int32) + (1 : Int32)) + (1 : Int32))), .val (.long w2), .second] []))) (fun t ht => XT.lstore X9.here hx rfl (hb hby own_d4_25) rfl (l' := #[.val (.ref a1), .val (.long (((0 : Int64) + w0) + w1)), .second, .val (.ref r1), .val (.int (3 : Int32)), .val (.int (((0 : Int32) + (1 : Int32)) + (1 : Int32))), .val (.long w2), .second]) rfl ht) ?_
  refine own_step (U' := (T9.setTop (mkF m 28 #[.val (.ref a1), .val (.long (((0 : Int64) + w0) + w1)), .second, .val (.ref r1), .val (.int (3 : Int32)), .val (.int (((0 : Int32) + (1 : Int32)) + (1 : Int32))), .val (.long w2), .second] [(.long (((0 : Int64) + w0) + w1))]))) (fun t ht => XT.lloadN X9.here hx rfl (hb hby own_d4_27) rfl ht) ?_
  refine own_step (U' := (T9.setTop (mkF m 30 #[.val (.ref a1), .val (.long (((0 : Int64) + w0) + w1)), .second, .val (.ref r1), .val (.int (3 : Int32)), .val (.int (((0 : Int32) + (1 : Int32)) + (1 : Int32))), .val (.long w2), .second] [(.long w2), (.long (((0 : Int64) + w0) + w1))]))) (fun t ht => XT.lload X9.here hx rfl (hb hby own_d4_28) rfl ht) ?_
  refine own_step (U' := (T9.setTop (mkF m 31 #[.val (.ref a1), .val (.long (((0 : Int64) + w0) + w1)), .second, .val (.ref r1), .val (.int (3 : Int32)), .val (.int (((0 : Int32) + (1 : Int32)) + (1 : Int32))), .val (.long w2), .second] [(.long ((((0 : Int64) + w0) + w1) + w2))]))) (fun t ht => XT.ladd X9.here hx rfl (hb hby own_d4_30) rfl ht) ?_
  refine own_step (U' := (T9.setTop (mkF m 32 #[.val (.ref a1), .val (.long ((((0 : Int64) + w0) + w1) + w2)), .second, .val (.ref r1), .val (.int (3 : Int32)), .val (.int (((0 : Int32) + (1 : Int32)) + (1 : Int32))), .val (.long w2), .second] []))) (fun t ht => XT.lstoreN X9.here hx rfl (hb hby own_d4_31) rfl (l' := #[.val (.ref a1), .val (.long ((((0 : Int64) + w0) + w1) + w2)), .second, .val (.ref r1), .val (.int (3 : Int32)), .val (.int (((0 : Int32) + (1 : Int32)) + (1 : Int32))), .val (.long w2), .second]) rfl ht) ?_
  refine own_step (U' := (T9.setTop (mkF m 35 #[.val (.ref a1), .val (.long ((((0 : Int64) + w0) + w1) + w2)), .second, .val (.ref r1), .val (.int (3 : Int32)), .val (.int ((((0 : Int32) + (1 : Int32)) + (1 : Int32)) + (1 : Int32))), .val (.long w2), .second] []))) (fun t ht => XT.iincV X9.here hx rfl (1 : Int32) (hb hby own_d4_32) rfl rfl (l' := #[.val (.ref a1), .val (.long ((((0 : Int64) + w0) + w1) + w2)), .second, .val (.ref r1), .val (.int (3 : Int32)), .val (.int ((((0 : Int32) + (1 : Int32)) + (1 : Int32)) + (1 : Int32))), .val (.long w2), .second]) rfl ht) ?_
  refine own_step (U' := (T9.setTop (mkF m 14 #[.val (.ref a1), .val (.long ((((0 : Int64) + w0) + w1) + w2)), .second, .val (.ref r1), .val (.int (3 : Int32)), .val (.int ((((0 : Int32) + (1 : Int32)) + (1 : Int32)) + (1 : Int32))), .val (.long w2), .second] []))) (fun t ht => XS.goto X9.here hx rfl (pc0 := 35) (pc' := 14) rfl (hb hby own_d4_35) (by decide) (by decide) ht) ?_
  refine own_step (U' := (T9.setTop (mkF m 16 #[.val (.ref a1), .val (.long ((((0 : Int64) + w0) + w1) + w2)), .second, .val (.ref r1), .val (.int (3 : Int32)), .val (.int ((((0 : Int32) + (1 : Int32)) + (1 : Int32)) + (1 : Int32))), .val (.long w2), .second] [(.int ((((0 : Int32) + (1 : Int32)) + (1 : Int32)) + (1 : Int32)))]))) (fun t ht => XS.iload X9.here hx rfl (hb hby own_d4_14) rfl ht) ?_
  refine own_step (U' := (T9.setTop (mkF m 18 #[.val (.ref a1), .val (.long ((((0 : Int64) + w0) + w1) + w2)), .second, .val (.ref r1), .val (.int (3 : Int32)), .val (.int ((((0 : Int32) + (1 : Int32)) + (1 : Int32)) + (1 : Int32))), .val (.long w2), .second] [(.int (3 : Int32)), (.int ((((0 : Int32) + (1 : Int32)) + (1 : Int32)) + (1 : Int32)))]))) (fun t ht => XS.iload X9.here hx rfl (hb hby own_d4_16) rfl ht) ?_
  refine own_step (U' := (T9.setTop (mkF m 38 #[.val (.ref a1), .val (.long ((((0 : Int64) + w0) + w1) + w2)), .second, .val (.ref r1), .val (.int (3 : Int32)), .val (.int ((((0 : Int32) + (1 : Int32)) + (1 : Int32)) + (1 : Int32))), .val (.long w2), .second] []))) (fun t ht => XS.icmpYes X9.here hx rfl (pc0 := 18) (pc' := 38) rfl (hb hby own_d4_18) rfl (XT.ii_ge_t ((by decide) : ¬ (((((0 : Int32) + (1 : Int32)) + (1 : Int32)) + (1 : Int32)) < (3 : Int32)))) (by decide) (by decide) ht) ?_
  refine own_step (U' := (T9.setTop (mkF m 39 #[.val (.ref a1), .val (.long ((((0 : Int64) + w0) + w1) + w2)), .second, .val (.ref r1), .val (.int (3 : Int32)), .val (.int ((((0 : Int32) + (1 : Int32)) + (1 : Int32)) + (1 : Int32))), .val (.long w2), .second] [(.long ((((0 : Int64) + w0) + w1) + w2))]))) (fun t ht => XT.lloadN X9.here hx rfl (hb hby own_d4_38) rfl ht) ?_
  refine own_ret X9 (v := (some (.long ((((0 : Int64) + w0) + w1) + w2)))) (fun h => by rw [Bd.returns] at h; cases h) Bd.notSynchronized (by decide) (by decide) ?_ (fun fs hr => retOut X9 hx (t := .long) Bd.returns rfl (Or.inr (Or.inl ⟨rfl, rfl, _, rfl⟩)) (hb hby own_d4_39) hr)
  show own_Q_doc Z a1 r1 kc w0 w1 w2 h0 n0 _ T9.heap _
  rw [e9]
  exact ⟨rfl, N0, rfl⟩
theorem own_pn2 : plainName "java/lang/Enum" = true := by first | (simp [plainName, overriddenIn]; done) | decide +kernel
theorem own_d7_0 : decode jdk_37_method_2_code 0 = .ok (.aload_n 0, 1) := by decide +kernel
theorem own_d7_1 : decode jdk_37_method_2_code 1 = .ok (.getfield 7, 3) := by decide +kernel
theorem own_d7_4 : decode jdk_37_method_2_code 4 = .ok (.ireturn, 1) := by decide +kernel
def own_Q_ord (Z : State) (a1 : Addr) (c1 : Int32) (h0 : Heap) (n0 : Nat) (v : Option Value) (h : Heap) (L : List Loc) : Prop := v = some (.int c1) ∧ Fr n0 L ∧ h = h0
set_option maxRecDepth 65536 in
set_option maxHeartbeats 40000000 in
theorem own_m_ord (l : Launch) (Z : State) (a0 : Array Value) (hw : ∀ d ∈ tables_1, d.before a0 Z = true) (ws : List Jvm.Cond) (a1 : Addr) (c1 : Int32) (h0 : Heap) (n0 : Nat) (Z0 : n0 ≤ h0.size) (F1 : Fld Z h0 a1 "java/lang/Enum" "ordinal" "I" (.int c1)) :
    MetFree l (⟨"java/lang/Enum", "ordinal", "()I"⟩ : MethodName) (head1 (Jvm.Cond.code (⟨"java/lang/Enum", "ordinal", "()I"⟩ : MethodName) jdk_37_method_2_code 1 (some .int) :: ws) ({ frames := 0, cells := 0, slots := 0, locals := 0 } : Room)) (fun a U => a = #[(.ref a1)] ∧ Z.Warmed39 U.vm ∧ U.heap = h0) (fun _ _ _ _ _ => True) (fun _ U o U' => ∃ v L, o = .returned v ∧ own_Q_ord Z a1 c1 h0 n0 v U'.heap L ∧ FrameEnd U o U' L ({ frames := 0, cells := 0, slots := 0, locals := 0 } : Room).cells ({ frames := 0, cells := 0, slots := 0, locals := 0 } : Room).slots) := by
  refine MetFree.of_bodySF (plainFor_of_name own_pn2) hisR ?_
  intro p e s m args below meth c s₁ Bd hml0 hP hK
  obtain ⟨rfl, hZ, hh⟩ := hP
  have hx := Bd.exec
  have hby := Bd.bytes
  have hml : c.maxLocals = 1 := hml0
  have hown : s.vm.findClass "java/lang/Enum" = some m.cls := findClass_of_methodNamed Bd.named
  have hnm := (name_of_methodNamed Bd.named Bd.method).1
  have X0 : Stand p l e ({ frames := 0, cells := 0, slots := 0, locals := 0 } : Room) s m #[(.ref a1)] below meth c s₁ [] 0 0 := Stand.of_body Bd
  have e0 : s₁.heap = h0 := by rw [← hh, Bd.state]; rfl
  have N0 := Fr.nil n0
  have K0 : Keep h0 h0 [] := Keep.refl _ _
  show own_Go p e below s ({ frames := 0, cells := 0, slots := 0, locals := 0 } : Room).cells ({ frames := 0, cells := 0, slots := 0, locals := 0 } : Room).slots (own_Q_ord Z a1 c1 h0 n0) (s₁.setTop (entryFrame m #[(.ref a1)] 1))
  have ef : entryFrame m #[(.ref a1)] 1 = (mkF m 0 #[.val (.ref a1)] []) := by first | rfl | (simp [entryFrame, mkF, argsToLocals, Value.category, maxLocals]; done)
  rw [ef]
  show own_Go p e below s _ _ _ (s₁.setTop (mkF m 0 #[.val (.ref a1)] []))
  refine own_step (U' := (s₁.setTop (mkF m 1 #[.val (.ref a1)] [(.ref a1)]))) (fun t ht => XS.aloadN X0.here hx rfl (hb hby own_d7_0) rfl rfl ht) ?_
  obtain ⟨T14, X14, e14, st14⟩ := getF X0 hx hZ hown (host := "") (Or.inl (hw _ (List.mem_of_getElem? (i := 53) rfl))) Via.refl e0 F1 (g := (mkF m 1 #[.val (.ref a1)] [(.ref a1)])) rfl rfl (hb hby own_d7_1)
  refine own_step (U' := (T14.setTop (mkF m 4 #[.val (.ref a1)] [(.int c1)]))) (fun t ht => st14 _ ht) ?_
  refine own_ret X14 (v := (some (.int c1))) (fun h => by rw [Bd.returns] at h; cases h) Bd.notSynchronized (by decide) (by decide) ?_ (fun fs hr => retI X14 hx Bd.returns (hb hby own_d7_4) hr)
  show own_Q_ord Z a1 c1 h0 n0 _ T14.heap _
  rw [e14]
  exact ⟨rfl, N0, rfl⟩
theorem own_pd1 : parseMethodDescriptor "()I" = some ⟨[], some .int⟩ := by decide +kernel
theorem own_d6_0 : decode prog_94_method_2_code 0 = .ok (.aload_n 0, 1) := by decide +kernel
theorem own_d6_1 : decode prog_94_method_2_code 1 = .ok (.getfield 13, 3) := by decide +kernel
theorem own_d6_4 : decode prog_94_method_2_code 4 = .ok (.aload_n 1, 1) := by decide +kernel
theorem own_d6_5 : decode prog_94_method_2_code 5 = .ok (.invokevirtual 19, 3) := by decide +kernel
theorem own_d6_8 : decode prog_94_method_2_code 8 = .ok (.dup2, 1) := by decide +kernel
theorem own_d6_9 : decode prog_94_method_2_code 9 = .ok (.laload, 1) := by decide +kernel
theorem own_d6_10 : decode prog_94_method_2_code 10 = .ok (.lconst 1, 1) := by decide +kernel
theorem own_d6_11 : decode prog_94_method_2_code 11 = .ok (.ladd, 1) := by decide +kernel
theorem own_d6_12 : decode prog_94_method_2_code 12 = .ok (.lastore, 1) := by decide +kernel
theorem own_d6_13 : decode prog_94_method_2_code 13 = .ok (.return_, 1) := by decide +kernel
def own_Q_add0 (Z : State) (a1 : Addr) (v1 : Addr) (r1 : Addr) (kc : ClassId) (w0 : Int64) (w1 : Int64) (w2 : Int64) (h0 : Heap) (n0 : Nat) (v : Option Value) (h : Heap) (L : List Loc) : Prop := v = none ∧ Fr n0 L ∧ Keep h0 h [r1] ∧ (Arv Z h r1 kc .long (3 : Int32) [(.long (w0 + (1 : Int64))), (.long w1), (.long w2)] (.long (0 : Int64)))
set_option maxRecDepth 65536 in
set_option maxHeartbeats 40000000 in
theorem own_m_add0 (l : Launch) (Z : State) (a0 : Array Value) (hw : ∀ d ∈ tables_1, d.before a0 Z = true) (ws : List Jvm.Cond) (a1 : Addr) (v1 : Addr) (r1 : Addr) (kc : ClassId) (w0 : Int64) (w1 : Int64) (w2 : Int64) (h0 : Heap) (n0 : Nat) (Z0 : n0 ≤ h0.size) (g_r1 : n0 ≤ r1) (ne_a1_r1 : a1 ≠ r1) (ne_v1_r1 : v1 ≠ r1) (Fc : Fld Z h0 a1 "com/example/feuillet/feuillet/Summary" "counts" "[J" (.ref r1)) (V_c : Arv Z h0 r1 kc .long (3 : Int32) [(.long w0), (.long w1), (.long w2)] (.long (0 : Int64))) (Fo : Fld Z h0 v1 "java/lang/Enum" "ordinal" "I" (.int (0 : Int32))) (Eo : Exa Z h0 v1 "com/example/feuillet/feuillet/Verdict") :
    MetFree l (⟨"com/example/feuillet/feuillet/Summary", "add", "(Lcom/example/feuillet/feuillet/Verdict;)V"⟩ : MethodName) (head1 (Jvm.Cond.code (⟨"com/example/feuillet/feuillet/Summary", "add", "(Lcom/example/feuillet/feuillet/Verdict;)V"⟩ : MethodName) prog_94_method_2_code 2 none :: ws) ({ frames := 1, cells := 0, slots := 0, locals := 13 } : Room)) (fun a U => a = #[(.ref a1), (.ref v1)] ∧ Z.Warmed39 U.vm ∧ U.heap = h0) (fun _ _ _ _ _ => True) (fun _ U o U' => ∃ v L, o = .returned v ∧ own_Q_add0 Z a1 v1 r1 kc w0 w1 w2 h0 n0 v U'.heap L ∧ FrameEnd U o U' L ({ frames := 1, cells := 0, slots := 0, locals := 13 } : Room).cells ({ frames := 1, cells := 0, slots := 0, locals := 13 } : Room).slots) := by
  refine MetFree.of_bodySF (plainFor_of_name own_pn1) hisR ?_
  intro p e s m args below meth c s₁ Bd hml0 hP hK
  obtain ⟨rfl, hZ, hh⟩ := hP
  have hx := Bd.exec
  have hby := Bd.bytes
  have hml : c.maxLocals = 2 := hml0
  have hown : s.vm.findClass "com/example/feuillet/feuillet/Summary" = some m.cls := findClass_of_methodNamed Bd.named
  have hnm := (name_of_methodNamed Bd.named Bd.method).1
  have X0 : Stand p l e ({ frames := 1, cells := 0, slots := 0, locals := 13 } : Room) s m #[(.ref a1), (.ref v1)] below meth c s₁ [] 0 0 := Stand.of_body Bd
  have e0 : s₁.heap = h0 := by rw [← hh, Bd.state]; rfl
  have N0 := Fr.nil n0
  have K0 : Keep h0 h0 [r1] := Keep.refl _ _
  show own_Go p e below s ({ frames := 1, cells := 0, slots := 0, locals := 13 } : Room).cells ({ frames := 1, cells := 0, slots := 0, locals := 13 } : Room).slots (own_Q_add0 Z a1 v1 r1 kc w0 w1 w2 h0 n0) (s₁.setTop (entryFrame m #[(.ref a1), (.ref v1)] 2))
  have ef : entryFrame m #[(.ref a1), (.ref v1)] 2 = (mkF m 0 #[.val (.ref a1), .val (.ref v1)] []) := by first | rfl | (simp [entryFrame, mkF, argsToLocals, Value.category, maxLocals]; done)
  rw [ef]
  show own_Go p e below s _ _ _ (s₁.setTop (mkF m 0 #[.val (.ref a1), .val (.ref v1)] []))
  refine own_step (U' := (s₁.setTop (mkF m 1 #[.val (.ref a1), .val (.ref v1)] [(.ref a1)]))) (fun t ht => XS.aloadN X0.here hx rfl (hb hby own_d6_0) rfl rfl ht) ?_
  obtain ⟨T15, X15, e15, st15⟩ := getF X0 hx hZ hown (host := "") (Or.inl (hw _ (List.mem_of_getElem? (i := 29) rfl))) Via.refl e0 Fc (g := (mkF m 1 #[.val (.ref a1), .val (.ref v1)] [(.ref a1)])) rfl rfl (hb hby own_d6_1)
  refine own_step (U' := (T15.setTop (mkF m 4 #[.val (.ref a1), .val (.ref v1)] [(.ref r1)]))) (fun t ht => st15 _ ht) ?_
  refine own_step (U' := (T15.setTop (mkF m 5 #[.val (.ref a1), .val (.ref v1)] [(.ref v1), (.ref r1)]))) (fun t ht => XS.aloadN X15.here hx rfl (hb hby own_d6_4) rfl rfl ht) ?_
  obtain ⟨cq16, kq16, q16a, q16b, q16c⟩ := isOf hZ e15 Eo
  obtain ⟨_, _, ⟨T16, L16, k16, n16⟩, -, X16, ⟨Lc16, hQ16, l16, y16, z16⟩, st16⟩ := X15.virtualBackUp hx (x := (⟨"com/example/feuillet/feuillet/Verdict", "ordinal", "()I"⟩ : MethodName)) (y := (⟨"java/lang/Enum", "ordinal", "()I"⟩ : MethodName)) hown (mvT hZ (hw _ (List.mem_of_getElem? (i := 46) rfl))) (mvT hZ (hw _ (List.mem_of_getElem? (i := 47) rfl))) (mvT hZ (hw _ (List.mem_of_getElem? (i := 48) rfl))) (by decide) (mvT hZ (hw _ (List.mem_of_getElem? (i := 50) rfl))) (mvT hZ (hw _ (List.mem_of_getElem? (i := 49) rfl))) (backOf (W := 1) (own_m_ord l Z a0 hw [] (v1) ((0 : Int32)) h0 n0 Z0 Fo) hZ (hw _ (List.mem_of_getElem? (i := 52) rfl)) (hw _ (List.mem_of_getElem? (i := 51) rfl)) (by decide) (by decide)) q16a q16c (g := (mkF m 5 #[.val (.ref a1), .val (.ref v1)] [(.ref v1), (.ref r1)])) rfl (by rw [hml]; rfl) (Steps.refl _) (argsL := []) (rest := [(.ref r1)]) (lenOf own_pd1 rfl) rfl (by show 2 * 0 + _ ≤ _; exact Nat.le_of_eq rfl) (hb hby own_d6_5) (fun _ _ => ⟨rfl, e15, (by decide : 0 + 0 ≤ _), (by decide : 0 + 0 ≤ _)⟩)
  dsimp only [Pt.U, Pt.locs, Pt.cells, Pt.slots] at X16 l16 y16 z16 st16 hQ16
  subst l16 y16 z16
  obtain ⟨rfl, Nq16, Kq16⟩ := hQ16
  have N16 := Fr.app N0 Nq16
  have e16 : T16.heap = h0 := Kq16
  refine own_step (U' := (T16.setTop (mkF m 8 #[.val (.ref a1), .val (.ref v1)] [(.int (0 : Int32)), (.ref r1)]))) (fun t ht => st16.trans ht) ?_
  refine own_step (U' := (T16.setTop (mkF m 9 #[.val (.ref a1), .val (.ref v1)] [(.int (0 : Int32)), (.ref r1), (.int (0 : Int32)), (.ref r1)]))) (fun t ht => XT.dup2 X16.here hx rfl (hb hby own_d6_8) rfl rfl rfl ht) ?_
  obtain ⟨cl17, Ar17, q17, S17, N17_, H17, G17⟩ := (id V_c)
  have hin17 : ¬ ((0 : Int32) < 0 ∨ cl17.slots.size ≤ ((0 : Int32)).toNatClampNeg) := inb_of S17 ⟨by decide, by decide⟩
  have hat17 : cl17.slots[((0 : Int32)).toNatClampNeg]? = some (.long w0) := Has.at H17 hin17 rfl
  refine own_step (U' := (T16.setTop (mkF m 10 #[.val (.ref a1), .val (.ref v1)] [(.long w0), (.int (0 : Int32)), (.ref r1)]))) (fun t ht => X16.laload hx (j := (0 : Int32)) (v := (.long w0)) (own_at e16 Ar17.1) (State.isArrayOf_alike hZ.alike Ar17.2.1) Ar17.2.2 hin17 hat17 (g := (mkF m 9 #[.val (.ref a1), .val (.ref v1)] [(.int (0 : Int32)), (.ref r1), (.int (0 : Int32)), (.ref r1)])) rfl rfl (hb hby own_d6_9) _ ht) ?_
  refine own_step (U' := (T16.setTop (mkF m 11 #[.val (.ref a1), .val (.ref v1)] [(.long (1 : Int64)), (.long w0), (.int (0 : Int32)), (.ref r1)]))) (fun t ht => XT.lconstV X16.here hx rfl (1 : Int64) (hb hby own_d6_10) rfl ht) ?_
  refine own_step (U' := (T16.setTop (mkF m 12 #[.val (.ref a1), .val (.ref v1)] [(.long (w0 + (1 : Int64))), (.int (0 : Int32)), (.ref r1)]))) (fun t ht => XT.ladd X16.here hx rfl (hb hby own_d6_11) rfl ht) ?_
  obtain ⟨cl18, Ar18, q18, S18, N18_, H18, G18⟩ := (id V_c)
  have hin18 : ¬ ((0 : Int32) < 0 ∨ cl18.slots.size ≤ ((0 : Int32)).toNatClampNeg) := inb_of S18 ⟨by decide, by decide⟩
  obtain ⟨T18, h18, X18, e18, W18, st18⟩ := stJ X16 hx hZ e16 Ar18 (j := (0 : Int32)) hin18 (g := (mkF m 12 #[.val (.ref a1), .val (.ref v1)] [(.long (w0 + (1 : Int64))), (.int (0 : Int32)), (.ref r1)])) rfl rfl (hb hby own_d6_12)
  have f18_0 : Fld Z h18 a1 "com/example/feuillet/feuillet/Summary" "counts" "[J" (.ref r1) := Fc.other W18 (Or.inl ne_a1_r1)
  have f18_2 : Fld Z h18 v1 "java/lang/Enum" "ordinal" "I" (.int (0 : Int32)) := Fo.other W18 (Or.inl ne_v1_r1)
  have f18_3 : Exa Z h18 v1 "com/example/feuillet/feuillet/Verdict" := Eo.wr W18
  have V18 : Arv Z h18 r1 kc .long (3 : Int32) [(.long (w0 + (1 : Int64))), (.long w1), (.long w2)] (.long (0 : Int64)) := Arv.set Ar18 q18 S18 N18_ H18 G18 rfl W18 0 rfl (Nat.le_of_ble_eq_true rfl)
  have N18 := Fr.snoc X18 N16 g_r1
  have K18 : Keep h0 h18 [r1] := K0.wr W18 (Or.inl (by simp))
  refine own_step (U' := (T18.setTop (mkF m 13 #[.val (.ref a1), .val (.ref v1)] []))) (fun t ht => st18 _ ht) ?_
  refine own_ret X18 (v := none) (fun _ => rfl) Bd.notSynchronized (by decide) (by decide) ?_ (fun fs hr => X18.returnOut hx Bd.returns (hb hby own_d6_13) hr)
  show own_Q_add0 Z a1 v1 r1 kc w0 w1 w2 h0 n0 _ T18.heap _
  rw [e18]
  exact ⟨rfl, N18, K18, V18⟩
theorem own_pn3 : plainName "com/example/feuillet/feuillet/SummaryDocumentsPinLaw" = true := by first | (simp [plainName, overriddenIn]; done) | decide +kernel
theorem own_d5_0 : decode method_2_code 0 = .ok (.iload_n 0, 1) := by decide +kernel
theorem own_d5_1 : decode method_2_code 1 = .ok (.ifCond .ne 7, 3) := by decide +kernel
theorem own_d5_4 : decode method_2_code 4 = .ok (.getstatic 7, 3) := by decide +kernel
theorem own_d5_7 : decode method_2_code 7 = .ok (.areturn, 1) := by decide +kernel
def own_Q_pick0 (Z : State) (x0 : Addr) (h0 : Heap) (n0 : Nat) (v : Option Value) (h : Heap) (L : List Loc) : Prop := v = some (.ref x0) ∧ Fr n0 L ∧ h = h0
set_option maxRecDepth 65536 in
set_option maxHeartbeats 40000000 in
theorem own_m_pick0 (l : Launch) (Z : State) (a0 : Array Value) (hw : ∀ d ∈ tables_1, d.before a0 Z = true) (ws : List Jvm.Cond) (x0 : Addr) (h0 : Heap) (n0 : Nat) (Z0 : n0 ≤ h0.size) (S0 : Sta Z h0 "com/example/feuillet/feuillet/Verdict" "CONFORMANT" "Lcom/example/feuillet/feuillet/Verdict;" (.ref x0)) :
    MetFree l (⟨"com/example/feuillet/feuillet/SummaryDocumentsPinLaw", "pick", "(I)Lcom/example/feuillet/feuillet/Verdict;"⟩ : MethodName) (head1 (Jvm.Cond.code (⟨"com/example/feuillet/feuillet/SummaryDocumentsPinLaw", "pick", "(I)Lcom/example/feuillet/feuillet/Verdict;"⟩ : MethodName) method_2_code 1 (some (.object "com/example/feuillet/feuillet/Verdict")) :: ws) ({ frames := 0, cells := 0, slots := 0, locals := 0 } : Room)) (fun a U => a = #[(.int (0 : Int32))] ∧ Z.Warmed39 U.vm ∧ U.heap = h0) (fun _ _ _ _ _ => True) (fun _ U o U' => ∃ v L, o = .returned v ∧ own_Q_pick0 Z x0 h0 n0 v U'.heap L ∧ FrameEnd U o U' L ({ frames := 0, cells := 0, slots := 0, locals := 0 } : Room).cells ({ frames := 0, cells := 0, slots := 0, locals := 0 } : Room).slots) := by
  refine MetFree.of_bodySF (plainFor_of_name own_pn3) hisR ?_
  intro p e s m args below meth c s₁ Bd hml0 hP hK
  obtain ⟨rfl, hZ, hh⟩ := hP
  have hx := Bd.exec
  have hby := Bd.bytes
  have hml : c.maxLocals = 1 := hml0
  have hown : s.vm.findClass "com/example/feuillet/feuillet/SummaryDocumentsPinLaw" = some m.cls := findClass_of_methodNamed Bd.named
  have hnm := (name_of_methodNamed Bd.named Bd.method).1
  have X0 : Stand p l e ({ frames := 0, cells := 0, slots := 0, locals := 0 } : Room) s m #[(.int (0 : Int32))] below meth c s₁ [] 0 0 := Stand.of_body Bd
  have e0 : s₁.heap = h0 := by rw [← hh, Bd.state]; rfl
  have N0 := Fr.nil n0
  have K0 : Keep h0 h0 [] := Keep.refl _ _
  show own_Go p e below s ({ frames := 0, cells := 0, slots := 0, locals := 0 } : Room).cells ({ frames := 0, cells := 0, slots := 0, locals := 0 } : Room).slots (own_Q_pick0 Z x0 h0 n0) (s₁.setTop (entryFrame m #[(.int (0 : Int32))] 1))
  have ef : entryFrame m #[(.int (0 : Int32))] 1 = (mkF m 0 #[.val (.int (0 : Int32))] []) := by first | rfl | (simp [entryFrame, mkF, argsToLocals, Value.category, maxLocals]; done)
  rw [ef]
  show own_Go p e below s _ _ _ (s₁.setTop (mkF m 0 #[.val (.int (0 : Int32))] []))
  refine own_step (U' := (s₁.setTop (mkF m 1 #[.val (.int (0 : Int32))] [(.int (0 : Int32))]))) (fun t ht => XS.iloadN X0.here hx rfl (hb hby own_d5_0) rfl ht) ?_
  refine own_step (U' := (s₁.setTop (mkF m 4 #[.val (.int (0 : Int32))] []))) (fun t ht => XS.ifNo X0.here hx rfl (hb hby own_d5_1) rfl (XT.i0_ne_f ((by decide) : (0 : Int32) = 0)) ht) ?_
  obtain ⟨T19, X19, e19, st19⟩ := getS2 X0 hx hZ hown (host := "") (Or.inl (hw _ (List.mem_of_getElem? (i := 40) rfl))) Via.refl e0 S0 (g := (mkF m 4 #[.val (.int (0 : Int32))] [])) rfl (hb hby own_d5_4)
  refine own_step (U' := (T19.setTop (mkF m 7 #[.val (.int (0 : Int32))] [(.ref x0)]))) (fun t ht => st19 _ ht) ?_
  refine own_ret X19 (v := (some (.ref x0))) (fun h => by rw [Bd.returns] at h; cases h) Bd.notSynchronized (by decide) (by decide) ?_ (fun fs hr => retOut X19 hx Bd.returns (own_narR rfl) (Or.inr (Or.inr (Or.inr (Or.inr ⟨rfl, rfl, rfl⟩)))) (hb hby own_d5_7) hr)
  show own_Q_pick0 Z x0 h0 n0 _ T19.heap _
  rw [e19]
  exact ⟨rfl, N0, rfl⟩
def own_Q_add1 (Z : State) (a1 : Addr) (v1 : Addr) (r1 : Addr) (kc : ClassId) (w0 : Int64) (w1 : Int64) (w2 : Int64) (h0 : Heap) (n0 : Nat) (v : Option Value) (h : Heap) (L : List Loc) : Prop := v = none ∧ Fr n0 L ∧ Keep h0 h [r1] ∧ (Arv Z h r1 kc .long (3 : Int32) [(.long w0), (.long (w1 + (1 : Int64))), (.long w2)] (.long (0 : Int64)))
set_option maxRecDepth 65536 in
set_option maxHeartbeats 40000000 in
theorem own_m_add1 (l : Launch) (Z : State) (a0 : Array Value) (hw : ∀ d ∈ tables_1, d.before a0 Z = true) (ws : List Jvm.Cond) (a1 : Addr) (v1 : Addr) (r1 : Addr) (kc : ClassId) (w0 : Int64) (w1 : Int64) (w2 : Int64) (h0 : Heap) (n0 : Nat) (Z0 : n0 ≤ h0.size) (g_r1 : n0 ≤ r1) (ne_a1_r1 : a1 ≠ r1) (ne_v1_r1 : v1 ≠ r1) (Fc : Fld Z h0 a1 "com/example/feuillet/feuillet/Summary" "counts" "[J" (.ref r1)) (V_c : Arv Z h0 r1 kc .long (3 : Int32) [(.long w0), (.long w1), (.long w2)] (.long (0 : Int64))) (Fo : Fld Z h0 v1 "java/lang/Enum" "ordinal" "I" (.int (1 : Int32))) (Eo : Exa Z h0 v1 "com/example/feuillet/feuillet/Verdict") :
    MetFree l (⟨"com/example/feuillet/feuillet/Summary", "add", "(Lcom/example/feuillet/feuillet/Verdict;)V"⟩ : MethodName) (head1 (Jvm.Cond.code (⟨"com/example/feuillet/feuillet/Summary", "add", "(Lcom/example/feuillet/feuillet/Verdict;)V"⟩ : MethodName) prog_94_method_2_code 2 none :: ws) ({ frames := 1, cells := 0, slots := 0, locals := 13 } : Room)) (fun a U => a = #[(.ref a1), (.ref v1)] ∧ Z.Warmed39 U.vm ∧ U.heap = h0) (fun _ _ _ _ _ => True) (fun _ U o U' => ∃ v L, o = .returned v ∧ own_Q_add1 Z a1 v1 r1 kc w0 w1 w2 h0 n0 v U'.heap L ∧ FrameEnd U o U' L ({ frames := 1, cells := 0, slots := 0, locals := 13 } : Room).cells ({ frames := 1, cells := 0, slots := 0, locals := 13 } : Room).slots) := by
  refine MetFree.of_bodySF (plainFor_of_name own_pn1) hisR ?_
  intro p e s m args below meth c s₁ Bd hml0 hP hK
  obtain ⟨rfl, hZ, hh⟩ := hP
  have hx := Bd.exec
  have hby := Bd.bytes
  have hml : c.maxLocals = 2 := hml0
  have hown : s.vm.findClass "com/example/feuillet/feuillet/Summary" = some m.cls := findClass_of_methodNamed Bd.named
  have hnm := (name_of_methodNamed Bd.named Bd.method).1
  have X0 : Stand p l e ({ frames := 1, cells := 0, slots := 0, locals := 13 } : Room) s m #[(.ref a1), (.ref v1)] below meth c s₁ [] 0 0 := Stand.of_body Bd
  have e0 : s₁.heap = h0 := by rw [← hh, Bd.state]; rfl
  have N0 := Fr.nil n0
  have K0 : Keep h0 h0 [r1] := Keep.refl _ _
  show own_Go p e below s ({ frames := 1, cells := 0, slots := 0, locals := 13 } : Room).cells ({ frames := 1, cells := 0, slots := 0, locals := 13 } : Room).slots (own_Q_add1 Z a1 v1 r1 kc w0 w1 w2 h0 n0) (s₁.setTop (entryFrame m #[(.ref a1), (.ref v1)] 2))
  have ef : entryFrame m #[(.ref a1), (.ref v1)] 2 = (mkF m 0 #[.val (.ref a1), .val (.ref v1)] []) := by first | rfl | (simp [entryFrame, mkF, argsToLocals, Value.category, maxLocals]; done)
  rw [ef]
  show own_Go p e below s _ _ _ (s₁.setTop (mkF m 0 #[.val (.ref a1), .val (.ref v1)] []))
  refine own_step (U' := (s₁.setTop (mkF m 1 #[.val (.ref a1), .val (.ref v1)] [(.ref a1)]))) (fun t ht => XS.aloadN X0.here hx rfl (hb hby own_d6_0) rfl rfl ht) ?_
  obtain ⟨T20, X20, e20, st20⟩ := getF X0 hx hZ hown (host := "") (Or.inl (hw _ (List.mem_of_getElem? (i := 29) rfl))) Via.refl e0 Fc (g := (mkF m 1 #[.val (.ref a1), .val (.ref v1)] [(.ref a1)])) rfl rfl (hb hby own_d6_1)
  refine own_step (U' := (T20.setTop (mkF m 4 #[.val (.ref a1), .val (.ref v1)] [(.ref r1)]))) (fun t ht => st20 _ ht) ?_
  refine own_step (U' := (T20.setTop (mkF m 5 #[.val (.ref a1), .val (.ref v1)] [(.ref v1), (.ref r1)]))) (fun t ht => XS.aloadN X20.here hx rfl (hb hby own_d6_4) rfl rfl ht) ?_
  obtain ⟨cq21, kq21, q21a, q21b, q21c⟩ := isOf hZ e20 Eo
  obtain ⟨_, _, ⟨T21, L21, k21, n21⟩, -, X21, ⟨Lc21, hQ21, l21, y21, z21⟩, st21⟩ := X20.virtualBackUp hx (x := (⟨"com/example/feuillet/feuillet/Verdict", "ordinal", "()I"⟩ : MethodName)) (y := (⟨"java/lang/Enum", "ordinal", "()I"⟩ : MethodName)) hown (mvT hZ (hw _ (List.mem_of_getElem? (i := 46) rfl))) (mvT hZ (hw _ (List.mem_of_getElem? (i := 47) rfl))) (mvT hZ (hw _ (List.mem_of_getElem? (i := 48) rfl))) (by decide) (mvT hZ (hw _ (List.mem_of_getElem? (i := 50) rfl))) (mvT hZ (hw _ (List.mem_of_getElem? (i := 49) rfl))) (backOf (W := 1) (own_m_ord l Z a0 hw [] (v1) ((1 : Int32)) h0 n0 Z0 Fo) hZ (hw _ (List.mem_of_getElem? (i := 52) rfl)) (hw _ (List.mem_of_getElem? (i := 51) rfl)) (by decide) (by decide)) q21a q21c (g := (mkF m 5 #[.val (.ref a1), .val (.ref v1)] [(.ref v1), (.ref r1)])) rfl (by rw [hml]; rfl) (Steps.refl _) (argsL := []) (rest := [(.ref r1)]) (lenOf own_pd1 rfl) rfl (by show 2 * 0 + _ ≤ _; exact Nat.le_of_eq rfl) (hb hby own_d6_5) (fun _ _ => ⟨rfl, e20, (by decide : 0 + 0 ≤ _), (by decide : 0 + 0 ≤ _)⟩)
  dsimp only [Pt.U, Pt.locs, Pt.cells, Pt.slots] at X21 l21 y21 z21 st21 hQ21
  subst l21 y21 z21
  obtain ⟨rfl, Nq21, Kq21⟩ := hQ21
  have N21 := Fr.app N0 Nq21
  have e21 : T21.heap = h0 := Kq21
  refine own_step (U' := (T21.setTop (mkF m 8 #[.val (.ref a1), .val (.ref v1)] [(.int (1 : Int32)), (.ref r1)]))) (fun t ht => st21.trans ht) ?_
  refine own_step (U' := (T21.setTop (mkF m 9 #[.val (.ref a1), .val (.ref v1)] [(.int (1 : Int32)), (.ref r1), (.int (1 : Int32)), (.ref r1)]))) (fun t ht => XT.dup2 X21.here hx rfl (hb hby own_d6_8) rfl rfl rfl ht) ?_
  obtain ⟨cl22, Ar22, q22, S22, N22_, H22, G22⟩ := (id V_c)
  have hin22 : ¬ ((1 : Int32) < 0 ∨ cl22.slots.size ≤ ((1 : Int32)).toNatClampNeg) := inb_of S22 ⟨by decide, by decide⟩
  have hat22 : cl22.slots[((1 : Int32)).toNatClampNeg]? = some (.long w1) := Has.at H22 hin22 rfl
  refine own_step (U' := (T21.setTop (mkF m 10 #[.val (.ref a1), .val (.ref v1)] [(.long w1), (.int (1 : Int32)), (.ref r1)]))) (fun t ht => X21.laload hx (j := (1 : Int32)) (v := (.long w1)) (own_at e21 Ar22.1) (State.isArrayOf_alike hZ.alike Ar22.2.1) Ar22.2.2 hin22 hat22 (g := (mkF m 9 #[.val (.ref a1), .val (.ref v1)] [(.int (1 : Int32)), (.ref r1), (.int (1 : Int32)), (.ref r1)])) rfl rfl (hb hby own_d6_9) _ ht) ?_
  refine own_step (U' := (T21.setTop (mkF m 11 #[.val (.ref a1), .val (.ref v1)] [(.long (1 : Int64)), (.long w1), (.int (1 : Int32)), (.ref r1)]))) (fun t ht => XT.lconstV X21.here hx rfl (1 : Int64) (hb hby own_d6_10) rfl ht) ?_
  refine own_step (U' := (T21.setTop (mkF m 12 #[.val (.ref a1), .val (.ref v1)] [(.long (w1 + (1 : Int64))), (.int (1 : Int32)), (.ref r1)]))) (fun t ht => XT.ladd X21.here hx rfl (hb hby own_d6_11) rfl ht) ?_
  obtain ⟨cl23, Ar23, q23, S23, N23_, H23, G23⟩ := (id V_c)
  have hin23 : ¬ ((1 : Int32) < 0 ∨ cl23.slots.size ≤ ((1 : Int32)).toNatClampNeg) := inb_of S23 ⟨by decide, by decide⟩
  obtain ⟨T23, h23, X23, e23, W23, st23⟩ := stJ X21 hx hZ e21 Ar23 (j := (1 : Int32)) hin23 (g := (mkF m 12 #[.val (.ref a1), .val (.ref v1)] [(.long (w1 + (1 : Int64))), (.int (1 : Int32)), (.ref r1)])) rfl rfl (hb hby own_d6_12)
  have f23_0 : Fld Z h23 a1 "com/example/feuillet/feuillet/Summary" "counts" "[J" (.ref r1) := Fc.other W23 (Or.inl ne_a1_r1)
  have f23_2 : Fld Z h23 v1 "java/lang/Enum" "ordinal" "I" (.int (1 : Int32)) := Fo.other W23 (Or.inl ne_v1_r1)
  have f23_3 : Exa Z h23 v1 "com/example/feuillet/feuillet/Verdict" := Eo.wr W23
  have V23 : Arv Z h23 r1 kc .long (3 : Int32) [(.long w0), (.long (w1 + (1 : Int64))), (.long w2)] (.long (0 : Int64)) := Arv.set Ar23 q23 S23 N23_ H23 G23 rfl W23 1 rfl (Nat.le_of_ble_eq_true rfl)
  have N23 := Fr.snoc X23 N21 g_r1
  have K23 : Keep h0 h23 [r1] := K0.wr W23 (Or.inl (by simp))
  refine own_step (U' := (T23.setTop (mkF m 13 #[.val (.ref a1), .val (.ref v1)] []))) (fun t ht => st23 _ ht) ?_
  refine own_ret X23 (v := none) (fun _ => rfl) Bd.notSynchronized (by decide) (by decide) ?_ (fun fs hr => X23.returnOut hx Bd.returns (hb hby own_d6_13) hr)
  show own_Q_add1 Z a1 v1 r1 kc w0 w1 w2 h0 n0 _ T23.heap _
  rw [e23]
  exact ⟨rfl, N23, K23, V23⟩
theorem own_d5_8 : decode method_2_code 8 = .ok (.iload_n 0, 1) := by decide +kernel
theorem own_d5_9 : decode method_2_code 9 = .ok (.iconst 1, 1) := by decide +kernel
theorem own_d5_10 : decode method_2_code 10 = .ok (.if_icmp .ne 7, 3) := by decide +kernel
theorem own_d5_13 : decode method_2_code 13 = .ok (.getstatic 13, 3) := by decide +kernel
theorem own_d5_16 : decode method_2_code 16 = .ok (.areturn, 1) := by decide +kernel
def own_Q_pick1 (Z : State) (x1 : Addr) (h0 : Heap) (n0 : Nat) (v : Option Value) (h : Heap) (L : List Loc) : Prop := v = some (.ref x1) ∧ Fr n0 L ∧ h = h0
set_option maxRecDepth 65536 in
set_option maxHeartbeats 40000000 in
theorem own_m_pick1 (l : Launch) (Z : State) (a0 : Array Value) (hw : ∀ d ∈ tables_1, d.before a0 Z = true) (ws : List Jvm.Cond) (x1 : Addr) (h0 : Heap) (n0 : Nat) (Z0 : n0 ≤ h0.size) (S1 : Sta Z h0 "com/example/feuillet/feuillet/Verdict" "NOT_CONFORMANT" "Lcom/example/feuillet/feuillet/Verdict;" (.ref x1)) :
    MetFree l (⟨"com/example/feuillet/feuillet/SummaryDocumentsPinLaw", "pick", "(I)Lcom/example/feuillet/feuillet/Verdict;"⟩ : MethodName) (head1 (Jvm.Cond.code (⟨"com/example/feuillet/feuillet/SummaryDocumentsPinLaw", "pick", "(I)Lcom/example/feuillet/feuillet/Verdict;"⟩ : MethodName) method_2_code 1 (some (.object "com/example/feuillet/feuillet/Verdict")) :: ws) ({ frames := 0, cells := 0, slots := 0, locals := 0 } : Room)) (fun a U => a = #[(.int (1 : Int32))] ∧ Z.Warmed39 U.vm ∧ U.heap = h0) (fun _ _ _ _ _ => True) (fun _ U o U' => ∃ v L, o = .returned v ∧ own_Q_pick1 Z x1 h0 n0 v U'.heap L ∧ FrameEnd U o U' L ({ frames := 0, cells := 0, slots := 0, locals := 0 } : Room).cells ({ frames := 0, cells := 0, slots := 0, locals := 0 } : Room).slots) := by
  refine MetFree.of_bodySF (plainFor_of_name own_pn3) hisR ?_
  intro p e s m args below meth c s₁ Bd hml0 hP hK
  obtain ⟨rfl, hZ, hh⟩ := hP
  have hx := Bd.exec
  have hby := Bd.bytes
  have hml : c.maxLocals = 1 := hml0
  have hown : s.vm.findClass "com/example/feuillet/feuillet/SummaryDocumentsPinLaw" = some m.cls := findClass_of_methodNamed Bd.named
  have hnm := (name_of_methodNamed Bd.named Bd.method).1
  have X0 : Stand p l e ({ frames := 0, cells := 0, slots := 0, locals := 0 } : Room) s m #[(.int (1 : Int32))] below meth c s₁ [] 0 0 := Stand.of_body Bd
  have e0 : s₁.heap = h0 := by rw [← hh, Bd.state]; rfl
  have N0 := Fr.nil n0
  have K0 : Keep h0 h0 [] := Keep.refl _ _
  show own_Go p e below s ({ frames := 0, cells := 0, slots := 0, locals := 0 } : Room).cells ({ frames := 0, cells := 0, slots := 0, locals := 0 } : Room).slots (own_Q_pick1 Z x1 h0 n0) (s₁.setTop (entryFrame m #[(.int (1 : Int32))] 1))
  have ef : entryFrame m #[(.int (1 : Int32))] 1 = (mkF m 0 #[.val (.int (1 : Int32))] []) := by first | rfl | (simp [entryFrame, mkF, argsToLocals, Value.category, maxLocals]; done)
  rw [ef]
  show own_Go p e below s _ _ _ (s₁.setTop (mkF m 0 #[.val (.int (1 : Int32))] []))
  refine own_step (U' := (s₁.setTop (mkF m 1 #[.val (.int (1 : Int32))] [(.int (1 : Int32))]))) (fun t ht => XS.iloadN X0.here hx rfl (hb hby own_d5_0) rfl ht) ?_
  refine own_step (U' := (s₁.setTop (mkF m 8 #[.val (.int (1 : Int32))] []))) (fun t ht => XS.ifYes X0.here hx rfl (pc0 := 1) (pc' := 8) rfl (hb hby own_d5_1) rfl (XT.i0_ne_t ((by decide) : ¬ ((1 : Int32) = 0))) (by decide) (by decide) ht) ?_
  refine own_step (U' := (s₁.setTop (mkF m 9 #[.val (.int (1 : Int32))] [(.int (1 : Int32))]))) (fun t ht => XS.iloadN X0.here hx rfl (hb hby own_d5_8) rfl ht) ?_
  refine own_step (U' := (s₁.setTop (mkF m 10 #[.val (.int (1 : Int32))] [(.int (1 : Int32)), (.int (1 : Int32))]))) (fun t ht => XS.iconst X0.here hx rfl (hb hby own_d5_9) ht) ?_
  refine own_step (U' := (s₁.setTop (mkF m 13 #[.val (.int (1 : Int32))] []))) (fun t ht => XS.icmpNo X0.here hx rfl (hb hby own_d5_10) rfl (XT.ii_ne_f ((by decide) : (1 : Int32) = (1 : Int32))) ht) ?_
  obtain ⟨T24, X24, e24, st24⟩ := getS2 X0 hx hZ hown (host := "") (Or.inl (hw _ (List.mem_of_getElem? (i := 56) rfl))) Via.refl e0 S1 (g := (mkF m 13 #[.val (.int (1 : Int32))] [])) rfl (hb hby own_d5_13)
  refine own_step (U' := (T24.setTop (mkF m 16 #[.val (.int (1 : Int32))] [(.ref x1)]))) (fun t ht => st24 _ ht) ?_
  refine own_ret X24 (v := (some (.ref x1))) (fun h => by rw [Bd.returns] at h; cases h) Bd.notSynchronized (by decide) (by decide) ?_ (fun fs hr => retOut X24 hx Bd.returns (own_narR rfl) (Or.inr (Or.inr (Or.inr (Or.inr ⟨rfl, rfl, rfl⟩)))) (hb hby own_d5_16) hr)
  show own_Q_pick1 Z x1 h0 n0 _ T24.heap _
  rw [e24]
  exact ⟨rfl, N0, rfl⟩
def own_Q_add2 (Z : State) (a1 : Addr) (v1 : Addr) (r1 : Addr) (kc : ClassId) (w0 : Int64) (w1 : Int64) (w2 : Int64) (h0 : Heap) (n0 : Nat) (v : Option Value) (h : Heap) (L : List Loc) : Prop := v = none ∧ Fr n0 L ∧ Keep h0 h [r1] ∧ (Arv Z h r1 kc .long (3 : Int32) [(.long w0), (.long w1), (.long (w2 + (1 : Int64)))] (.long (0 : Int64)))
set_option maxRecDepth 65536 in
set_option maxHeartbeats 40000000 in
theorem own_m_add2 (l : Launch) (Z : State) (a0 : Array Value) (hw : ∀ d ∈ tables_1, d.before a0 Z = true) (ws : List Jvm.Cond) (a1 : Addr) (v1 : Addr) (r1 : Addr) (kc : ClassId) (w0 : Int64) (w1 : Int64) (w2 : Int64) (h0 : Heap) (n0 : Nat) (Z0 : n0 ≤ h0.size) (g_r1 : n0 ≤ r1) (ne_a1_r1 : a1 ≠ r1) (ne_v1_r1 : v1 ≠ r1) (Fc : Fld Z h0 a1 "com/example/feuillet/feuillet/Summary" "counts" "[J" (.ref r1)) (V_c : Arv Z h0 r1 kc .long (3 : Int32) [(.long w0), (.long w1), (.long w2)] (.long (0 : Int64))) (Fo : Fld Z h0 v1 "java/lang/Enum" "ordinal" "I" (.int (2 : Int32))) (Eo : Exa Z h0 v1 "com/example/feuillet/feuillet/Verdict") :
    MetFree l (⟨"com/example/feuillet/feuillet/Summary", "add", "(Lcom/example/feuillet/feuillet/Verdict;)V"⟩ : MethodName) (head1 (Jvm.Cond.code (⟨"com/example/feuillet/feuillet/Summary", "add", "(Lcom/example/feuillet/feuillet/Verdict;)V"⟩ : MethodName) prog_94_method_2_code 2 none :: ws) ({ frames := 1, cells := 0, slots := 0, locals := 13 } : Room)) (fun a U => a = #[(.ref a1), (.ref v1)] ∧ Z.Warmed39 U.vm ∧ U.heap = h0) (fun _ _ _ _ _ => True) (fun _ U o U' => ∃ v L, o = .returned v ∧ own_Q_add2 Z a1 v1 r1 kc w0 w1 w2 h0 n0 v U'.heap L ∧ FrameEnd U o U' L ({ frames := 1, cells := 0, slots := 0, locals := 13 } : Room).cells ({ frames := 1, cells := 0, slots := 0, locals := 13 } : Room).slots) := by
  refine MetFree.of_bodySF (plainFor_of_name own_pn1) hisR ?_
  intro p e s m args below meth c s₁ Bd hml0 hP hK
  obtain ⟨rfl, hZ, hh⟩ := hP
  have hx := Bd.exec
  have hby := Bd.bytes
  have hml : c.maxLocals = 2 := hml0
  have hown : s.vm.findClass "com/example/feuillet/feuillet/Summary" = some m.cls := findClass_of_methodNamed Bd.named
  have hnm := (name_of_methodNamed Bd.named Bd.method).1
  have X0 : Stand p l e ({ frames := 1, cells := 0, slots := 0, locals := 13 } : Room) s m #[(.ref a1), (.ref v1)] below meth c s₁ [] 0 0 := Stand.of_body Bd
  have e0 : s₁.heap = h0 := by rw [← hh, Bd.state]; rfl
  have N0 := Fr.nil n0
  have K0 : Keep h0 h0 [r1] := Keep.refl _ _
  show own_Go p e below s ({ frames := 1, cells := 0, slots := 0, locals := 13 } : Room).cells ({ frames := 1, cells := 0, slots := 0, locals := 13 } : Room).slots (own_Q_add2 Z a1 v1 r1 kc w0 w1 w2 h0 n0) (s₁.setTop (entryFrame m #[(.ref a1), (.ref v1)] 2))
  have ef : entryFrame m #[(.ref a1), (.ref v1)] 2 = (mkF m 0 #[.val (.ref a1), .val (.ref v1)] []) := by first | rfl | (simp [entryFrame, mkF, argsToLocals, Value.category, maxLocals]; done)
  rw [ef]
  show own_Go p e below s _ _ _ (s₁.setTop (mkF m 0 #[.val (.ref a1), .val (.ref v1)] []))
  refine own_step (U' := (s₁.setTop (mkF m 1 #[.val (.ref a1), .val (.ref v1)] [(.ref a1)]))) (fun t ht => XS.aloadN X0.here hx rfl (hb hby own_d6_0) rfl rfl ht) ?_
  obtain ⟨T25, X25, e25, st25⟩ := getF X0 hx hZ hown (host := "") (Or.inl (hw _ (List.mem_of_getElem? (i := 29) rfl))) Via.refl e0 Fc (g := (mkF m 1 #[.val (.ref a1), .val (.ref v1)] [(.ref a1)])) rfl rfl (hb hby own_d6_1)
  refine own_step (U' := (T25.setTop (mkF m 4 #[.val (.ref a1), .val (.ref v1)] [(.ref r1)]))) (fun t ht => st25 _ ht) ?_
  refine own_step (U' := (T25.setTop (mkF m 5 #[.val (.ref a1), .val (.ref v1)] [(.ref v1), (.ref r1)]))) (fun t ht => XS.aloadN X25.here hx rfl (hb hby own_d6_4) rfl rfl ht) ?_
  obtain ⟨cq26, kq26, q26a, q26b, q26c⟩ := isOf hZ e25 Eo
  obtain ⟨_, _, ⟨T26, L26, k26, n26⟩, -, X26, ⟨Lc26, hQ26, l26, y26, z26⟩, st26⟩ := X25.virtualBackUp hx (x := (⟨"com/example/feuillet/feuillet/Verdict", "ordinal", "()I"⟩ : MethodName)) (y := (⟨"java/lang/Enum", "ordinal", "()I"⟩ : MethodName)) hown (mvT hZ (hw _ (List.mem_of_getElem? (i := 46) rfl))) (mvT hZ (hw _ (List.mem_of_getElem? (i := 47) rfl))) (mvT hZ (hw _ (List.mem_of_getElem? (i := 48) rfl))) (by decide) (mvT hZ (hw _ (List.mem_of_getElem? (i := 50) rfl))) (mvT hZ (hw _ (List.mem_of_getElem? (i := 49) rfl))) (backOf (W := 1) (own_m_ord l Z a0 hw [] (v1) ((2 : Int32)) h0 n0 Z0 Fo) hZ (hw _ (List.mem_of_getElem? (i := 52) rfl)) (hw _ (List.mem_of_getElem? (i := 51) rfl)) (by decide) (by decide)) q26a q26c (g := (mkF m 5 #[.val (.ref a1), .val (.ref v1)] [(.ref v1), (.ref r1)])) rfl (by rw [hml]; rfl) (Steps.refl _) (argsL := []) (rest := [(.ref r1)]) (lenOf own_pd1 rfl) rfl (by show 2 * 0 + _ ≤ _; exact Nat.le_of_eq rfl) (hb hby own_d6_5) (fun _ _ => ⟨rfl, e25, (by decide : 0 + 0 ≤ _), (by decide : 0 + 0 ≤ _)⟩)
  dsimp only [Pt.U, Pt.locs, Pt.cells, Pt.slots] at X26 l26 y26 z26 st26 hQ26
  subst l26 y26 z26
  obtain ⟨rfl, Nq26, Kq26⟩ := hQ26
  have N26 := Fr.app N0 Nq26
  have e26 : T26.heap = h0 := Kq26
  refine own_step (U' := (T26.setTop (mkF m 8 #[.val (.ref a1), .val (.ref v1)] [(.int (2 : Int32)), (.ref r1)]))) (fun t ht => st26.trans ht) ?_
  refine own_step (U' := (T26.setTop (mkF m 9 #[.val (.ref a1), .val (.ref v1)] [(.int (2 : Int32)), (.ref r1), (.int (2 : Int32)), (.ref r1)]))) (fun t ht => XT.dup2 X26.here hx rfl (hb hby own_d6_8) rfl rfl rfl ht) ?_
  obtain ⟨cl27, Ar27, q27, S27, N27_, H27, G27⟩ := (id V_c)
  have hin27 : ¬ ((2 : Int32) < 0 ∨ cl27.slots.size ≤ ((2 : Int32)).toNatClampNeg) := inb_of S27 ⟨by decide, by decide⟩
  have hat27 : cl27.slots[((2 : Int32)).toNatClampNeg]? = some (.long w2) := Has.at H27 hin27 rfl
  refine own_step (U' := (T26.setTop (mkF m 10 #[.val (.ref a1), .val (.ref v1)] [(.long w2), (.int (2 : Int32)), (.ref r1)]))) (fun t ht => X26.laload hx (j := (2 : Int32)) (v := (.long w2)) (own_at e26 Ar27.1) (State.isArrayOf_alike hZ.alike Ar27.2.1) Ar27.2.2 hin27 hat27 (g := (mkF m 9 #[.val (.ref a1), .val (.ref v1)] [(.int (2 : Int32)), (.ref r1), (.int (2 : Int32)), (.ref r1)])) rfl rfl (hb hby own_d6_9) _ ht) ?_
  refine own_step (U' := (T26.setTop (mkF m 11 #[.val (.ref a1), .val (.ref v1)] [(.long (1 : Int64)), (.long w2), (.int (2 : Int32)), (.ref r1)]))) (fun t ht => XT.lconstV X26.here hx rfl (1 : Int64) (hb hby own_d6_10) rfl ht) ?_
  refine own_step (U' := (T26.setTop (mkF m 12 #[.val (.ref a1), .val (.ref v1)] [(.long (w2 + (1 : Int64))), (.int (2 : Int32)), (.ref r1)]))) (fun t ht => XT.ladd X26.here hx rfl (hb hby own_d6_11) rfl ht) ?_
  obtain ⟨cl28, Ar28, q28, S28, N28_, H28, G28⟩ := (id V_c)
  have hin28 : ¬ ((2 : Int32) < 0 ∨ cl28.slots.size ≤ ((2 : Int32)).toNatClampNeg) := inb_of S28 ⟨by decide, by decide⟩
  obtain ⟨T28, h28, X28, e28, W28, st28⟩ := stJ X26 hx hZ e26 Ar28 (j := (2 : Int32)) hin28 (g := (mkF m 12 #[.val (.ref a1), .val (.ref v1)] [(.long (w2 + (1 : Int64))), (.int (2 : Int32)), (.ref r1)])) rfl rfl (hb hby own_d6_12)
  have f28_0 : Fld Z h28 a1 "com/example/feuillet/feuillet/Summary" "counts" "[J" (.ref r1) := Fc.other W28 (Or.inl ne_a1_r1)
  have f28_2 : Fld Z h28 v1 "java/lang/Enum" "ordinal" "I" (.int (2 : Int32)) := Fo.other W28 (Or.inl ne_v1_r1)
  have f28_3 : Exa Z h28 v1 "com/example/feuillet/feuillet/Verdict" := Eo.wr W28
  have V28 : Arv Z h28 r1 kc .long (3 : Int32) [(.long w0), (.long w1), (.long (w2 + (1 : Int64)))] (.long (0 : Int64)) := Arv.set Ar28 q28 S28 N28_ H28 G28 rfl W28 2 rfl (Nat.le_of_ble_eq_true rfl)
  have N28 := Fr.snoc X28 N26 g_r1
  have K28 : Keep h0 h28 [r1] := K0.wr W28 (Or.inl (by simp))
  refine own_step (U' := (T28.setTop (mkF m 13 #[.val (.ref a1), .val (.ref v1)] []))) (fun t ht => st28 _ ht) ?_
  refine own_ret X28 (v := none) (fun _ => rfl) Bd.notSynchronized (by decide) (by decide) ?_ (fun fs hr => X28.returnOut hx Bd.returns (hb hby own_d6_13) hr)
  show own_Q_add2 Z a1 v1 r1 kc w0 w1 w2 h0 n0 _ T28.heap _
  rw [e28]
  exact ⟨rfl, N28, K28, V28⟩
theorem own_d5_17 : decode method_2_code 17 = .ok (.getstatic 16, 3) := by decide +kernel
theorem own_d5_20 : decode method_2_code 20 = .ok (.areturn, 1) := by decide +kernel
def own_Q_pick2 (Z : State) (x2 : Addr) (h0 : Heap) (n0 : Nat) (v : Option Value) (h : Heap) (L : List Loc) : Prop := v = some (.ref x2) ∧ Fr n0 L ∧ h = h0
set_option maxRecDepth 65536 in
set_option maxHeartbeats 40000000 in
theorem own_m_pick2 (l : Launch) (Z : State) (a0 : Array Value) (hw : ∀ d ∈ tables_1, d.before a0 Z = true) (ws : List Jvm.Cond) (x2 : Addr) (h0 : Heap) (n0 : Nat) (Z0 : n0 ≤ h0.size) (S2 : Sta Z h0 "com/example/feuillet/feuillet/Verdict" "NOT_CHECKED" "Lcom/example/feuillet/feuillet/Verdict;" (.ref x2)) :
    MetFree l (⟨"com/example/feuillet/feuillet/SummaryDocumentsPinLaw", "pick", "(I)Lcom/example/feuillet/feuillet/Verdict;"⟩ : MethodName) (head1 (Jvm.Cond.code (⟨"com/example/feuillet/feuillet/SummaryDocumentsPinLaw", "pick", "(I)Lcom/example/feuillet/feuillet/Verdict;"⟩ : MethodName) method_2_code 1 (some (.object "com/example/feuillet/feuillet/Verdict")) :: ws) ({ frames := 0, cells := 0, slots := 0, locals := 0 } : Room)) (fun a U => a = #[(.int (2 : Int32))] ∧ Z.Warmed39 U.vm ∧ U.heap = h0) (fun _ _ _ _ _ => True) (fun _ U o U' => ∃ v L, o = .returned v ∧ own_Q_pick2 Z x2 h0 n0 v U'.heap L ∧ FrameEnd U o U' L ({ frames := 0, cells := 0, slots := 0, locals := 0 } : Room).cells ({ frames := 0, cells := 0, slots := 0, locals := 0 } : Room).slots) := by
  refine MetFree.of_bodySF (plainFor_of_name own_pn3) hisR ?_
  intro p e s m args below meth c s₁ Bd hml0 hP hK
  obtain ⟨rfl, hZ, hh⟩ := hP
  have hx := Bd.exec
  have hby := Bd.bytes
  have hml : c.maxLocals = 1 := hml0
  have hown : s.vm.findClass "com/example/feuillet/feuillet/SummaryDocumentsPinLaw" = some m.cls := findClass_of_methodNamed Bd.named
  have hnm := (name_of_methodNamed Bd.named Bd.method).1
  have X0 : Stand p l e ({ frames := 0, cells := 0, slots := 0, locals := 0 } : Room) s m #[(.int (2 : Int32))] below meth c s₁ [] 0 0 := Stand.of_body Bd
  have e0 : s₁.heap = h0 := by rw [← hh, Bd.state]; rfl
  have N0 := Fr.nil n0
  have K0 : Keep h0 h0 [] := Keep.refl _ _
  show own_Go p e below s ({ frames := 0, cells := 0, slots := 0, locals := 0 } : Room).cells ({ frames := 0, cells := 0, slots := 0, locals := 0 } : Room).slots (own_Q_pick2 Z x2 h0 n0) (s₁.setTop (entryFrame m #[(.int (2 : Int32))] 1))
  have ef : entryFrame m #[(.int (2 : Int32))] 1 = (mkF m 0 #[.val (.int (2 : Int32))] []) := by first | rfl | (simp [entryFrame, mkF, argsToLocals, Value.category, maxLocals]; done)
  rw [ef]
  show own_Go p e below s _ _ _ (s₁.setTop (mkF m 0 #[.val (.int (2 : Int32))] []))
  refine own_step (U' := (s₁.setTop (mkF m 1 #[.val (.int (2 : Int32))] [(.int (2 : Int32))]))) (fun t ht => XS.iloadN X0.here hx rfl (hb hby own_d5_0) rfl ht) ?_
  refine own_step (U' := (s₁.setTop (mkF m 8 #[.val (.int (2 : Int32))] []))) (fun t ht => XS.ifYes X0.here hx rfl (pc0 := 1) (pc' := 8) rfl (hb hby own_d5_1) rfl (XT.i0_ne_t ((by decide) : ¬ ((2 : Int32) = 0))) (by decide) (by decide) ht) ?_
  refine own_step (U' := (s₁.setTop (mkF m 9 #[.val (.int (2 : Int32))] [(.int (2 : Int32))]))) (fun t ht => XS.iloadN X0.here hx rfl (hb hby own_d5_8) rfl ht) ?_
  refine own_step (U' := (s₁.setTop (mkF m 10 #[.val (.int (2 : Int32))] [(.int (1 : Int32)), (.int (2 : Int32))]))) (fun t ht => XS.iconst X0.here hx rfl (hb hby own_d5_9) ht) ?_
  refine own_step (U' := (s₁.setTop (mkF m 17 #[.val (.int (2 : Int32))] []))) (fun t ht => XS.icmpYes X0.here hx rfl (pc0 := 10) (pc' := 17) rfl (hb hby own_d5_10) rfl (XT.ii_ne_t ((by decide) : ¬ ((2 : Int32) = (1 : Int32)))) (by decide) (by decide) ht) ?_
  obtain ⟨T29, X29, e29, st29⟩ := getS2 X0 hx hZ hown (host := "") (Or.inl (hw _ (List.mem_of_getElem? (i := 55) rfl))) Via.refl e0 S2 (g := (mkF m 17 #[.val (.int (2 : Int32))] [])) rfl (hb hby own_d5_17)
  refine own_step (U' := (T29.setTop (mkF m 20 #[.val (.int (2 : Int32))] [(.ref x2)]))) (fun t ht => st29 _ ht) ?_
  refine own_ret X29 (v := (some (.ref x2))) (fun h => by rw [Bd.returns] at h; cases h) Bd.notSynchronized (by decide) (by decide) ?_ (fun fs hr => retOut X29 hx Bd.returns (own_narR rfl) (Or.inr (Or.inr (Or.inr (Or.inr ⟨rfl, rfl, rfl⟩)))) (hb hby own_d5_20) hr)
  show own_Q_pick2 Z x2 h0 n0 _ T29.heap _
  rw [e29]
  exact ⟨rfl, N0, rfl⟩
theorem own_pd2 : parseMethodDescriptor "()V" = some ⟨[], none⟩ := by decide +kernel
theorem own_pd3 : parseMethodDescriptor "()J" = some ⟨[], some .long⟩ := by decide +kernel
theorem own_pd4 : parseMethodDescriptor "(I)Lcom/example/feuillet/feuillet/Verdict;" = some ⟨[.int], some (.object "com/example/feuillet/feuillet/Verdict")⟩ := by decide +kernel
theorem own_pd5 : parseMethodDescriptor "(Lcom/example/feuillet/feuillet/Verdict;)V" = some ⟨[(.object "com/example/feuillet/feuillet/Verdict")], none⟩ := by decide +kernel
def own_Q_law (Z : State) (p1 : Int32) (p2 : Int32) (p3 : Int32) (p4 : Int32) (xv : Addr) (kv : ClassId) (vv : List Value) (x0 : Addr) (x1 : Addr) (x2 : Addr) (h0 : Heap) (n0 : Nat) (v : Option Value) (h : Heap) (L : List Loc) : Prop := v = some (.int 1) ∧ Fr n0 L
set_option maxRecDepth 65536 in
set_option maxHeartbeats 40000000 in
theorem own_m_law (l : Launch) (Z : State) (a0 : Array Value) (hw : ∀ d ∈ tables_1, d.before a0 Z = true) (ws : List Jvm.Cond) (p1 : Int32) (p2 : Int32) (p3 : Int32) (p4 : Int32) (xv : Addr) (kv : ClassId) (vv : List Value) (x0 : Addr) (x1 : Addr) (x2 : Addr) (h0 : Heap) (n0 : Nat) (Z0 : n0 ≤ h0.size) (S_v : Sta Z h0 "com/example/feuillet/feuillet/Verdict" "$VALUES" "[Lcom/example/feuillet/feuillet/Verdict;" (.ref xv)) (V_v : Arv Z h0 xv kv (.object "com/example/feuillet/feuillet/Verdict") (3 : Int32) vv .null) (E_v : Exa Z h0 xv "[Lcom/example/feuillet/feuillet/Verdict;") (S0 : Sta Z h0 "com/example/feuillet/feuillet/Verdict" "CONFORMANT" "Lcom/example/feuillet/feuillet/Verdict;" (.ref x0)) (S1 : Sta Z h0 "com/example/feuillet/feuillet/Verdict" "NOT_CONFORMANT" "Lcom/example/feuillet/feuillet/Verdict;" (.ref x1)) (S2 : Sta Z h0 "com/example/feuillet/feuillet/Verdict" "NOT_CHECKED" "Lcom/example/feuillet/feuillet/Verdict;" (.ref x2)) (Fo0 : Fld Z h0 x0 "java/lang/Enum" "ordinal" "I" (.int (0 : Int32))) (Fo1 : Fld Z h0 x1 "java/lang/Enum" "ordinal" "I" (.int (1 : Int32))) (Fo2 : Fld Z h0 x2 "java/lang/Enum" "ordinal" "I" (.int (2 : Int32))) (Eo0 : Exa Z h0 x0 "com/example/feuillet/feuillet/Verdict") (Eo1 : Exa Z h0 x1 "com/example/feuillet/feuillet/Verdict") (Eo2 : Exa Z h0 x2 "com/example/feuillet/feuillet/Verdict") :
    MetFree l x (head1 (Jvm.Cond.code x code maxLocals ret :: ws) room_1) (fun a U => a = #[(.int p1), (.int p2), (.int p3), (.int p4)] ∧ Z.Warmed39 U.vm ∧ U.heap = h0) (fun _ _ _ _ _ => True) (fun _ U o U' => ∃ v L, o = .returned v ∧ own_Q_law Z p1 p2 p3 p4 xv kv vv x0 x1 x2 h0 n0 v U'.heap L ∧ FrameEnd U o U' L 3 7) := by
  refine MetFree.of_bodySF (plainFor_of_name own_pn3) hisR ?_
  intro p e s m args below meth c s₁ Bd hml0 hP hK
  obtain ⟨rfl, hZ, hh⟩ := hP
  have hx := Bd.exec
  have hby := Bd.bytes
  have hml : c.maxLocals = 15 := hml0
  have hown : s.vm.findClass "com/example/feuillet/feuillet/SummaryDocumentsPinLaw" = some m.cls := findClass_of_methodNamed Bd.named
  have hnm := (name_of_methodNamed Bd.named Bd.method).1
  have X0 : Stand p l e room_1 s m #[(.int p1), (.int p2), (.int p3), (.int p4)] below meth c s₁ [] 0 0 := Stand.of_body Bd
  have e0 : s₁.heap = h0 := by rw [← hh, Bd.state]; rfl
  have N0 := Fr.nil n0
  have K0 : Keep h0 h0 [] := Keep.refl _ _
  show own_Go p e below s 3 7 (own_Q_law Z p1 p2 p3 p4 xv kv vv x0 x1 x2 h0 n0) (s₁.setTop (entryFrame m #[(.int p1), (.int p2), (.int p3), (.int p4)] maxLocals))
  have ef : entryFrame m #[(.int p1), (.int p2), (.int p3), (.int p4)] maxLocals = (mkF m 0 #[.val (.int p1), .val (.int p2), .val (.int p3), .val (.int p4), .unset, .unset, .unset, .unset, .unset, .unset, .unset, .unset, .unset, .unset, .unset] []) := by first | rfl | (simp [entryFrame, mkF, argsToLocals, Value.category, maxLocals]; done)
  rw [ef]
  show own_Go p e below s _ _ _ (s₁.setTop (mkF m 0 #[.val (.int p1), .val (.int p2), .val (.int p3), .val (.int p4), .unset, .unset, .unset, .unset, .unset, .unset, .unset, .unset, .unset, .unset, .unset] []))
  refine own_step (U' := (s₁.setTop (mkF m 1 #[.val (.int p1), .val (.int p2), .val (.int p3), .val (.int p4), .unset, .unset, .unset, .unset, .unset, .unset, .unset, .unset, .unset, .unset, .unset] [(.int p1)]))) (fun t ht => XS.iloadN X0.here hx rfl (hb hby at_0) rfl ht) ?_
  refine own_step (U' := (s₁.setTop (mkF m 2 #[.val (.int p1), .val (.int p2), .val (.int p3), .val (.int p4), .unset, .unset, .unset, .unset, .unset, .unset, .unset, .unset, .unset, .unset, .unset] [(.int (3 : Int32)), (.int p1)]))) (fun t ht => XS.iconst X0.here hx rfl (hb hby at_1) ht) ?_
  refine own_step (U' := (s₁.setTop (mkF m 3 #[.val (.int p1), .val (.int p2), .val (.int p3), .val (.int p4), .unset, .unset, .unset, .unset, .unset, .unset, .unset, .unset, .unset, .unset, .unset] [(.int (p1 &&& (3 : Int32)))]))) (fun t ht => XS.iand X0.here hx rfl (hb hby at_2) rfl ht) ?_
  refine own_step (U' := (s₁.setTop (mkF m 5 #[.val (.int p1), .val (.int p2), .val (.int p3), .val (.int p4), .val (.int (p1 &&& (3 : Int32))), .unset, .unset, .unset, .unset, .unset, .unset, .unset, .unset, .unset, .unset] []))) (fun t ht => XS.istore X0.here hx rfl (hb hby at_3) rfl (l' := #[.val (.int p1), .val (.int p2), .val (.int p3), .val (.int p4), .val (.int (p1 &&& (3 : Int32))), .unset, .unset, .unset, .unset, .unset, .unset, .unset, .unset, .unset, .unset]) rfl ht) ?_
  generalize h_ka : (p1 &&& (3 : Int32)) = ka
  refine own_step (U' := (s₁.setTop (mkF m 6 #[.val (.int p1), .val (.int p2), .val (.int p3), .val (.int p4), .val (.int ka), .unset, .unset, .unset, .unset, .unset, .unset, .unset, .unset, .unset, .unset] [(.int p2)]))) (fun t ht => XS.iloadN X0.here hx rfl (hb hby at_5) rfl ht) ?_
  refine own_step (U' := (s₁.setTop (mkF m 7 #[.val (.int p1), .val (.int p2), .val (.int p3), .val (.int p4), .val (.int ka), .unset, .unset, .unset, .unset, .unset, .unset, .unset, .unset, .unset, .unset] [(.int (3 : Int32)), (.int p2)]))) (fun t ht => XS.iconst X0.here hx rfl (hb hby at_6) ht) ?_
  refine own_step (U' := (s₁.setTop (mkF m 8 #[.val (.int p1), .val (.int p2), .val (.int p3), .val (.int p4), .val (.int ka), .unset, .unset, .unset, .unset, .unset, .unset, .unset, .unset, .unset, .unset] [(.int (p2 &&& (3 : Int32)))]))) (fun t ht => XS.iand X0.here hx rfl (hb hby at_7) rfl ht) ?_
  refine own_step (U' := (s₁.setTop (mkF m 10 #[.val (.int p1), .val (.int p2), .val (.int p3), .val (.int p4), .val (.int ka), .val (.int (p2 &&& (3 : Int32))), .unset, .unset, .unset, .unset, .unset, .unset, .unset, .unset, .unset] []))) (fun t ht => XS.istore X0.here hx rfl (hb hby at_8) rfl (l' := #[.val (.int p1), .val (.int p2), .val (.int p3), .val (.int p4), .val (.int ka), .val (.int (p2 &&& (3 : Int32))), .unset, .unset, .unset, .unset, .unset, .unset, .unset, .unset, .unset]) rfl ht) ?_
  generalize h_kb : (p2 &&& (3 : Int32)) = kb
  refine own_step (U' := (s₁.setTop (mkF m 11 #[.val (.int p1), .val (.int p2), .val (.int p3), .val (.int p4), .val (.int ka), .val (.int kb), .unset, .unset, .unset, .unset, .unset, .unset, .unset, .unset, .unset] [(.int p3)]))) (fun t ht => XS.iloadN X0.here hx rfl (hb hby at_10) rfl ht) ?_
  refine own_step (U' := (s₁.setTop (mkF m 12 #[.val (.int p1), .val (.int p2), .val (.int p3), .val (.int p4), .val (.int ka), .val (.int kb), .unset, .unset, .unset, .unset, .unset, .unset, .unset, .unset, .unset] [(.int (3 : Int32)), (.int p3)]))) (fun t ht => XS.iconst X0.here hx rfl (hb hby at_11) ht) ?_
  refine own_step (U' := (s₁.setTop (mkF m 13 #[.val (.int p1), .val (.int p2), .val (.int p3), .val (.int p4), .val (.int ka), .val (.int kb), .unset, .unset, .unset, .unset, .unset, .unset, .unset, .unset, .unset] [(.int (p3 &&& (3 : Int32)))]))) (fun t ht => XS.iand X0.here hx rfl (hb hby at_12) rfl ht) ?_
  refine own_step (U' := (s₁.setTop (mkF m 15 #[.val (.int p1), .val (.int p2), .val (.int p3), .val (.int p4), .val (.int ka), .val (.int kb), .val (.int (p3 &&& (3 : Int32))), .unset, .unset, .unset, .unset, .unset, .unset, .unset, .unset] []))) (fun t ht => XS.istore X0.here hx rfl (hb hby at_13) rfl (l' := #[.val (.int p1), .val (.int p2), .val (.int p3), .val (.int p4), .val (.int ka), .val (.int kb), .val (.int (p3 &&& (3 : Int32))), .unset, .unset, .unset, .unset, .unset, .unset, .unset, .unset]) rfl ht) ?_
  generalize h_kc_ : (p3 &&& (3 : Int32)) = kc_
  refine own_step (U' := (s₁.setTop (mkF m 16 #[.val (.int p1), .val (.int p2), .val (.int p3), .val (.int p4), .val (.int ka), .val (.int kb), .val (.int kc_), .unset, .unset, .unset, .unset, .unset, .unset, .unset, .unset] [(.int p4)]))) (fun t ht => XS.iloadN X0.here hx rfl (hb hby at_15) rfl ht) ?_
  refine own_step (U' := (s₁.setTop (mkF m 17 #[.val (.int p1), .val (.int p2), .val (.int p3), .val (.int p4), .val (.int ka), .val (.int kb), .val (.int kc_), .unset, .unset, .unset, .unset, .unset, .unset, .unset, .unset] [(.int (3 : Int32)), (.int p4)]))) (fun t ht => XS.iconst X0.here hx rfl (hb hby at_16) ht) ?_
  refine own_step (U' := (s₁.setTop (mkF m 18 #[.val (.int p1), .val (.int p2), .val (.int p3), .val (.int p4), .val (.int ka), .val (.int kb), .val (.int kc_), .unset, .unset, .unset, .unset, .unset, .unset, .unset, .unset] [(.int (p4 &&& (3 : Int32)))]))) (fun t ht => XS.iand X0.here hx rfl (hb hby at_17) rfl ht) ?_
  refine own_step (U' := (s₁.setTop (mkF m 20 #[.val (.int p1), .val (.int p2), .val (.int p3), .val (.int p4), .val (.int ka), .val (.int kb), .val (.int kc_), .val (.int (p4 &&& (3 : Int32))), .unset, .unset, .unset, .unset, .unset, .unset, .unset] []))) (fun t ht => XS.istore X0.here hx rfl (hb hby at_18) rfl (l' := #[.val (.int p1), .val (.int p2), .val (.int p3), .val (.int p4), .val (.int ka), .val (.int kb), .val (.int kc_), .val (.int (p4 &&& (3 : Int32))), .unset, .unset, .unset, .unset, .unset, .unset, .unset]) rfl ht) ?_
  generalize h_kd : (p4 &&& (3 : Int32)) = kd
  obtain ⟨T30, h30, X30, e30, E30, A30, D30, -, st30⟩ := newO X0 hx hZ hown (hw _ (List.mem_of_getElem? (i := 0) rfl)) (hw _ (List.mem_of_getElem? (i := 1) rfl)) (hw _ (List.mem_of_getElem? (i := 2) rfl)) e0 (g := (mkF m 20 #[.val (.int p1), .val (.int p2), .val (.int p3), .val (.int p4), .val (.int ka), .val (.int kb), .val (.int kc_), .val (.int kd), .unset, .unset, .unset, .unset, .unset, .unset, .unset] [])) rfl (hb hby at_20) (by decide) (by decide)
  obtain ⟨b30, g30⟩ : ∃ z, z = (h0).size := ⟨_, rfl⟩
  rw [← g30] at A30 D30 st30
  have ne_xv_b30 : xv ≠ b30 := Nat.ne_of_lt (Nat.lt_of_lt_of_le V_v.lt (Nat.le_of_eq g30.symm))
  have ne_x0_b30 : x0 ≠ b30 := Nat.ne_of_lt (Nat.lt_of_lt_of_le Fo0.lt (Nat.le_of_eq g30.symm))
  have ne_x1_b30 : x1 ≠ b30 := Nat.ne_of_lt (Nat.lt_of_lt_of_le Fo1.lt (Nat.le_of_eq g30.symm))
  have ne_x2_b30 : x2 ≠ b30 := Nat.ne_of_lt (Nat.lt_of_lt_of_le Fo2.lt (Nat.le_of_eq g30.symm))
  have g_b30 : n0 ≤ b30 := Nat.le_trans (Nat.le_trans Z0 K0.1) (Nat.le_of_eq g30.symm)
  have sz_b30 : h0.size ≤ b30 := Nat.le_trans K0.1 (Nat.le_of_eq g30.symm)
  have f30_0 : Sta Z h30 "com/example/feuillet/feuillet/Verdict" "$VALUES" "[Lcom/example/feuillet/feuillet/Verdict;" (.ref xv) := S_v.ext E30
  have f30_1 : Arv Z h30 xv kv (.object "com/example/feuillet/feuillet/Verdict") (3 : Int32) vv .null := V_v.ext E30
  have f30_2 : Exa Z h30 xv "[Lcom/example/feuillet/feuillet/Verdict;" := E_v.ext E30
  have f30_3 : Sta Z h30 "com/example/feuillet/feuillet/Verdict" "CONFORMANT" "Lcom/example/feuillet/feuillet/Verdict;" (.ref x0) := S0.ext E30
  have f30_4 : Sta Z h30 "com/example/feuillet/feuillet/Verdict" "NOT_CONFORMANT" "Lcom/example/feuillet/feuillet/Verdict;" (.ref x1) := S1.ext E30
  have f30_5 : Sta Z h30 "com/example/feuillet/feuillet/Verdict" "NOT_CHECKED" "Lcom/example/feuillet/feuillet/Verdict;" (.ref x2) := S2.ext E30
  have f30_6 : Fld Z h30 x0 "java/lang/Enum" "ordinal" "I" (.int (0 : Int32)) := Fo0.ext E30
  have f30_7 : Fld Z h30 x1 "java/lang/Enum" "ordinal" "I" (.int (1 : Int32)) := Fo1.ext E30
  have f30_8 : Fld Z h30 x2 "java/lang/Enum" "ordinal" "I" (.int (2 : Int32)) := Fo2.ext E30
  have f30_9 : Exa Z h30 x0 "com/example/feuillet/feuillet/Verdict" := Eo0.ext E30
  have f30_10 : Exa Z h30 x1 "com/example/feuillet/feuillet/Verdict" := Eo1.ext E30
  have f30_11 : Exa Z h30 x2 "com/example/feuillet/feuillet/Verdict" := Eo2.ext E30
  have K30 : Keep h0 h30 [] := K0.ext E30
  have F30_30 : Fld Z h30 b30 "com/example/feuillet/feuillet/Summary" "counts" "[J" .null := D30 (Or.inr (hw _ (List.mem_of_getElem? (i := 30) rfl))) (ty := (.array .long)) (by decide)
  refine own_step (U' := (T30.setTop (mkF m 23 #[.val (.int p1), .val (.int p2), .val (.int p3), .val (.int p4), .val (.int ka), .val (.int kb), .val (.int kc_), .val (.int kd), .unset, .unset, .unset, .unset, .unset, .unset, .unset] [(.ref b30)]))) (fun t ht => st30 _ ht) ?_
  refine own_step (U' := (T30.setTop (mkF m 24 #[.val (.int p1), .val (.int p2), .val (.int p3), .val (.int p4), .val (.int ka), .val (.int kb), .val (.int kc_), .val (.int kd), .unset, .unset, .unset, .unset, .unset, .unset, .unset] [(.ref b30), (.ref b30)]))) (fun t ht => XS.dup X30.here hx rfl (hb hby at_23) rfl rfl ht) ?_
  obtain ⟨_, _, ⟨T31, L31, k31, n31⟩, -, X31, ⟨Lc31, hQ31, l31, y31, z31⟩, st31⟩ := X30.specialBack hx (y := (⟨"com/example/feuillet/feuillet/Summary", "<init>", "()V"⟩ : MethodName)) rfl hown (mvT hZ (hw _ (List.mem_of_getElem? (i := 3) rfl))) (mvT hZ (hw _ (List.mem_of_getElem? (i := 4) rfl))) (mvT hZ (hw _ (List.mem_of_getElem? (i := 5) rfl))) (by decide) (backOf (W := 1) (own_m_sin l Z a0 hw [] (b30) (.null) (xv) (kv) (vv) h30 n0 (Nat.le_trans Z0 K30.1) g_b30 F30_30 A30 f30_0 f30_1 f30_2) hZ (hw _ (List.mem_of_getElem? (i := 5) rfl)) (hw _ (List.mem_of_getElem? (i := 2) rfl)) (by decide) (by decide)) (g := (mkF m 24 #[.val (.int p1), .val (.int p2), .val (.int p3), .val (.int p4), .val (.int ka), .val (.int kb), .val (.int kc_), .val (.int kd), .unset, .unset, .unset, .unset, .unset, .unset, .unset] [(.ref b30), (.ref b30)])) rfl (by rw [hml]; rfl) (Steps.refl _) (a := b30) (argsL := []) (rest := [(.ref b30)]) (lenOf own_pd2 rfl) rfl (by show 2 * 0 + _ ≤ _; exact Nat.le_of_eq rfl) (hb hby at_24) (fun _ _ => ⟨rfl, e30, (by decide : 1 + 2 ≤ _), (by decide : 1 + 6 ≤ _)⟩)
  dsimp only [Pt.U, Pt.locs, Pt.cells, Pt.slots] at X31 l31 y31 z31 st31 hQ31
  subst l31 y31 z31
  obtain ⟨r1_31, kc_31, rfl, Nq31, Kq31, sq_r1_31, p31_0, Fq31_0, Fq31_1, Fq31_2⟩ := hQ31
  have N31 := Fr.app N0 Nq31
  have ne_xv_r1_31 : xv ≠ r1_31 := Nat.ne_of_lt (Nat.lt_of_lt_of_le f30_1.lt sq_r1_31)
  have ne_x0_r1_31 : x0 ≠ r1_31 := Nat.ne_of_lt (Nat.lt_of_lt_of_le f30_6.lt sq_r1_31)
  have ne_x1_r1_31 : x1 ≠ r1_31 := Nat.ne_of_lt (Nat.lt_of_lt_of_le f30_7.lt sq_r1_31)
  have ne_x2_r1_31 : x2 ≠ r1_31 := Nat.ne_of_lt (Nat.lt_of_lt_of_le f30_8.lt sq_r1_31)
  have ne_b30_r1_31 : b30 ≠ r1_31 := Nat.ne_of_lt (Nat.lt_of_lt_of_le A30.lt sq_r1_31)
  have g_r1_31 : n0 ≤ r1_31 := Nat.le_trans (Nat.le_trans Z0 K30.1) sq_r1_31
  have sz_r1_31 : h0.size ≤ r1_31 := Nat.le_trans K30.1 sq_r1_31
  have f31_0 : Sta Z T31.heap "com/example/feuillet/feuillet/Verdict" "$VALUES" "[Lcom/example/feuillet/feuillet/Verdict;" (.ref xv) := own_sta_keep f30_0 Kq31 (own_plE A30 own_pl0)
  have f31_1 : Arv Z T31.heap xv kv (.object "com/example/feuillet/feuillet/Verdict") (3 : Int32) vv .null := f30_1.keep Kq31 (ninS ne_xv_b30 nin0)
  have f31_2 : Exa Z T31.heap xv "[Lcom/example/feuillet/feuillet/Verdict;" := f30_2.keep Kq31
  have f31_3 : Sta Z T31.heap "com/example/feuillet/feuillet/Verdict" "CONFORMANT" "Lcom/example/feuillet/feuillet/Verdict;" (.ref x0) := own_sta_keep f30_3 Kq31 (own_plE A30 own_pl0)
  have f31_4 : Sta Z T31.heap "com/example/feuillet/feuillet/Verdict" "NOT_CONFORMANT" "Lcom/example/feuillet/feuillet/Verdict;" (.ref x1) := own_sta_keep f30_4 Kq31 (own_plE A30 own_pl0)
  have f31_5 : Sta Z T31.heap "com/example/feuillet/feuillet/Verdict" "NOT_CHECKED" "Lcom/example/feuillet/feuillet/Verdict;" (.ref x2) := own_sta_keep f30_5 Kq31 (own_plE A30 own_pl0)
  have f31_6 : Fld Z T31.heap x0 "java/lang/Enum" "ordinal" "I" (.int (0 : Int32)) := f30_6.keep Kq31 (ninS ne_x0_b30 nin0)
  have f31_7 : Fld Z T31.heap x1 "java/lang/Enum" "ordinal" "I" (.int (1 : Int32)) := f30_7.keep Kq31 (ninS ne_x1_b30 nin0)
  have f31_8 : Fld Z T31.heap x2 "java/lang/Enum" "ordinal" "I" (.int (2 : Int32)) := f30_8.keep Kq31 (ninS ne_x2_b30 nin0)
  have f31_9 : Exa Z T31.heap x0 "com/example/feuillet/feuillet/Verdict" := f30_9.keep Kq31
  have f31_10 : Exa Z T31.heap x1 "com/example/feuillet/feuillet/Verdict" := f30_10.keep Kq31
  have f31_11 : Exa Z T31.heap x2 "com/example/feuillet/feuillet/Verdict" := f30_11.keep Kq31
  have f31_12 : Exa Z T31.heap b30 "com/example/feuillet/feuillet/Summary" := A30.keep Kq31
  have K31 : Keep h0 T31.heap [] := K30.trans Kq31 (allS (Or.inr sz_b30) all0)
  refine own_step (U' := (T31.setTop (mkF m 27 #[.val (.int p1), .val (.int p2), .val (.int p3), .val (.int p4), .val (.int ka), .val (.int kb), .val (.int kc_), .val (.int kd), .unset, .unset, .unset, .unset, .unset, .unset, .unset] [(.ref b30)]))) (fun t ht => st31.trans ht) ?_
  refine own_step (U' := (T31.setTop (mkF m 29 #[.val (.int p1), .val (.int p2), .val (.int p3), .val (.int p4), .val (.int ka), .val (.int kb), .val (.int kc_), .val (.int kd), .val (.ref b30), .unset, .unset, .unset, .unset, .unset, .unset] []))) (fun t ht => XS.astore X31.here hx rfl (hb hby at_27) rfl rfl (l' := #[.val (.int p1), .val (.int p2), .val (.int p3), .val (.int p4), .val (.int ka), .val (.int kb), .val (.int kc_), .val (.int kd), .val (.ref b30), .unset, .unset, .unset, .unset, .unset, .unset]) rfl ht) ?_
  refine own_step (U' := (T31.setTop (mkF m 31 #[.val (.int p1), .val (.int p2), .val (.int p3), .val (.int p4), .val (.int ka), .val (.int kb), .val (.int kc_), .val (.int kd), .val (.ref b30), .unset, .unset, .unset, .unset, .unset, .unset] [(.ref b30)]))) (fun t ht => XS.aload X31.here hx rfl (hb hby at_29) rfl rfl ht) ?_
  obtain ⟨cq32, kq32, q32a, q32b, q32c⟩ := isOf hZ rfl Fq31_1
  obtain ⟨_, _, ⟨T32, L32, k32, n32⟩, -, X32, ⟨Lc32, hQ32, l32, y32, z32⟩, st32⟩ := X31.virtualBack hx (y := (⟨"com/example/feuillet/feuillet/Summary", "documents", "()J"⟩ : MethodName)) (z := (⟨"com/example/feuillet/feuillet/Summary", "documents", "()J"⟩ : MethodName)) hown (mvT hZ (hw _ (List.mem_of_getElem? (i := 31) rfl))) (mvT hZ (hw _ (List.mem_of_getElem? (i := 32) rfl))) (notFace_of_selects (args := #[]) (mvT hZ (hw _ (List.mem_of_getElem? (i := 34) rfl)))) (mvT hZ (hw _ (List.mem_of_getElem? (i := 34) rfl))) (mvT hZ (hw _ (List.mem_of_getElem? (i := 33) rfl))) (by decide) (backOf (W := 0) (own_m_doc l Z a0 hw [] (b30) (r1_31) (kc_31) ((0 : Int64)) ((0 : Int64)) ((0 : Int64)) T31.heap n0 (Nat.le_trans Z0 K31.1) Fq31_0 Fq31_2) hZ (hw _ (List.mem_of_getElem? (i := 35) rfl)) (hw _ (List.mem_of_getElem? (i := 2) rfl)) (by decide) (by decide)) q32a q32c (g := (mkF m 31 #[.val (.int p1), .val (.int p2), .val (.int p3), .val (.int p4), .val (.int ka), .val (.int kb), .val (.int kc_), .val (.int kd), .val (.ref b30), .unset, .unset, .unset, .unset, .unset, .unset] [(.ref b30)])) rfl (by rw [hml]; rfl) (Steps.refl _) (argsL := []) (rest := []) (lenOf own_pd3 rfl) rfl (by show 2 * 0 + _ ≤ _; exact Nat.le_of_eq rfl) (hb hby at_31) (fun _ _ => ⟨rfl, rfl, (by decide : 3 + 0 ≤ _), (by decide : 7 + 0 ≤ _)⟩)
  dsimp only [Pt.U, Pt.locs, Pt.cells, Pt.slots] at X32 l32 y32 z32 st32 hQ32
  subst l32 y32 z32
  obtain ⟨rfl, Nq32, Kq32⟩ := hQ32
  have N32 := Fr.app N31 Nq32
  have e32 : T32.heap = T31.heap := Kq32
  refine own_step (U' := (T32.setTop (mkF m 34 #[.val (.int p1), .val (.int p2), .val (.int p3), .val (.int p4), .val (.int ka), .val (.int kb), .val (.int kc_), .val (.int kd), .val (.ref b30), .unset, .unset, .unset, .unset, .unset, .unset] [(.long ((((0 : Int64) + (0 : Int64)) + (0 : Int64)) + (0 : Int64)))]))) (fun t ht => st32.trans ht) ?_
  refine own_step (U' := (T32.setTop (mkF m 36 #[.val (.int p1), .val (.int p2), .val (.int p3), .val (.int p4), .val (.int ka), .val (.int kb), .val (.int kc_), .val (.int kd), .val (.ref b30), .val (.long ((((0 : Int64) + (0 : Int64)) + (0 : Int64)) + (0 : Int64))), .second, .unset, .unset, .unset, .unset] []))) (fun t ht => XT.lstore X32.here hx rfl (hb hby at_34) rfl (l' := #[.val (.int p1), .val (.int p2), .val (.int p3), .val (.int p4), .val (.int ka), .val (.int kb), .val (.int kc_), .val (.int kd), .val (.ref b30), .val (.long ((((0 : Int64) + (0 : Int64)) + (0 : Int64)) + (0 : Int64))), .second, .unset, .unset, .unset, .unset]) rfl ht) ?_
  refine own_step (U' := (T32.setTop (mkF m 37 #[.val (.int p1), .val (.int p2), .val (.int p3), .val (.int p4), .val (.int ka), .val (.int kb), .val (.int kc_), .val (.int kd), .val (.ref b30), .val (.long ((((0 : Int64) + (0 : Int64)) + (0 : Int64)) + (0 : Int64))), .second, .unset, .unset, .unset, .unset] [(.long (0 : Int64))]))) (fun t ht => XT.lconstV X32.here hx rfl (0 : Int64) (hb hby at_36) rfl ht) ?_
  refine own_step (U' := (T32.setTop (mkF m 39 #[.val (.int p1), .val (.int p2), .val (.int p3), .val (.int p4), .val (.int ka), .val (.int kb), .val (.int kc_), .val (.int kd), .val (.ref b30), .val (.long ((((0 : Int64) + (0 : Int64)) + (0 : Int64)) + (0 : Int64))), .second, .val (.long (0 : Int64)), .second, .unset, .unset] []))) (fun t ht => XT.lstore X32.here hx rfl (hb hby at_37) rfl (l' := #[.val (.int p1), .val (.int p2), .val (.int p3), .val (.int p4), .val (.int ka), .val (.int kb), .val (.int kc_), .val (.int kd), .val (.ref b30), .val (.long ((((0 : Int64) + (0 : Int64)) + (0 : Int64)) + (0 : Int64))), .second, .val (.long (0 : Int64)), .second, .unset, .unset]) rfl ht) ?_
  have t127 : ∀ (w0 : Int64) (w1 : Int64) (w2 : Int64) (ex : Int64) (T_ : State) (L_ : List Loc) (X_ : Stand p l e room_1 s m #[(.int p1), (.int p2), (.int p3), (.int p4)] below meth c T_ L_ 3 7) (N_ : Fr n0 L_) (K_ : Keep h0 T_.heap []) (f_0 : Sta Z T_.heap "com/example/feuillet/feuillet/Verdict" "$VALUES" "[Lcom/example/feuillet/feuillet/Verdict;" (.ref xv)) (f_1 : Exa Z T_.heap xv "[Lcom/example/feuillet/feuillet/Verdict;") (f_2 : Sta Z T_.heap "com/example/feuillet/feuillet/Verdict" "CONFORMANT" "Lcom/example/feuillet/feuillet/Verdict;" (.ref x0)) (f_3 : Sta Z T_.heap "com/example/feuillet/feuillet/Verdict" "NOT_CONFORMANT" "Lcom/example/feuillet/feuillet/Verdict;" (.ref x1)) (f_4 : Sta Z T_.heap "com/example/feuillet/feuillet/Verdict" "NOT_CHECKED" "Lcom/example/feuillet/feuillet/Verdict;" (.ref x2)) (f_5 : Fld Z T_.heap x0 "java/lang/Enum" "ordinal" "I" (.int (0 : Int32))) (f_6 : Fld Z T_.heap x1 "java/lang/Enum" "ordinal" "I" (.int (1 : Int32))) (f_7 : Fld Z T_.heap x2 "java/lang/Enum" "ordinal" "I" (.int (2 : Int32))) (f_8 : Exa Z T_.heap x0 "com/example/feuillet/feuillet/Verdict") (f_9 : Exa Z T_.heap x1 "com/example/feuillet/feuillet/Verdict") (f_10 : Exa Z T_.heap x2 "com/example/feuillet/feuillet/Verdict") (f_11 : Fld Z T_.heap b30 "com/example/feuillet/feuillet/Summary" "counts" "[J" (.ref r1_31)) (f_12 : Exa Z T_.heap b30 "com/example/feuillet/feuillet/Summary") (f_13 : Arv Z T_.heap r1_31 kc_31 .long (3 : Int32) [(.long w0), (.long w1), (.long w2)] (.long (0 : Int64))) (hsum : w0 + w1 + w2 = ex), own_Go p e below s 3 7 (own_Q_law Z p1 p2 p3 p4 xv kv vv x0 x1 x2 h0 n0) (T_.setTop (mkF m 127 #[.val (.int p1), .val (.int p2), .val (.int p3), .val (.int p4), .val (.int ka), .val (.int kb), .val (.int kc_), .val (.int kd), .val (.ref b30), .val (.long ((((0 : Int64) + (0 : Int64)) + (0 : Int64)) + (0 : Int64))), .second, .val (.long ex), .second, .unset, .unset] [])) := by
    intro w0 w1 w2 ex T_ L_ X_ N_ K_ f_0 f_1 f_2 f_3 f_4 f_5 f_6 f_7 f_8 f_9 f_10 f_11 f_12 f_13 hsum
    refine own_step (U' := (T_.setTop (mkF m 129 #[.val (.int p1), .val (.int p2), .val (.int p3), .val (.int p4), .val (.int ka), .val (.int kb), .val (.int kc_), .val (.int kd), .val (.ref b30), .val (.long ((((0 : Int64) + (0 : Int64)) + (0 : Int64)) + (0 : Int64))), .second, .val (.long ex), .second, .unset, .unset] [(.ref b30)]))) (fun t ht => XS.aload X_.here hx rfl (hb hby at_127) rfl rfl ht) ?_
    obtain ⟨cq33, kq33, q33a, q33b, q33c⟩ := isOf hZ rfl f_12
    obtain ⟨_, _, ⟨T33, L33, k33, n33⟩, -, X33, ⟨Lc33, hQ33, l33, y33, z33⟩, st33⟩ := X_.virtualBack hx (y := (⟨"com/example/feuillet/feuillet/Summary", "documents", "()J"⟩ : MethodName)) (z := (⟨"com/example/feuillet/feuillet/Summary", "documents", "()J"⟩ : MethodName)) hown (mvT hZ (hw _ (List.mem_of_getElem? (i := 31) rfl))) (mvT hZ (hw _ (List.mem_of_getElem? (i := 32) rfl))) (notFace_of_selects (args := #[]) (mvT hZ (hw _ (List.mem_of_getElem? (i := 34) rfl)))) (mvT hZ (hw _ (List.mem_of_getElem? (i := 34) rfl))) (mvT hZ (hw _ (List.mem_of_getElem? (i := 33) rfl))) (by decide) (backOf (W := 0) (own_m_doc l Z a0 hw [] (b30) (r1_31) (kc_31) (w0) (w1) (w2) T_.heap n0 (Nat.le_trans Z0 K_.1) f_11 f_13) hZ (hw _ (List.mem_of_getElem? (i := 35) rfl)) (hw _ (List.mem_of_getElem? (i := 2) rfl)) (by decide) (by decide)) q33a q33c (g := (mkF m 129 #[.val (.int p1), .val (.int p2), .val (.int p3), .val (.int p4), .val (.int ka), .val (.int kb), .val (.int kc_), .val (.int kd), .val (.ref b30), .val (.long ((((0 : Int64) + (0 : Int64)) + (0 : Int64)) + (0 : Int64))), .second, .val (.long ex), .second, .unset, .unset] [(.ref b30)])) rfl (by rw [hml]; rfl) (Steps.refl _) (argsL := []) (rest := []) (lenOf own_pd3 rfl) rfl (by show 2 * 0 + _ ≤ _; exact Nat.le_of_eq rfl) (hb hby at_129) (fun _ _ => ⟨rfl, rfl, (by decide : 3 + 0 ≤ _), (by decide : 7 + 0 ≤ _)⟩)
    dsimp only [Pt.U, Pt.locs, Pt.cells, Pt.slots] at X33 l33 y33 z33 st33 hQ33
    subst l33 y33 z33
    obtain ⟨rfl, Nq33, Kq33⟩ := hQ33
    have N33 := Fr.app N_ Nq33
    have e33 : T33.heap = T_.heap := Kq33
    refine own_step (U' := (T33.setTop (mkF m 132 #[.val (.int p1), .val (.int p2), .val (.int p3), .val (.int p4), .val (.int ka), .val (.int kb), .val (.int kc_), .val (.int kd), .val (.ref b30), .val (.long ((((0 : Int64) + (0 : Int64)) + (0 : Int64)) + (0 : Int64))), .second, .val (.long ex), .second, .unset, .unset] [(.long ((((0 : Int64) + w0) + w1) + w2))]))) (fun t ht => st33.trans ht) ?_
    refine own_step (U' := (T33.setTop (mkF m 134 #[.val (.int p1), .val (.int p2), .val (.int p3), .val (.int p4), .val (.int ka), .val (.int kb), .val (.int kc_), .val (.int kd), .val (.ref b30), .val (.long ((((0 : Int64) + (0 : Int64)) + (0 : Int64)) + (0 : Int64))), .second, .val (.long ex), .second, .val (.long ((((0 : Int64) + w0) + w1) + w2)), .second] []))) (fun t ht => XT.lstore X33.here hx rfl (hb hby at_132) rfl (l' := #[.val (.int p1), .val (.int p2), .val (.int p3), .val (.int p4), .val (.int ka), .val (.int kb), .val (.int kc_), .val (.int kd), .val (.ref b30), .val (.long ((((0 : Int64) + (0 : Int64)) + (0 : Int64)) + (0 : Int64))), .second, .val (.long ex), .second, .val (.long ((((0 : Int64) + w0) + w1) + w2)), .second]) rfl ht) ?_
    refine own_step (U' := (T33.setTop (mkF m 136 #[.val (.int p1), .val (.int p2), .val (.int p3), .val (.int p4), .val (.int ka), .val (.int kb), .val (.int kc_), .val (.int kd), .val (.ref b30), .val (.long ((((0 : Int64) + (0 : Int64)) + (0 : Int64)) + (0 : Int64))), .second, .val (.long ex), .second, .val (.long ((((0 : Int64) + w0) + w1) + w2)), .second] [(.long ((((0 : Int64) + (0 : Int64)) + (0 : Int64)) + (0 : Int64)))]))) (fun t ht => XT.lload X33.here hx rfl (hb hby at_134) rfl ht) ?_
    refine own_step (U' := (T33.setTop (mkF m 137 #[.val (.int p1), .val (.int p2), .val (.int p3), .val (.int p4), .val (.int ka), .val (.int kb), .val (.int kc_), .val (.int kd), .val (.ref b30), .val (.long ((((0 : Int64) + (0 : Int64)) + (0 : Int64)) + (0 : Int64))), .second, .val (.long ex), .second, .val (.long ((((0 : Int64) + w0) + w1) + w2)), .second] [(.long (0 : Int64)), (.long ((((0 : Int64) + (0 : Int64)) + (0 : Int64)) + (0 : Int64)))]))) (fun t ht => XT.lconstV X33.here hx rfl (0 : Int64) (hb hby at_136) rfl ht) ?_
    refine own_step (U' := (T33.setTop (mkF m 138 #[.val (.int p1), .val (.int p2), .val (.int p3), .val (.int p4), .val (.int ka), .val (.int kb), .val (.int kc_), .val (.int kd), .val (.ref b30), .val (.long ((((0 : Int64) + (0 : Int64)) + (0 : Int64)) + (0 : Int64))), .second, .val (.long ex), .second, .val (.long ((((0 : Int64) + w0) + w1) + w2)), .second] [(.int (XT.cmpL ((((0 : Int64) + (0 : Int64)) + (0 : Int64)) + (0 : Int64)) (0 : Int64)))]))) (fun t ht => XT.lcmp X33.here hx rfl (hb hby at_137) rfl ht) ?_
    refine own_step (U' := (T33.setTop (mkF m 141 #[.val (.int p1), .val (.int p2), .val (.int p3), .val (.int p4), .val (.int ka), .val (.int kb), .val (.int kc_), .val (.int kd), .val (.ref b30), .val (.long ((((0 : Int64) + (0 : Int64)) + (0 : Int64)) + (0 : Int64))), .second, .val (.long ex), .second, .val (.long ((((0 : Int64) + w0) + w1) + w2)), .second] []))) (fun t ht => XS.ifNo X33.here hx rfl (hb hby at_138) rfl (XT.ll_ne_f ((by decide) : ((((0 : Int64) + (0 : Int64)) + (0 : Int64)) + (0 : Int64)) = (0 : Int64))) ht) ?_
    refine own_step (U' := (T33.setTop (mkF m 143 #[.val (.int p1), .val (.int p2), .val (.int p3), .val (.int p4), .val (.int ka), .val (.int kb), .val (.int kc_), .val (.int kd), .val (.ref b30), .val (.long ((((0 : Int64) + (0 : Int64)) + (0 : Int64)) + (0 : Int64))), .second, .val (.long ex), .second, .val (.long ((((0 : Int64) + w0) + w1) + w2)), .second] [(.long ((((0 : Int64) + w0) + w1) + w2))]))) (fun t ht => XT.lload X33.here hx rfl (hb hby at_141) rfl ht) ?_
    refine own_step (U' := (T33.setTop (mkF m 145 #[.val (.int p1), .val (.int p2), .val (.int p3), .val (.int p4), .val (.int ka), .val (.int kb), .val (.int kc_), .val (.int kd), .val (.ref b30), .val (.long ((((0 : Int64) + (0 : Int64)) + (0 : Int64)) + (0 : Int64))), .second, .val (.long ex), .second, .val (.long ((((0 : Int64) + w0) + w1) + w2)), .second] [(.long ex), (.long ((((0 : Int64) + w0) + w1) + w2))]))) (fun t ht => XT.lload X33.here hx rfl (hb hby at_143) rfl ht) ?_
    refine own_step (U' := (T33.setTop (mkF m 146 #[.val (.int p1), .val (.int p2), .val (.int p3), .val (.int p4), .val (.int ka), .val (.int kb), .val (.int kc_), .val (.int kd), .val (.ref b30), .val (.long ((((0 : Int64) + (0 : Int64)) + (0 : Int64)) + (0 : Int64))), .second, .val (.long ex), .second, .val (.long ((((0 : Int64) + w0) + w1) + w2)), .second] [(.int (XT.cmpL ((((0 : Int64) + w0) + w1) + w2) ex))]))) (fun t ht => XT.lcmp X33.here hx rfl (hb hby at_145) rfl ht) ?_
    refine own_step (U' := (T33.setTop (mkF m 149 #[.val (.int p1), .val (.int p2), .val (.int p3), .val (.int p4), .val (.int ka), .val (.int kb), .val (.int kc_), .val (.int kd), .val (.ref b30), .val (.long ((((0 : Int64) + (0 : Int64)) + (0 : Int64)) + (0 : Int64))), .second, .val (.long ex), .second, .val (.long ((((0 : Int64) + w0) + w1) + w2)), .second] []))) (fun t ht => XS.ifNo X33.here hx rfl (hb hby at_146) rfl (XT.ll_ne_f ((own_sum hsum) : ((((0 : Int64) + w0) + w1) + w2) = ex)) ht) ?_
    refine own_step (U' := (T33.setTop (mkF m 150 #[.val (.int p1), .val (.int p2), .val (.int p3), .val (.int p4), .val (.int ka), .val (.int kb), .val (.int kc_), .val (.int kd), .val (.ref b30), .val (.long ((((0 : Int64) + (0 : Int64)) + (0 : Int64)) + (0 : Int64))), .second, .val (.long ex), .second, .val (.long ((((0 : Int64) + w0) + w1) + w2)), .second] [(.int (1 : Int32))]))) (fun t ht => XS.iconst X33.here hx rfl (hb hby at_149) ht) ?_
    refine own_step (U' := (T33.setTop (mkF m 154 #[.val (.int p1), .val (.int p2), .val (.int p3), .val (.int p4), .val (.int ka), .val (.int kb), .val (.int kc_), .val (.int kd), .val (.ref b30), .val (.long ((((0 : Int64) + (0 : Int64)) + (0 : Int64)) + (0 : Int64))), .second, .val (.long ex), .second, .val (.long ((((0 : Int64) + w0) + w1) + w2)), .second] [(.int (1 : Int32))]))) (fun t ht => XS.goto X33.here hx rfl (pc0 := 150) (pc' := 154) rfl (hb hby at_150) (by decide) (by decide) ht) ?_
    refine own_ret X33 (v := (some (.int (nar .boolean (1 : Int32))))) (fun h => by rw [Bd.returns] at h; cases h) Bd.notSynchronized (by decide) (by decide) ?_ (fun fs hr => retN X33 hx (t := .boolean) Bd.returns (by simp) (hb hby at_154) hr)
    show own_Q_law Z p1 p2 p3 p4 xv kv vv x0 x1 x2 h0 n0 _ T33.heap _
    rw [e33]
    exact ⟨rfl, N33⟩
  have t105 : ∀ (w0 : Int64) (w1 : Int64) (w2 : Int64) (ex : Int64) (T_ : State) (L_ : List Loc) (X_ : Stand p l e room_1 s m #[(.int p1), (.int p2), (.int p3), (.int p4)] below meth c T_ L_ 3 7) (N_ : Fr n0 L_) (K_ : Keep h0 T_.heap []) (f_0 : Sta Z T_.heap "com/example/feuillet/feuillet/Verdict" "$VALUES" "[Lcom/example/feuillet/feuillet/Verdict;" (.ref xv)) (f_1 : Exa Z T_.heap xv "[Lcom/example/feuillet/feuillet/Verdict;") (f_2 : Sta Z T_.heap "com/example/feuillet/feuillet/Verdict" "CONFORMANT" "Lcom/example/feuillet/feuillet/Verdict;" (.ref x0)) (f_3 : Sta Z T_.heap "com/example/feuillet/feuillet/Verdict" "NOT_CONFORMANT" "Lcom/example/feuillet/feuillet/Verdict;" (.ref x1)) (f_4 : Sta Z T_.heap "com/example/feuillet/feuillet/Verdict" "NOT_CHECKED" "Lcom/example/feuillet/feuillet/Verdict;" (.ref x2)) (f_5 : Fld Z T_.heap x0 "java/lang/Enum" "ordinal" "I" (.int (0 : Int32))) (f_6 : Fld Z T_.heap x1 "java/lang/Enum" "ordinal" "I" (.int (1 : Int32))) (f_7 : Fld Z T_.heap x2 "java/lang/Enum" "ordinal" "I" (.int (2 : Int32))) (f_8 : Exa Z T_.heap x0 "com/example/feuillet/feuillet/Verdict") (f_9 : Exa Z T_.heap x1 "com/example/feuillet/feuillet/Verdict") (f_10 : Exa Z T_.heap x2 "com/example/feuillet/feuillet/Verdict") (f_11 : Fld Z T_.heap b30 "com/example/feuillet/feuillet/Summary" "counts" "[J" (.ref r1_31)) (f_12 : Exa Z T_.heap b30 "com/example/feuillet/feuillet/Summary") (f_13 : Arv Z T_.heap r1_31 kc_31 .long (3 : Int32) [(.long w0), (.long w1), (.long w2)] (.long (0 : Int64))) (hsum : w0 + w1 + w2 = ex), own_Go p e below s 3 7 (own_Q_law Z p1 p2 p3 p4 xv kv vv x0 x1 x2 h0 n0) (T_.setTop (mkF m 105 #[.val (.int p1), .val (.int p2), .val (.int p3), .val (.int p4), .val (.int ka), .val (.int kb), .val (.int kc_), .val (.int kd), .val (.ref b30), .val (.long ((((0 : Int64) + (0 : Int64)) + (0 : Int64)) + (0 : Int64))), .second, .val (.long ex), .second, .unset, .unset] [])) := by
    intro w0 w1 w2 ex T_ L_ X_ N_ K_ f_0 f_1 f_2 f_3 f_4 f_5 f_6 f_7 f_8 f_9 f_10 f_11 f_12 f_13 hsum
    rcases own_four h_kd with rfl | rfl | rfl | rfl
    ·
      refine own_step (U' := (T_.setTop (mkF m 107 #[.val (.int p1), .val (.int p2), .val (.int p3), .val (.int p4), .val (.int ka), .val (.int kb), .val (.int kc_), .val (.int (0 : Int32)), .val (.ref b30), .val (.long ((((0 : Int64) + (0 : Int64)) + (0 : Int64)) + (0 : Int64))), .second, .val (.long ex), .second, .unset, .unset] [(.int (0 : Int32))]))) (fun t ht => XS.iload X_.here hx rfl (hb hby at_105) rfl ht) ?_
      refine own_step (U' := (T_.setTop (mkF m 108 #[.val (.int p1), .val (.int p2), .val (.int p3), .val (.int p4), .val (.int ka), .val (.int kb), .val (.int kc_), .val (.int (0 : Int32)), .val (.ref b30), .val (.long ((((0 : Int64) + (0 : Int64)) + (0 : Int64)) + (0 : Int64))), .second, .val (.long ex), .second, .unset, .unset] [(.int (3 : Int32)), (.int (0 : Int32))]))) (fun t ht => XS.iconst X_.here hx rfl (hb hby at_107) ht) ?_
      refine own_step (U' := (T_.setTop (mkF m 111 #[.val (.int p1), .val (.int p2), .val (.int p3), .val (.int p4), .val (.int ka), .val (.int kb), .val (.int kc_), .val (.int (0 : Int32)), .val (.ref b30), .val (.long ((((0 : Int64) + (0 : Int64)) + (0 : Int64)) + (0 : Int64))), .second, .val (.long ex), .second, .unset, .unset] []))) (fun t ht => XS.icmpNo X_.here hx rfl (hb hby at_108) rfl (XT.ii_eq_f ((by decide) : ¬ ((0 : Int32) = (3 : Int32)))) ht) ?_
      refine own_step (U' := (T_.setTop (mkF m 113 #[.val (.int p1), .val (.int p2), .val (.int p3), .val (.int p4), .val (.int ka), .val (.int kb), .val (.int kc_), .val (.int (0 : Int32)), .val (.ref b30), .val (.long ((((0 : Int64) + (0 : Int64)) + (0 : Int64)) + (0 : Int64))), .second, .val (.long ex), .second, .unset, .unset] [(.ref b30)]))) (fun t ht => XS.aload X_.here hx rfl (hb hby at_111) rfl rfl ht) ?_
      refine own_step (U' := (T_.setTop (mkF m 115 #[.val (.int p1), .val (.int p2), .val (.int p3), .val (.int p4), .val (.int ka), .val (.int kb), .val (.int kc_), .val (.int (0 : Int32)), .val (.ref b30), .val (.long ((((0 : Int64) + (0 : Int64)) + (0 : Int64)) + (0 : Int64))), .second, .val (.long ex), .second, .unset, .unset] [(.int (0 : Int32)), (.ref b30)]))) (fun t ht => XS.iload X_.here hx rfl (hb hby at_113) rfl ht) ?_
      obtain ⟨_, _, ⟨T34, L34, k34, n34⟩, -, X34, ⟨Lc34, hQ34, l34, y34, z34⟩, st34⟩ := Jvm.LawKit.callS X_ hx (y := (⟨"com/example/feuillet/feuillet/SummaryDocumentsPinLaw", "pick", "(I)Lcom/example/feuillet/feuillet/Verdict;"⟩ : MethodName)) hown (mvT hZ (hw _ (List.mem_of_getElem? (i := 36) rfl))) (mvT hZ (hw _ (List.mem_of_getElem? (i := 37) rfl))) (mvT hZ (hw _ (List.mem_of_getElem? (i := 38) rfl))) (mvT hZ (hw _ (List.mem_of_getElem? (i := 39) rfl))) (by decide) (backOf (W := 1) (own_m_pick0 l Z a0 hw [] (x0) T_.heap n0 (Nat.le_trans Z0 K_.1) f_2) hZ (hw _ (List.mem_of_getElem? (i := 39) rfl)) (hw _ (List.mem_of_getElem? (i := 38) rfl)) (by decide) (by decide)) (g := (mkF m 115 #[.val (.int p1), .val (.int p2), .val (.int p3), .val (.int p4), .val (.int ka), .val (.int kb), .val (.int kc_), .val (.int (0 : Int32)), .val (.ref b30), .val (.long ((((0 : Int64) + (0 : Int64)) + (0 : Int64)) + (0 : Int64))), .second, .val (.long ex), .second, .unset, .unset] [(.int (0 : Int32)), (.ref b30)])) rfl (by rw [hml]; rfl) (argsL := [(.int (0 : Int32))]) (rest := [(.ref b30)]) (lenOf own_pd4 rfl) rfl (by show 2 * 0 + _ ≤ _; exact Nat.le_of_eq rfl) (hb hby at_115) (fun _ _ => ⟨rfl, rfl, (by decide : 3 + 0 ≤ _), (by decide : 7 + 0 ≤ _)⟩)
      dsimp only [Pt.U, Pt.locs, Pt.cells, Pt.slots] at X34 l34 y34 z34 st34 hQ34
      subst l34 y34 z34
      obtain ⟨rfl, Nq34, Kq34⟩ := hQ34
      have N34 := Fr.app N_ Nq34
      have e34 : T34.heap = T_.heap := Kq34
      refine own_step (U' := (T34.setTop (mkF m 118 #[.val (.int p1), .val (.int p2), .val (.int p3), .val (.int p4), .val (.int ka), .val (.int kb), .val (.int kc_), .val (.int (0 : Int32)), .val (.ref b30), .val (.long ((((0 : Int64) + (0 : Int64)) + (0 : Int64)) + (0 : Int64))), .second, .val (.long ex), .second, .unset, .unset] [(.ref x0), (.ref b30)]))) (fun t ht => st34 _ ht) ?_
      obtain ⟨cq35, kq35, q35a, q35b, q35c⟩ := isOf hZ e34 f_12
      obtain ⟨_, _, ⟨T35, L35, k35, n35⟩, -, X35, ⟨Lc35, hQ35, l35, y35, z35⟩, st35⟩ := X34.virtualBack hx (y := (⟨"com/example/feuillet/feuillet/Summary", "add", "(Lcom/example/feuillet/feuillet/Verdict;)V"⟩ : MethodName)) (z := (⟨"com/example/feuillet/feuillet/Summary", "add", "(Lcom/example/feuillet/feuillet/Verdict;)V"⟩ : MethodName)) hown (mvT hZ (hw _ (List.mem_of_getElem? (i := 41) rfl))) (mvT hZ (hw _ (List.mem_of_getElem? (i := 42) rfl))) (notFace_of_selects (args := #[]) (mvT hZ (hw _ (List.mem_of_getElem? (i := 44) rfl)))) (mvT hZ (hw _ (List.mem_of_getElem? (i := 44) rfl))) (mvT hZ (hw _ (List.mem_of_getElem? (i := 43) rfl))) (by decide) (backOf (W := 0) (own_m_add0 l Z a0 hw [] (b30) (x0) (r1_31) (kc_31) (w0) (w1) (w2) T_.heap n0 (Nat.le_trans Z0 K_.1) g_r1_31 p31_0 ne_x0_r1_31 f_11 f_13 f_5 f_8) hZ (hw _ (List.mem_of_getElem? (i := 45) rfl)) (hw _ (List.mem_of_getElem? (i := 2) rfl)) (by decide) (by decide)) q35a q35c (g := (mkF m 118 #[.val (.int p1), .val (.int p2), .val (.int p3), .val (.int p4), .val (.int ka), .val (.int kb), .val (.int kc_), .val (.int (0 : Int32)), .val (.ref b30), .val (.long ((((0 : Int64) + (0 : Int64)) + (0 : Int64)) + (0 : Int64))), .second, .val (.long ex), .second, .unset, .unset] [(.ref x0), (.ref b30)])) rfl (by rw [hml]; rfl) (Steps.refl _) (argsL := [(.ref x0)]) (rest := []) (lenOf own_pd5 rfl) rfl (by show 2 * 0 + _ ≤ _; exact Nat.le_of_eq rfl) (hb hby at_118) (fun _ _ => ⟨rfl, e34, (by decide : 3 + 0 ≤ _), (by decide : 7 + 0 ≤ _)⟩)
      dsimp only [Pt.U, Pt.locs, Pt.cells, Pt.slots] at X35 l35 y35 z35 st35 hQ35
      subst l35 y35 z35
      obtain ⟨rfl, Nq35, Kq35, Fq35_0⟩ := hQ35
      have N35 := Fr.app N34 Nq35
      have f35_0 : Sta Z T35.heap "com/example/feuillet/feuillet/Verdict" "$VALUES" "[Lcom/example/feuillet/feuillet/Verdict;" (.ref xv) := own_sta_keep f_0 Kq35 (own_plV f_13 own_pl0)
      have f35_1 : Exa Z T35.heap xv "[Lcom/example/feuillet/feuillet/Verdict;" := f_1.keep Kq35
      have f35_2 : Sta Z T35.heap "com/example/feuillet/feuillet/Verdict" "CONFORMANT" "Lcom/example/feuillet/feuillet/Verdict;" (.ref x0) := own_sta_keep f_2 Kq35 (own_plV f_13 own_pl0)
      have f35_3 : Sta Z T35.heap "com/example/feuillet/feuillet/Verdict" "NOT_CONFORMANT" "Lcom/example/feuillet/feuillet/Verdict;" (.ref x1) := own_sta_keep f_3 Kq35 (own_plV f_13 own_pl0)
      have f35_4 : Sta Z T35.heap "com/example/feuillet/feuillet/Verdict" "NOT_CHECKED" "Lcom/example/feuillet/feuillet/Verdict;" (.ref x2) := own_sta_keep f_4 Kq35 (own_plV f_13 own_pl0)
      have f35_5 : Fld Z T35.heap x0 "java/lang/Enum" "ordinal" "I" (.int (0 : Int32)) := f_5.keep Kq35 (ninS ne_x0_r1_31 nin0)
      have f35_6 : Fld Z T35.heap x1 "java/lang/Enum" "ordinal" "I" (.int (1 : Int32)) := f_6.keep Kq35 (ninS ne_x1_r1_31 nin0)
      have f35_7 : Fld Z T35.heap x2 "java/lang/Enum" "ordinal" "I" (.int (2 : Int32)) := f_7.keep Kq35 (ninS ne_x2_r1_31 nin0)
      have f35_8 : Exa Z T35.heap x0 "com/example/feuillet/feuillet/Verdict" := f_8.keep Kq35
      have f35_9 : Exa Z T35.heap x1 "com/example/feuillet/feuillet/Verdict" := f_9.keep Kq35
      have f35_10 : Exa Z T35.heap x2 "com/example/feuillet/feuillet/Verdict" := f_10.keep Kq35
      have f35_11 : Fld Z T35.heap b30 "com/example/feuillet/feuillet/Summary" "counts" "[J" (.ref r1_31) := f_11.keep Kq35 (ninS p31_0 nin0)
      have f35_12 : Exa Z T35.heap b30 "com/example/feuillet/feuillet/Summary" := f_12.keep Kq35
      have K35 : Keep h0 T35.heap [] := K_.trans Kq35 (allS (Or.inr sz_r1_31) all0)
      refine own_step (U' := (T35.setTop (mkF m 121 #[.val (.int p1), .val (.int p2), .val (.int p3), .val (.int p4), .val (.int ka), .val (.int kb), .val (.int kc_), .val (.int (0 : Int32)), .val (.ref b30), .val (.long ((((0 : Int64) + (0 : Int64)) + (0 : Int64)) + (0 : Int64))), .second, .val (.long ex), .second, .unset, .unset] []))) (fun t ht => st35.trans ht) ?_
      refine own_step (U' := (T35.setTop (mkF m 123 #[.val (.int p1), .val (.int p2), .val (.int p3), .val (.int p4), .val (.int ka), .val (.int kb), .val (.int kc_), .val (.int (0 : Int32)), .val (.ref b30), .val (.long ((((0 : Int64) + (0 : Int64)) + (0 : Int64)) + (0 : Int64))), .second, .val (.long ex), .second, .unset, .unset] [(.long ex)]))) (fun t ht => XT.lload X35.here hx rfl (hb hby at_121) rfl ht) ?_
      refine own_step (U' := (T35.setTop (mkF m 124 #[.val (.int p1), .val (.int p2), .val (.int p3), .val (.int p4), .val (.int ka), .val (.int kb), .val (.int kc_), .val (.int (0 : Int32)), .val (.ref b30), .val (.long ((((0 : Int64) + (0 : Int64)) + (0 : Int64)) + (0 : Int64))), .second, .val (.long ex), .second, .unset, .unset] [(.long (1 : Int64)), (.long ex)]))) (fun t ht => XT.lconstV X35.here hx rfl (1 : Int64) (hb hby at_123) rfl ht) ?_
      refine own_step (U' := (T35.setTop (mkF m 125 #[.val (.int p1), .val (.int p2), .val (.int p3), .val (.int p4), .val (.int ka), .val (.int kb), .val (.int kc_), .val (.int (0 : Int32)), .val (.ref b30), .val (.long ((((0 : Int64) + (0 : Int64)) + (0 : Int64)) + (0 : Int64))), .second, .val (.long ex), .second, .unset, .unset] [(.long (ex + (1 : Int64)))]))) (fun t ht => XT.ladd X35.here hx rfl (hb hby at_124) rfl ht) ?_
      refine own_step (U' := (T35.setTop (mkF m 127 #[.val (.int p1), .val (.int p2), .val (.int p3), .val (.int p4), .val (.int ka), .val (.int kb), .val (.int kc_), .val (.int (0 : Int32)), .val (.ref b30), .val (.long ((((0 : Int64) + (0 : Int64)) + (0 : Int64)) + (0 : Int64))), .second, .val (.long (ex + (1 : Int64))), .second, .unset, .unset] []))) (fun t ht => XT.lstore X35.here hx rfl (hb hby at_125) rfl (l' := #[.val (.int p1), .val (.int p2), .val (.int p3), .val (.int p4), .val (.int ka), .val (.int kb), .val (.int kc_), .val (.int (0 : Int32)), .val (.ref b30), .val (.long ((((0 : Int64) + (0 : Int64)) + (0 : Int64)) + (0 : Int64))), .second, .val (.long (ex + (1 : Int64))), .second, .unset, .unset]) rfl ht) ?_
      exact t127 ((w0 + (1 : Int64))) (w1) (w2) ((ex + (1 : Int64))) _ _ X35 N35 K35 f35_0 f35_1 f35_2 f35_3 f35_4 f35_5 f35_6 f35_7 f35_8 f35_9 f35_10 f35_11 f35_12 Fq35_0 (own_s0 hsum)
    ·
      refine own_step (U' := (T_.setTop (mkF m 107 #[.val (.int p1), .val (.int p2), .val (.int p3), .val (.int p4), .val (.int ka), .val (.int kb), .val (.int kc_), .val (.int (1 : Int32)), .val (.ref b30), .val (.long ((((0 : Int64) + (0 : Int64)) + (0 : Int64)) + (0 : Int64))), .second, .val (.long ex), .second, .unset, .unset] [(.int (1 : Int32))]))) (fun t ht => XS.iload X_.here hx rfl (hb hby at_105) rfl ht) ?_
      refine own_step (U' := (T_.setTop (mkF m 108 #[.val (.int p1), .val (.int p2), .val (.int p3), .val (.int p4), .val (.int ka), .val (.int kb), .val (.int kc_), .val (.int (1 : Int32)), .val (.ref b30), .val (.long ((((0 : Int64) + (0 : Int64)) + (0 : Int64)) + (0 : Int64))), .second, .val (.long ex), .second, .unset, .unset] [(.int (3 : Int32)), (.int (1 : Int32))]))) (fun t ht => XS.iconst X_.here hx rfl (hb hby at_107) ht) ?_
      refine own_step (U' := (T_.setTop (mkF m 111 #[.val (.int p1), .val (.int p2), .val (.int p3), .val (.int p4), .val (.int ka), .val (.int kb), .val (.int kc_), .val (.int (1 : Int32)), .val (.ref b30), .val (.long ((((0 : Int64) + (0 : Int64)) + (0 : Int64)) + (0 : Int64))), .second, .val (.long ex), .second, .unset, .unset] []))) (fun t ht => XS.icmpNo X_.here hx rfl (hb hby at_108) rfl (XT.ii_eq_f ((by decide) : ¬ ((1 : Int32) = (3 : Int32)))) ht) ?_
      refine own_step (U' := (T_.setTop (mkF m 113 #[.val (.int p1), .val (.int p2), .val (.int p3), .val (.int p4), .val (.int ka), .val (.int kb), .val (.int kc_), .val (.int (1 : Int32)), .val (.ref b30), .val (.long ((((0 : Int64) + (0 : Int64)) + (0 : Int64)) + (0 : Int64))), .second, .val (.long ex), .second, .unset, .unset] [(.ref b30)]))) (fun t ht => XS.aload X_.here hx rfl (hb hby at_111) rfl rfl ht) ?_
      refine own_step (U' := (T_.setTop (mkF m 115 #[.val (.int p1), .val (.int p2), .val (.int p3), .val (.int p4), .val (.int ka), .val (.int kb), .val (.int kc_), .val (.int (1 : Int32)), .val (.ref b30), .val (.long ((((0 : Int64) + (0 : Int64)) + (0 : Int64)) + (0 : Int64))), .second, .val (.long ex), .second, .unset, .unset] [(.int (1 : Int32)), (.ref b30)]))) (fun t ht => XS.iload X_.here hx rfl (hb hby at_113) rfl ht) ?_
      obtain ⟨_, _, ⟨T36, L36, k36, n36⟩, -, X36, ⟨Lc36, hQ36, l36, y36, z36⟩, st36⟩ := Jvm.LawKit.callS X_ hx (y := (⟨"com/example/feuillet/feuillet/SummaryDocumentsPinLaw", "pick", "(I)Lcom/example/feuillet/feuillet/Verdict;"⟩ : MethodName)) hown (mvT hZ (hw _ (List.mem_of_getElem? (i := 36) rfl))) (mvT hZ (hw _ (List.mem_of_getElem? (i := 37) rfl))) (mvT hZ (hw _ (List.mem_of_getElem? (i := 38) rfl))) (mvT hZ (hw _ (List.mem_of_getElem? (i := 39) rfl))) (by decide) (backOf (W := 1) (own_m_pick1 l Z a0 hw [] (x1) T_.heap n0 (Nat.le_trans Z0 K_.1) f_3) hZ (hw _ (List.mem_of_getElem? (i := 39) rfl)) (hw _ (List.mem_of_getElem? (i := 38) rfl)) (by decide) (by decide)) (g := (mkF m 115 #[.val (.int p1), .val (.int p2), .val (.int p3), .val (.int p4), .val (.int ka), .val (.int kb), .val (.int kc_), .val (.int (1 : Int32)), .val (.ref b30), .val (.long ((((0 : Int64) + (0 : Int64)) + (0 : Int64)) + (0 : Int64))), .second, .val (.long ex), .second, .unset, .unset] [(.int (1 : Int32)), (.ref b30)])) rfl (by rw [hml]; rfl) (argsL := [(.int (1 : Int32))]) (rest := [(.ref b30)]) (lenOf own_pd4 rfl) rfl (by show 2 * 0 + _ ≤ _; exact Nat.le_of_eq rfl) (hb hby at_115) (fun _ _ => ⟨rfl, rfl, (by decide : 3 + 0 ≤ _), (by decide : 7 + 0 ≤ _)⟩)
      dsimp only [Pt.U, Pt.locs, Pt.cells, Pt.slots] at X36 l36 y36 z36 st36 hQ36
      subst l36 y36 z36
      obtain ⟨rfl, Nq36, Kq36⟩ := hQ36
      have N36 := Fr.app N_ Nq36
      have e36 : T36.heap = T_.heap := Kq36
      refine own_step (U' := (T36.setTop (mkF m 118 #[.val (.int p1), .val (.int p2), .val (.int p3), .val (.int p4), .val (.int ka), .val (.int kb), .val (.int kc_), .val (.int (1 : Int32)), .val (.ref b30), .val (.long ((((0 : Int64) + (0 : Int64)) + (0 : Int64)) + (0 : Int64))), .second, .val (.long ex), .second, .unset, .unset] [(.ref x1), (.ref b30)]))) (fun t ht => st36 _ ht) ?_
      obtain ⟨cq37, kq37, q37a, q37b, q37c⟩ := isOf hZ e36 f_12
      obtain ⟨_, _, ⟨T37, L37, k37, n37⟩, -, X37, ⟨Lc37, hQ37, l37, y37, z37⟩, st37⟩ := X36.virtualBack hx (y := (⟨"com/example/feuillet/feuillet/Summary", "add", "(Lcom/example/feuillet/feuillet/Verdict;)V"⟩ : MethodName)) (z := (⟨"com/example/feuillet/feuillet/Summary", "add", "(Lcom/example/feuillet/feuillet/Verdict;)V"⟩ : MethodName)) hown (mvT hZ (hw _ (List.mem_of_getElem? (i := 41) rfl))) (mvT hZ (hw _ (List.mem_of_getElem? (i := 42) rfl))) (notFace_of_selects (args := #[]) (mvT hZ (hw _ (List.mem_of_getElem? (i := 44) rfl)))) (mvT hZ (hw _ (List.mem_of_getElem? (i := 44) rfl))) (mvT hZ (hw _ (List.mem_of_getElem? (i := 43) rfl))) (by decide) (backOf (W := 0) (own_m_add1 l Z a0 hw [] (b30) (x1) (r1_31) (kc_31) (w0) (w1) (w2) T_.heap n0 (Nat.le_trans Z0 K_.1) g_r1_31 p31_0 ne_x1_r1_31 f_11 f_13 f_6 f_9) hZ (hw _ (List.mem_of_getElem? (i := 45) rfl)) (hw _ (List.mem_of_getElem? (i := 2) rfl)) (by decide) (by decide)) q37a q37c (g := (mkF m 118 #[.val (.int p1), .val (.int p2), .val (.int p3), .val (.int p4), .val (.int ka), .val (.int kb), .val (.int kc_), .val (.int (1 : Int32)), .val (.ref b30), .val (.long ((((0 : Int64) + (0 : Int64)) + (0 : Int64)) + (0 : Int64))), .second, .val (.long ex), .second, .unset, .unset] [(.ref x1), (.ref b30)])) rfl (by rw [hml]; rfl) (Steps.refl _) (argsL := [(.ref x1)]) (rest := []) (lenOf own_pd5 rfl) rfl (by show 2 * 0 + _ ≤ _; exact Nat.le_of_eq rfl) (hb hby at_118) (fun _ _ => ⟨rfl, e36, (by decide : 3 + 0 ≤ _), (by decide : 7 + 0 ≤ _)⟩)
      dsimp only [Pt.U, Pt.locs, Pt.cells, Pt.slots] at X37 l37 y37 z37 st37 hQ37
      subst l37 y37 z37
      obtain ⟨rfl, Nq37, Kq37, Fq37_0⟩ := hQ37
      have N37 := Fr.app N36 Nq37
      have f37_0 : Sta Z T37.heap "com/example/feuillet/feuillet/Verdict" "$VALUES" "[Lcom/example/feuillet/feuillet/Verdict;" (.ref xv) := own_sta_keep f_0 Kq37 (own_plV f_13 own_pl0)
      have f37_1 : Exa Z T37.heap xv "[Lcom/example/feuillet/feuillet/Verdict;" := f_1.keep Kq37
      have f37_2 : Sta Z T37.heap "com/example/feuillet/feuillet/Verdict" "CONFORMANT" "Lcom/example/feuillet/feuillet/Verdict;" (.ref x0) := own_sta_keep f_2 Kq37 (own_plV f_13 own_pl0)
      have f37_3 : Sta Z T37.heap "com/example/feuillet/feuillet/Verdict" "NOT_CONFORMANT" "Lcom/example/feuillet/feuillet/Verdict;" (.ref x1) := own_sta_keep f_3 Kq37 (own_plV f_13 own_pl0)
      have f37_4 : Sta Z T37.heap "com/example/feuillet/feuillet/Verdict" "NOT_CHECKED" "Lcom/example/feuillet/feuillet/Verdict;" (.ref x2) := own_sta_keep f_4 Kq37 (own_plV f_13 own_pl0)
      have f37_5 : Fld Z T37.heap x0 "java/lang/Enum" "ordinal" "I" (.int (0 : Int32)) := f_5.keep Kq37 (ninS ne_x0_r1_31 nin0)
      have f37_6 : Fld Z T37.heap x1 "java/lang/Enum" "ordinal" "I" (.int (1 : Int32)) := f_6.keep Kq37 (ninS ne_x1_r1_31 nin0)
      have f37_7 : Fld Z T37.heap x2 "java/lang/Enum" "ordinal" "I" (.int (2 : Int32)) := f_7.keep Kq37 (ninS ne_x2_r1_31 nin0)
      have f37_8 : Exa Z T37.heap x0 "com/example/feuillet/feuillet/Verdict" := f_8.keep Kq37
      have f37_9 : Exa Z T37.heap x1 "com/example/feuillet/feuillet/Verdict" := f_9.keep Kq37
      have f37_10 : Exa Z T37.heap x2 "com/example/feuillet/feuillet/Verdict" := f_10.keep Kq37
      have f37_11 : Fld Z T37.heap b30 "com/example/feuillet/feuillet/Summary" "counts" "[J" (.ref r1_31) := f_11.keep Kq37 (ninS p31_0 nin0)
      have f37_12 : Exa Z T37.heap b30 "com/example/feuillet/feuillet/Summary" := f_12.keep Kq37
      have K37 : Keep h0 T37.heap [] := K_.trans Kq37 (allS (Or.inr sz_r1_31) all0)
      refine own_step (U' := (T37.setTop (mkF m 121 #[.val (.int p1), .val (.int p2), .val (.int p3), .val (.int p4), .val (.int ka), .val (.int kb), .val (.int kc_), .val (.int (1 : Int32)), .val (.ref b30), .val (.long ((((0 : Int64) + (0 : Int64)) + (0 : Int64)) + (0 : Int64))), .second, .val (.long ex), .second, .unset, .unset] []))) (fun t ht => st37.trans ht) ?_
      refine own_step (U' := (T37.setTop (mkF m 123 #[.val (.int p1), .val (.int p2), .val (.int p3), .val (.int p4), .val (.int ka), .val (.int kb), .val (.int kc_), .val (.int (1 : Int32)), .val (.ref b30), .val (.long ((((0 : Int64) + (0 : Int64)) + (0 : Int64)) + (0 : Int64))), .second, .val (.long ex), .second, .unset, .unset] [(.long ex)]))) (fun t ht => XT.lload X37.here hx rfl (hb hby at_121) rfl ht) ?_
      refine own_step (U' := (T37.setTop (mkF m 124 #[.val (.int p1), .val (.int p2), .val (.int p3), .val (.int p4), .val (.int ka), .val (.int kb), .val (.int kc_), .val (.int (1 : Int32)), .val (.ref b30), .val (.long ((((0 : Int64) + (0 : Int64)) + (0 : Int64)) + (0 : Int64))), .second, .val (.long ex), .second, .unset, .unset] [(.long (1 : Int64)), (.long ex)]))) (fun t ht => XT.lconstV X37.here hx rfl (1 : Int64) (hb hby at_123) rfl ht) ?_
      refine own_step (U' := (T37.setTop (mkF m 125 #[.val (.int p1), .val (.int p2), .val (.int p3), .val (.int p4), .val (.int ka), .val (.int kb), .val (.int kc_), .val (.int (1 : Int32)), .val (.ref b30), .val (.long ((((0 : Int64) + (0 : Int64)) + (0 : Int64)) + (0 : Int64))), .second, .val (.long ex), .second, .unset, .unset] [(.long (ex + (1 : Int64)))]))) (fun t ht => XT.ladd X37.here hx rfl (hb hby at_124) rfl ht) ?_
      refine own_step (U' := (T37.setTop (mkF m 127 #[.val (.int p1), .val (.int p2), .val (.int p3), .val (.int p4), .val (.int ka), .val (.int kb), .val (.int kc_), .val (.int (1 : Int32)), .val (.ref b30), .val (.long ((((0 : Int64) + (0 : Int64)) + (0 : Int64)) + (0 : Int64))), .second, .val (.long (ex + (1 : Int64))), .second, .unset, .unset] []))) (fun t ht => XT.lstore X37.here hx rfl (hb hby at_125) rfl (l' := #[.val (.int p1), .val (.int p2), .val (.int p3), .val (.int p4), .val (.int ka), .val (.int kb), .val (.int kc_), .val (.int (1 : Int32)), .val (.ref b30), .val (.long ((((0 : Int64) + (0 : Int64)) + (0 : Int64)) + (0 : Int64))), .second, .val (.long (ex + (1 : Int64))), .second, .unset, .unset]) rfl ht) ?_
      exact t127 (w0) ((w1 + (1 : Int64))) (w2) ((ex + (1 : Int64))) _ _ X37 N37 K37 f37_0 f37_1 f37_2 f37_3 f37_4 f37_5 f37_6 f37_7 f37_8 f37_9 f37_10 f37_11 f37_12 Fq37_0 (own_s1 hsum)
    ·
      refine own_step (U' := (T_.setTop (mkF m 107 #[.val (.int p1), .val (.int p2), .val (.int p3), .val (.int p4), .val (.int ka), .val (.int kb), .val (.int kc_), .val (.int (2 : Int32)), .val (.ref b30), .val (.long ((((0 : Int64) + (0 : Int64)) + (0 : Int64)) + (0 : Int64))), .second, .val (.long ex), .second, .unset, .unset] [(.int (2 : Int32))]))) (fun t ht => XS.iload X_.here hx rfl (hb hby at_105) rfl ht) ?_
      refine own_step (U' := (T_.setTop (mkF m 108 #[.val (.int p1), .val (.int p2), .val (.int p3), .val (.int p4), .val (.int ka), .val (.int kb), .val (.int kc_), .val (.int (2 : Int32)), .val (.ref b30), .val (.long ((((0 : Int64) + (0 : Int64)) + (0 : Int64)) + (0 : Int64))), .second, .val (.long ex), .second, .unset, .unset] [(.int (3 : Int32)), (.int (2 : Int32))]))) (fun t ht => XS.iconst X_.here hx rfl (hb hby at_107) ht) ?_
      refine own_step (U' := (T_.setTop (mkF m 111 #[.val (.int p1), .val (.int p2), .val (.int p3), .val (.int p4), .val (.int ka), .val (.int kb), .val (.int kc_), .val (.int (2 : Int32)), .val (.ref b30), .val (.long ((((0 : Int64) + (0 : Int64)) + (0 : Int64)) + (0 : Int64))), .second, .val (.long ex), .second, .unset, .unset] []))) (fun t ht => XS.icmpNo X_.here hx rfl (hb hby at_108) rfl (XT.ii_eq_f ((by decide) : ¬ ((2 : Int32) = (3 : Int32)))) ht) ?_
      refine own_step (U' := (T_.setTop (mkF m 113 #[.val (.int p1), .val (.int p2), .val (.int p3), .val (.int p4), .val (.int ka), .val (.int kb), .val (.int kc_), .val (.int (2 : Int32)), .val (.ref b30), .val (.long ((((0 : Int64) + (0 : Int64)) + (0 : Int64)) + (0 : Int64))), .second, .val (.long ex), .second, .unset, .unset] [(.ref b30)]))) (fun t ht => XS.aload X_.here hx rfl (hb hby at_111) rfl rfl ht) ?_
      refine own_step (U' := (T_.setTop (mkF m 115 #[.val (.int p1), .val (.int p2), .val (.int p3), .val (.int p4), .val (.int ka), .val (.int kb), .val (.int kc_), .val (.int (2 : Int32)), .val (.ref b30), .val (.long ((((0 : Int64) + (0 : Int64)) + (0 : Int64)) + (0 : Int64))), .second, .val (.long ex), .second, .unset, .unset] [(.int (2 : Int32)), (.ref b30)]))) (fun t ht => XS.iload X_.here hx rfl (hb hby at_113) rfl ht) ?_
      obtain ⟨_, _, ⟨T38, L38, k38, n38⟩, -, X38, ⟨Lc38, hQ38, l38, y38, z38⟩, st38⟩ := Jvm.LawKit.callS X_ hx (y := (⟨"com/example/feuillet/feuillet/SummaryDocumentsPinLaw", "pick", "(I)Lcom/example/feuillet/feuillet/Verdict;"⟩ : MethodName)) hown (mvT hZ (hw _ (List.mem_of_getElem? (i := 36) rfl))) (mvT hZ (hw _ (List.mem_of_getElem? (i := 37) rfl))) (mvT hZ (hw _ (List.mem_of_getElem? (i := 38) rfl))) (mvT hZ (hw _ (List.mem_of_getElem? (i := 39) rfl))) (by decide) (backOf (W := 1) (own_m_pick2 l Z a0 hw [] (x2) T_.heap n0 (Nat.le_trans Z0 K_.1) f_4) hZ (hw _ (List.mem_of_getElem? (i := 39) rfl)) (hw _ (List.mem_of_getElem? (i := 38) rfl)) (by decide) (by decide)) (g := (mkF m 115 #[.val (.int p1), .val (.int p2), .val (.int p3), .val (.int p4), .val (.int ka), .val (.int kb), .val (.int kc_), .val (.int (2 : Int32)), .val (.ref b30), .val (.long ((((0 : Int64) + (0 : Int64)) + (0 : Int64)) + (0 : Int64))), .second, .val (.long ex), .second, .unset, .unset] [(.int (2 : Int32)), (.ref b30)])) rfl (by rw [hml]; rfl) (argsL := [(.int (2 : Int32))]) (rest := [(.ref b30)]) (lenOf own_pd4 rfl) rfl (by show 2 * 0 + _ ≤ _; exact Nat.le_of_eq rfl) (hb hby at_115) (fun _ _ => ⟨rfl, rfl, (by decide : 3 + 0 ≤ _), (by decide : 7 + 0 ≤ _)⟩)
      dsimp only [Pt.U, Pt.locs, Pt.cells, Pt.slots] at X38 l38 y38 z38 st38 hQ38
      subst l38 y38 z38
      obtain ⟨rfl, Nq38, Kq38⟩ := hQ38
      have N38 := Fr.app N_ Nq38
      have e38 : T38.heap = T_.heap := Kq38
      refine own_step (U' := (T38.setTop (mkF m 118 #[.val (.int p1), .val (.int p2), .val (.int p3), .val (.int p4), .val (.int ka), .val (.int kb), .val (.int kc_), .val (.int (2 : Int32)), .val (.ref b30), .val (.long ((((0 : Int64) + (0 : Int64)) + (0 : Int64)) + (0 : Int64))), .second, .val (.long ex), .second, .unset, .unset] [(.ref x2), (.ref b30)]))) (fun t ht => st38 _ ht) ?_
      obtain ⟨cq39, kq39, q39a, q39b, q39c⟩ := isOf hZ e38 f_12
      obtain ⟨_, _, ⟨T39, L39, k39, n39⟩, -, X39, ⟨Lc39, hQ39, l39, y39, z39⟩, st39⟩ := X38.virtualBack hx (y := (⟨"com/example/feuillet/feuillet/Summary", "add", "(Lcom/example/feuillet/feuillet/Verdict;)V"⟩ : MethodName)) (z := (⟨"com/example/feuillet/feuillet/Summary", "add", "(Lcom/example/feuillet/feuillet/Verdict;)V"⟩ : MethodName)) hown (mvT hZ (hw _ (List.mem_of_getElem? (i := 41) rfl))) (mvT hZ (hw _ (List.mem_of_getElem? (i := 42) rfl))) (notFace_of_selects (args := #[]) (mvT hZ (hw _ (List.mem_of_getElem? (i := 44) rfl)))) (mvT hZ (hw _ (List.mem_of_getElem? (i := 44) rfl))) (mvT hZ (hw _ (List.mem_of_getElem? (i := 43) rfl))) (by decide) (backOf (W := 0) (own_m_add2 l Z a0 hw [] (b30) (x2) (r1_31) (kc_31) (w0) (w1) (w2) T_.heap n0 (Nat.le_trans Z0 K_.1) g_r1_31 p31_0 ne_x2_r1_31 f_11 f_13 f_7 f_10) hZ (hw _ (List.mem_of_getElem? (i := 45) rfl)) (hw _ (List.mem_of_getElem? (i := 2) rfl)) (by decide) (by decide)) q39a q39c (g := (mkF m 118 #[.val (.int p1), .val (.int p2), .val (.int p3), .val (.int p4), .val (.int ka), .val (.int kb), .val (.int kc_), .val (.int (2 : Int32)), .val (.ref b30), .val (.long ((((0 : Int64) + (0 : Int64)) + (0 : Int64)) + (0 : Int64))), .second, .val (.long ex), .second, .unset, .unset] [(.ref x2), (.ref b30)])) rfl (by rw [hml]; rfl) (Steps.refl _) (argsL := [(.ref x2)]) (rest := []) (lenOf own_pd5 rfl) rfl (by show 2 * 0 + _ ≤ _; exact Nat.le_of_eq rfl) (hb hby at_118) (fun _ _ => ⟨rfl, e38, (by decide : 3 + 0 ≤ _), (by decide : 7 + 0 ≤ _)⟩)
      dsimp only [Pt.U, Pt.locs, Pt.cells, Pt.slots] at X39 l39 y39 z39 st39 hQ39
      subst l39 y39 z39
      obtain ⟨rfl, Nq39, Kq39, Fq39_0⟩ := hQ39
      have N39 := Fr.app N38 Nq39
      have f39_0 : Sta Z T39.heap "com/example/feuillet/feuillet/Verdict" "$VALUES" "[Lcom/example/feuillet/feuillet/Verdict;" (.ref xv) := own_sta_keep f_0 Kq39 (own_plV f_13 own_pl0)
      have f39_1 : Exa Z T39.heap xv "[Lcom/example/feuillet/feuillet/Verdict;" := f_1.keep Kq39
      have f39_2 : Sta Z T39.heap "com/example/feuillet/feuillet/Verdict" "CONFORMANT" "Lcom/example/feuillet/feuillet/Verdict;" (.ref x0) := own_sta_keep f_2 Kq39 (own_plV f_13 own_pl0)
      have f39_3 : Sta Z T39.heap "com/example/feuillet/feuillet/Verdict" "NOT_CONFORMANT" "Lcom/example/feuillet/feuillet/Verdict;" (.ref x1) := own_sta_keep f_3 Kq39 (own_plV f_13 own_pl0)
      have f39_4 : Sta Z T39.heap "com/example/feuillet/feuillet/Verdict" "NOT_CHECKED" "Lcom/example/feuillet/feuillet/Verdict;" (.ref x2) := own_sta_keep f_4 Kq39 (own_plV f_13 own_pl0)
      have f39_5 : Fld Z T39.heap x0 "java/lang/Enum" "ordinal" "I" (.int (0 : Int32)) := f_5.keep Kq39 (ninS ne_x0_r1_31 nin0)
      have f39_6 : Fld Z T39.heap x1 "java/lang/Enum" "ordinal" "I" (.int (1 : Int32)) := f_6.keep Kq39 (ninS ne_x1_r1_31 nin0)
      have f39_7 : Fld Z T39.heap x2 "java/lang/Enum" "ordinal" "I" (.int (2 : Int32)) := f_7.keep Kq39 (ninS ne_x2_r1_31 nin0)
      have f39_8 : Exa Z T39.heap x0 "com/example/feuillet/feuillet/Verdict" := f_8.keep Kq39
      have f39_9 : Exa Z T39.heap x1 "com/example/feuillet/feuillet/Verdict" := f_9.keep Kq39
      have f39_10 : Exa Z T39.heap x2 "com/example/feuillet/feuillet/Verdict" := f_10.keep Kq39
      have f39_11 : Fld Z T39.heap b30 "com/example/feuillet/feuillet/Summary" "counts" "[J" (.ref r1_31) := f_11.keep Kq39 (ninS p31_0 nin0)
      have f39_12 : Exa Z T39.heap b30 "com/example/feuillet/feuillet/Summary" := f_12.keep Kq39
      have K39 : Keep h0 T39.heap [] := K_.trans Kq39 (allS (Or.inr sz_r1_31) all0)
      refine own_step (U' := (T39.setTop (mkF m 121 #[.val (.int p1), .val (.int p2), .val (.int p3), .val (.int p4), .val (.int ka), .val (.int kb), .val (.int kc_), .val (.int (2 : Int32)), .val (.ref b30), .val (.long ((((0 : Int64) + (0 : Int64)) + (0 : Int64)) + (0 : Int64))), .second, .val (.long ex), .second, .unset, .unset] []))) (fun t ht => st39.trans ht) ?_
      refine own_step (U' := (T39.setTop (mkF m 123 #[.val (.int p1), .val (.int p2), .val (.int p3), .val (.int p4), .val (.int ka), .val (.int kb), .val (.int kc_), .val (.int (2 : Int32)), .val (.ref b30), .val (.long ((((0 : Int64) + (0 : Int64)) + (0 : Int64)) + (0 : Int64))), .second, .val (.long ex), .second, .unset, .unset] [(.long ex)]))) (fun t ht => XT.lload X39.here hx rfl (hb hby at_121) rfl ht) ?_
      refine own_step (U' := (T39.setTop (mkF m 124 #[.val (.int p1), .val (.int p2), .val (.int p3), .val (.int p4), .val (.int ka), .val (.int kb), .val (.int kc_), .val (.int (2 : Int32)), .val (.ref b30), .val (.long ((((0 : Int64) + (0 : Int64)) + (0 : Int64)) + (0 : Int64))), .second, .val (.long ex), .second, .unset, .unset] [(.long (1 : Int64)), (.long ex)]))) (fun t ht => XT.lconstV X39.here hx rfl (1 : Int64) (hb hby at_123) rfl ht) ?_
      refine own_step (U' := (T39.setTop (mkF m 125 #[.val (.int p1), .val (.int p2), .val (.int p3), .val (.int p4), .val (.int ka), .val (.int kb), .val (.int kc_), .val (.int (2 : Int32)), .val (.ref b30), .val (.long ((((0 : Int64) + (0 : Int64)) + (0 : Int64)) + (0 : Int64))), .second, .val (.long ex), .second, .unset, .unset] [(.long (ex + (1 : Int64)))]))) (fun t ht => XT.ladd X39.here hx rfl (hb hby at_124) rfl ht) ?_
      refine own_step (U' := (T39.setTop (mkF m 127 #[.val (.int p1), .val (.int p2), .val (.int p3), .val (.int p4), .val (.int ka), .val (.int kb), .val (.int kc_), .val (.int (2 : Int32)), .val (.ref b30), .val (.long ((((0 : Int64) + (0 : Int64)) + (0 : Int64)) + (0 : Int64))), .second, .val (.long (ex + (1 : Int64))), .second, .unset, .unset] []))) (fun t ht => XT.lstore X39.here hx rfl (hb hby at_125) rfl (l' := #[.val (.int p1), .val (.int p2), .val (.int p3), .val (.int p4), .val (.int ka), .val (.int kb), .val (.int kc_), .val (.int (2 : Int32)), .val (.ref b30), .val (.long ((((0 : Int64) + (0 : Int64)) + (0 : Int64)) + (0 : Int64))), .second, .val (.long (ex + (1 : Int64))), .second, .unset, .unset]) rfl ht) ?_
      exact t127 (w0) (w1) ((w2 + (1 : Int64))) ((ex + (1 : Int64))) _ _ X39 N39 K39 f39_0 f39_1 f39_2 f39_3 f39_4 f39_5 f39_6 f39_7 f39_8 f39_9 f39_10 f39_11 f39_12 Fq39_0 (own_s2 hsum)
    ·
      refine own_step (U' := (T_.setTop (mkF m 107 #[.val (.int p1), .val (.int p2), .val (.int p3), .val (.int p4), .val (.int ka), .val (.int kb), .val (.int kc_), .val (.int (3 : Int32)), .val (.ref b30), .val (.long ((((0 : Int64) + (0 : Int64)) + (0 : Int64)) + (0 : Int64))), .second, .val (.long ex), .second, .unset, .unset] [(.int (3 : Int32))]))) (fun t ht => XS.iload X_.here hx rfl (hb hby at_105) rfl ht) ?_
      refine own_step (U' := (T_.setTop (mkF m 108 #[.val (.int p1), .val (.int p2), .val (.int p3), .val (.int p4), .val (.int ka), .val (.int kb), .val (.int kc_), .val (.int (3 : Int32)), .val (.ref b30), .val (.long ((((0 : Int64) + (0 : Int64)) + (0 : Int64)) + (0 : Int64))), .second, .val (.long ex), .second, .unset, .unset] [(.int (3 : Int32)), (.int (3 : Int32))]))) (fun t ht => XS.iconst X_.here hx rfl (hb hby at_107) ht) ?_
      refine own_step (U' := (T_.setTop (mkF m 127 #[.val (.int p1), .val (.int p2), .val (.int p3), .val (.int p4), .val (.int ka), .val (.int kb), .val (.int kc_), .val (.int (3 : Int32)), .val (.ref b30), .val (.long ((((0 : Int64) + (0 : Int64)) + (0 : Int64)) + (0 : Int64))), .second, .val (.long ex), .second, .unset, .unset] []))) (fun t ht => XS.icmpYes X_.here hx rfl (pc0 := 108) (pc' := 127) rfl (hb hby at_108) rfl (XT.ii_eq_t ((by decide) : (3 : Int32) = (3 : Int32))) (by decide) (by decide) ht) ?_
      exact t127 (w0) (w1) (w2) (ex) _ _ X_ N_ K_ f_0 f_1 f_2 f_3 f_4 f_5 f_6 f_7 f_8 f_9 f_10 f_11 f_12 f_13 hsum
  have t83 : ∀ (w0 : Int64) (w1 : Int64) (w2 : Int64) (ex : Int64) (T_ : State) (L_ : List Loc) (X_ : Stand p l e room_1 s m #[(.int p1), (.int p2), (.int p3), (.int p4)] below meth c T_ L_ 3 7) (N_ : Fr n0 L_) (K_ : Keep h0 T_.heap []) (f_0 : Sta Z T_.heap "com/example/feuillet/feuillet/Verdict" "$VALUES" "[Lcom/example/feuillet/feuillet/Verdict;" (.ref xv)) (f_1 : Exa Z T_.heap xv "[Lcom/example/feuillet/feuillet/Verdict;") (f_2 : Sta Z T_.heap "com/example/feuillet/feuillet/Verdict" "CONFORMANT" "Lcom/example/feuillet/feuillet/Verdict;" (.ref x0)) (f_3 : Sta Z T_.heap "com/example/feuillet/feuillet/Verdict" "NOT_CONFORMANT" "Lcom/example/feuillet/feuillet/Verdict;" (.ref x1)) (f_4 : Sta Z T_.heap "com/example/feuillet/feuillet/Verdict" "NOT_CHECKED" "Lcom/example/feuillet/feuillet/Verdict;" (.ref x2)) (f_5 : Fld Z T_.heap x0 "java/lang/Enum" "ordinal" "I" (.int (0 : Int32))) (f_6 : Fld Z T_.heap x1 "java/lang/Enum" "ordinal" "I" (.int (1 : Int32))) (f_7 : Fld Z T_.heap x2 "java/lang/Enum" "ordinal" "I" (.int (2 : Int32))) (f_8 : Exa Z T_.heap x0 "com/example/feuillet/feuillet/Verdict") (f_9 : Exa Z T_.heap x1 "com/example/feuillet/feuillet/Verdict") (f_10 : Exa Z T_.heap x2 "com/example/feuillet/feuillet/Verdict") (f_11 : Fld Z T_.heap b30 "com/example/feuillet/feuillet/Summary" "counts" "[J" (.ref r1_31)) (f_12 : Exa Z T_.heap b30 "com/example/feuillet/feuillet/Summary") (f_13 : Arv Z T_.heap r1_31 kc_31 .long (3 : Int32) [(.long w0), (.long w1), (.long w2)] (.long (0 : Int64))) (hsum : w0 + w1 + w2 = ex), own_Go p e below s 3 7 (own_Q_law Z p1 p2 p3 p4 xv kv vv x0 x1 x2 h0 n0) (T_.setTop (mkF m 83 #[.val (.int p1), .val (.int p2), .val (.int p3), .val (.int p4), .val (.int ka), .val (.int kb), .val (.int kc_), .val (.int kd), .val (.ref b30), .val (.long ((((0 : Int64) + (0 : Int64)) + (0 : Int64)) + (0 : Int64))), .second, .val (.long ex), .second, .unset, .unset] [])) := by
    intro w0 w1 w2 ex T_ L_ X_ N_ K_ f_0 f_1 f_2 f_3 f_4 f_5 f_6 f_7 f_8 f_9 f_10 f_11 f_12 f_13 hsum
    rcases own_four h_kc_ with rfl | rfl | rfl | rfl
    ·
      refine own_step (U' := (T_.setTop (mkF m 85 #[.val (.int p1), .val (.int p2), .val (.int p3), .val (.int p4), .val (.int ka), .val (.int kb), .val (.int (0 : Int32)), .val (.int kd), .val (.ref b30), .val (.long ((((0 : Int64) + (0 : Int64)) + (0 : Int64)) + (0 : Int64))), .second, .val (.long ex), .second, .unset, .unset] [(.int (0 : Int32))]))) (fun t ht => XS.iload X_.here hx rfl (hb hby at_83) rfl ht) ?_
      refine own_step (U' := (T_.setTop (mkF m 86 #[.val (.int p1), .val (.int p2), .val (.int p3), .val (.int p4), .val (.int ka), .val (.int kb), .val (.int (0 : Int32)), .val (.int kd), .val (.ref b30), .val (.long ((((0 : Int64) + (0 : Int64)) + (0 : Int64)) + (0 : Int64))), .second, .val (.long ex), .second, .unset, .unset] [(.int (3 : Int32)), (.int (0 : Int32))]))) (fun t ht => XS.iconst X_.here hx rfl (hb hby at_85) ht) ?_
      refine own_step (U' := (T_.setTop (mkF m 89 #[.val (.int p1), .val (.int p2), .val (.int p3), .val (.int p4), .val (.int ka), .val (.int kb), .val (.int (0 : Int32)), .val (.int kd), .val (.ref b30), .val (.long ((((0 : Int64) + (0 : Int64)) + (0 : Int64)) + (0 : Int64))), .second, .val (.long ex), .second, .unset, .unset] []))) (fun t ht => XS.icmpNo X_.here hx rfl (hb hby at_86) rfl (XT.ii_eq_f ((by decide) : ¬ ((0 : Int32) = (3 : Int32)))) ht) ?_
      refine own_step (U' := (T_.setTop (mkF m 91 #[.val (.int p1), .val (.int p2), .val (.int p3), .val (.int p4), .val (.int ka), .val (.int kb), .val (.int (0 : Int32)), .val (.int kd), .val (.ref b30), .val (.long ((((0 : Int64) + (0 : Int64)) + (0 : Int64)) + (0 : Int64))), .second, .val (.long ex), .second, .unset, .unset] [(.ref b30)]))) (fun t ht => XS.aload X_.here hx rfl (hb hby at_89) rfl rfl ht) ?_
      refine own_step (U' := (T_.setTop (mkF m 93 #[.val (.int p1), .val (.int p2), .val (.int p3), .val (.int p4), .val (.int ka), .val (.int kb), .val (.int (0 : Int32)), .val (.int kd), .val (.ref b30), .val (.long ((((0 : Int64) + (0 : Int64)) + (0 : Int64)) + (0 : Int64))), .second, .val (.long ex), .second, .unset, .unset] [(.int (0 : Int32)), (.ref b30)]))) (fun t ht => XS.iload X_.here hx rfl (hb hby at_91) rfl ht) ?_
      obtain ⟨_, _, ⟨T40, L40, k40, n40⟩, -, X40, ⟨Lc40, hQ40, l40, y40, z40⟩, st40⟩ := Jvm.LawKit.callS X_ hx (y := (⟨"com/example/feuillet/feuillet/SummaryDocumentsPinLaw", "pick", "(I)Lcom/example/feuillet/feuillet/Verdict;"⟩ : MethodName)) hown (mvT hZ (hw _ (List.mem_of_getElem? (i := 36) rfl))) (mvT hZ (hw _ (List.mem_of_getElem? (i := 37) rfl))) (mvT hZ (hw _ (List.mem_of_getElem? (i := 38) rfl))) (mvT hZ (hw _ (List.mem_of_getElem? (i := 39) rfl))) (by decide) (backOf (W := 1) (own_m_pick0 l Z a0 hw [] (x0) T_.heap n0 (Nat.le_trans Z0 K_.1) f_2) hZ (hw _ (List.mem_of_getElem? (i := 39) rfl)) (hw _ (List.mem_of_getElem? (i := 38) rfl)) (by decide) (by decide)) (g := (mkF m 93 #[.val (.int p1), .val (.int p2), .val (.int p3), .val (.int p4), .val (.int ka), .val (.int kb), .val (.int (0 : Int32)), .val (.int kd), .val (.ref b30), .val (.long ((((0 : Int64) + (0 : Int64)) + (0 : Int64)) + (0 : Int64))), .second, .val (.long ex), .second, .unset, .unset] [(.int (0 : Int32)), (.ref b30)])) rfl (by rw [hml]; rfl) (argsL := [(.int (0 : Int32))]) (rest := [(.ref b30)]) (lenOf own_pd4 rfl) rfl (by show 2 * 0 + _ ≤ _; exact Nat.le_of_eq rfl) (hb hby at_93) (fun _ _ => ⟨rfl, rfl, (by decide : 3 + 0 ≤ _), (by decide : 7 + 0 ≤ _)⟩)
      dsimp only [Pt.U, Pt.locs, Pt.cells, Pt.slots] at X40 l40 y40 z40 st40 hQ40
      subst l40 y40 z40
      obtain ⟨rfl, Nq40, Kq40⟩ := hQ40
      have N40 := Fr.app N_ Nq40
      have e40 : T40.heap = T_.heap := Kq40
      refine own_step (U' := (T40.setTop (mkF m 96 #[.val (.int p1), .val (.int p2), .val (.int p3), .val (.int p4), .val (.int ka), .val (.int kb), .val (.int (0 : Int32)), .val (.int kd), .val (.ref b30), .val (.long ((((0 : Int64) + (0 : Int64)) + (0 : Int64)) + (0 : Int64))), .second, .val (.long ex), .second, .unset, .unset] [(.ref x0), (.ref b30)]))) (fun t ht => st40 _ ht) ?_
      obtain ⟨cq41, kq41, q41a, q41b, q41c⟩ := isOf hZ e40 f_12
      obtain ⟨_, _, ⟨T41, L41, k41, n41⟩, -, X41, ⟨Lc41, hQ41, l41, y41, z41⟩, st41⟩ := X40.virtualBack hx (y := (⟨"com/example/feuillet/feuillet/Summary", "add", "(Lcom/example/feuillet/feuillet/Verdict;)V"⟩ : MethodName)) (z := (⟨"com/example/feuillet/feuillet/Summary", "add", "(Lcom/example/feuillet/feuillet/Verdict;)V"⟩ : MethodName)) hown (mvT hZ (hw _ (List.mem_of_getElem? (i := 41) rfl))) (mvT hZ (hw _ (List.mem_of_getElem? (i := 42) rfl))) (notFace_of_selects (args := #[]) (mvT hZ (hw _ (List.mem_of_getElem? (i := 44) rfl)))) (mvT hZ (hw _ (List.mem_of_getElem? (i := 44) rfl))) (mvT hZ (hw _ (List.mem_of_getElem? (i := 43) rfl))) (by decide) (backOf (W := 0) (own_m_add0 l Z a0 hw [] (b30) (x0) (r1_31) (kc_31) (w0) (w1) (w2) T_.heap n0 (Nat.le_trans Z0 K_.1) g_r1_31 p31_0 ne_x0_r1_31 f_11 f_13 f_5 f_8) hZ (hw _ (List.mem_of_getElem? (i := 45) rfl)) (hw _ (List.mem_of_getElem? (i := 2) rfl)) (by decide) (by decide)) q41a q41c (g := (mkF m 96 #[.val (.int p1), .val (.int p2), .val (.int p3), .val (.int p4), .val (.int ka), .val (.int kb), .val (.int (0 : Int32)), .val (.int kd), .val (.ref b30), .val (.long ((((0 : Int64) + (0 : Int64)) + (0 : Int64)) + (0 : Int64))), .second, .val (.long ex), .second, .unset, .unset] [(.ref x0), (.ref b30)])) rfl (by rw [hml]; rfl) (Steps.refl _) (argsL := [(.ref x0)]) (rest := []) (lenOf own_pd5 rfl) rfl (by show 2 * 0 + _ ≤ _; exact Nat.le_of_eq rfl) (hb hby at_96) (fun _ _ => ⟨rfl, e40, (by decide : 3 + 0 ≤ _), (by decide : 7 + 0 ≤ _)⟩)
      dsimp only [Pt.U, Pt.locs, Pt.cells, Pt.slots] at X41 l41 y41 z41 st41 hQ41
      subst l41 y41 z41
      obtain ⟨rfl, Nq41, Kq41, Fq41_0⟩ := hQ41
      have N41 := Fr.app N40 Nq41
      have f41_0 : Sta Z T41.heap "com/example/feuillet/feuillet/Verdict" "$VALUES" "[Lcom/example/feuillet/feuillet/Verdict;" (.ref xv) := own_sta_keep f_0 Kq41 (own_plV f_13 own_pl0)
      have f41_1 : Exa Z T41.heap xv "[Lcom/example/feuillet/feuillet/Verdict;" := f_1.keep Kq41
      have f41_2 : Sta Z T41.heap "com/example/feuillet/feuillet/Verdict" "CONFORMANT" "Lcom/example/feuillet/feuillet/Verdict;" (.ref x0) := own_sta_keep f_2 Kq41 (own_plV f_13 own_pl0)
      have f41_3 : Sta Z T41.heap "com/example/feuillet/feuillet/Verdict" "NOT_CONFORMANT" "Lcom/example/feuillet/feuillet/Verdict;" (.ref x1) := own_sta_keep f_3 Kq41 (own_plV f_13 own_pl0)
      have f41_4 : Sta Z T41.heap "com/example/feuillet/feuillet/Verdict" "NOT_CHECKED" "Lcom/example/feuillet/feuillet/Verdict;" (.ref x2) := own_sta_keep f_4 Kq41 (own_plV f_13 own_pl0)
      have f41_5 : Fld Z T41.heap x0 "java/lang/Enum" "ordinal" "I" (.int (0 : Int32)) := f_5.keep Kq41 (ninS ne_x0_r1_31 nin0)
      have f41_6 : Fld Z T41.heap x1 "java/lang/Enum" "ordinal" "I" (.int (1 : Int32)) := f_6.keep Kq41 (ninS ne_x1_r1_31 nin0)
      have f41_7 : Fld Z T41.heap x2 "java/lang/Enum" "ordinal" "I" (.int (2 : Int32)) := f_7.keep Kq41 (ninS ne_x2_r1_31 nin0)
      have f41_8 : Exa Z T41.heap x0 "com/example/feuillet/feuillet/Verdict" := f_8.keep Kq41
      have f41_9 : Exa Z T41.heap x1 "com/example/feuillet/feuillet/Verdict" := f_9.keep Kq41
      have f41_10 : Exa Z T41.heap x2 "com/example/feuillet/feuillet/Verdict" := f_10.keep Kq41
      have f41_11 : Fld Z T41.heap b30 "com/example/feuillet/feuillet/Summary" "counts" "[J" (.ref r1_31) := f_11.keep Kq41 (ninS p31_0 nin0)
      have f41_12 : Exa Z T41.heap b30 "com/example/feuillet/feuillet/Summary" := f_12.keep Kq41
      have K41 : Keep h0 T41.heap [] := K_.trans Kq41 (allS (Or.inr sz_r1_31) all0)
      refine own_step (U' := (T41.setTop (mkF m 99 #[.val (.int p1), .val (.int p2), .val (.int p3), .val (.int p4), .val (.int ka), .val (.int kb), .val (.int (0 : Int32)), .val (.int kd), .val (.ref b30), .val (.long ((((0 : Int64) + (0 : Int64)) + (0 : Int64)) + (0 : Int64))), .second, .val (.long ex), .second, .unset, .unset] []))) (fun t ht => st41.trans ht) ?_
      refine own_step (U' := (T41.setTop (mkF m 101 #[.val (.int p1), .val (.int p2), .val (.int p3), .val (.int p4), .val (.int ka), .val (.int kb), .val (.int (0 : Int32)), .val (.int kd), .val (.ref b30), .val (.long ((((0 : Int64) + (0 : Int64)) + (0 : Int64)) + (0 : Int64))), .second, .val (.long ex), .second, .unset, .unset] [(.long ex)]))) (fun t ht => XT.lload X41.here hx rfl (hb hby at_99) rfl ht) ?_
      refine own_step (U' := (T41.setTop (mkF m 102 #[.val (.int p1), .val (.int p2), .val (.int p3), .val (.int p4), .val (.int ka), .val (.int kb), .val (.int (0 : Int32)), .val (.int kd), .val (.ref b30), .val (.long ((((0 : Int64) + (0 : Int64)) + (0 : Int64)) + (0 : Int64))), .second, .val (.long ex), .second, .unset, .unset] [(.long (1 : Int64)), (.long ex)]))) (fun t ht => XT.lconstV X41.here hx rfl (1 : Int64) (hb hby at_101) rfl ht) ?_
      refine own_step (U' := (T41.setTop (mkF m 103 #[.val (.int p1), .val (.int p2), .val (.int p3), .val (.int p4), .val (.int ka), .val (.int kb), .val (.int (0 : Int32)), .val (.int kd), .val (.ref b30), .val (.long ((((0 : Int64) + (0 : Int64)) + (0 : Int64)) + (0 : Int64))), .second, .val (.long ex), .second, .unset, .unset] [(.long (ex + (1 : Int64)))]))) (fun t ht => XT.ladd X41.here hx rfl (hb hby at_102) rfl ht) ?_
      refine own_step (U' := (T41.setTop (mkF m 105 #[.val (.int p1), .val (.int p2), .val (.int p3), .val (.int p4), .val (.int ka), .val (.int kb), .val (.int (0 : Int32)), .val (.int kd), .val (.ref b30), .val (.long ((((0 : Int64) + (0 : Int64)) + (0 : Int64)) + (0 : Int64))), .second, .val (.long (ex + (1 : Int64))), .second, .unset, .unset] []))) (fun t ht => XT.lstore X41.here hx rfl (hb hby at_103) rfl (l' := #[.val (.int p1), .val (.int p2), .val (.int p3), .val (.int p4), .val (.int ka), .val (.int kb), .val (.int (0 : Int32)), .val (.int kd), .val (.ref b30), .val (.long ((((0 : Int64) + (0 : Int64)) + (0 : Int64)) + (0 : Int64))), .second, .val (.long (ex + (1 : Int64))), .second, .unset, .unset]) rfl ht) ?_
      exact t105 ((w0 + (1 : Int64))) (w1) (w2) ((ex + (1 : Int64))) _ _ X41 N41 K41 f41_0 f41_1 f41_2 f41_3 f41_4 f41_5 f41_6 f41_7 f41_8 f41_9 f41_10 f41_11 f41_12 Fq41_0 (own_s0 hsum)
    ·
      refine own_step (U' := (T_.setTop (mkF m 85 #[.val (.int p1), .val (.int p2), .val (.int p3), .val (.int p4), .val (.int ka), .val (.int kb), .val (.int (1 : Int32)), .val (.int kd), .val (.ref b30), .val (.long ((((0 : Int64) + (0 : Int64)) + (0 : Int64)) + (0 : Int64))), .second, .val (.long ex), .second, .unset, .unset] [(.int (1 : Int32))]))) (fun t ht => XS.iload X_.here hx rfl (hb hby at_83) rfl ht) ?_
      refine own_step (U' := (T_.setTop (mkF m 86 #[.val (.int p1), .val (.int p2), .val (.int p3), .val (.int p4), .val (.int ka), .val (.int kb), .val (.int (1 : Int32)), .val (.int kd), .val (.ref b30), .val (.long ((((0 : Int64) + (0 : Int64)) + (0 : Int64)) + (0 : Int64))), .second, .val (.long ex), .second, .unset, .unset] [(.int (3 : Int32)), (.int (1 : Int32))]))) (fun t ht => XS.iconst X_.here hx rfl (hb hby at_85) ht) ?_
      refine own_step (U' := (T_.setTop (mkF m 89 #[.val (.int p1), .val (.int p2), .val (.int p3), .val (.int p4), .val (.int ka), .val (.int kb), .val (.int (1 : Int32)), .val (.int kd), .val (.ref b30), .val (.long ((((0 : Int64) + (0 : Int64)) + (0 : Int64)) + (0 : Int64))), .second, .val (.long ex), .second, .unset, .unset] []))) (fun t ht => XS.icmpNo X_.here hx rfl (hb hby at_86) rfl (XT.ii_eq_f ((by decide) : ¬ ((1 : Int32) = (3 : Int32)))) ht) ?_
      refine own_step (U' := (T_.setTop (mkF m 91 #[.val (.int p1), .val (.int p2), .val (.int p3), .val (.int p4), .val (.int ka), .val (.int kb), .val (.int (1 : Int32)), .val (.int kd), .val (.ref b30), .val (.long ((((0 : Int64) + (0 : Int64)) + (0 : Int64)) + (0 : Int64))), .second, .val (.long ex), .second, .unset, .unset] [(.ref b30)]))) (fun t ht => XS.aload X_.here hx rfl (hb hby at_89) rfl rfl ht) ?_
      refine own_step (U' := (T_.setTop (mkF m 93 #[.val (.int p1), .val (.int p2), .val (.int p3), .val (.int p4), .val (.int ka), .val (.int kb), .val (.int (1 : Int32)), .val (.int kd), .val (.ref b30), .val (.long ((((0 : Int64) + (0 : Int64)) + (0 : Int64)) + (0 : Int64))), .second, .val (.long ex), .second, .unset, .unset] [(.int (1 : Int32)), (.ref b30)]))) (fun t ht => XS.iload X_.here hx rfl (hb hby at_91) rfl ht) ?_
      obtain ⟨_, _, ⟨T42, L42, k42, n42⟩, -, X42, ⟨Lc42, hQ42, l42, y42, z42⟩, st42⟩ := Jvm.LawKit.callS X_ hx (y := (⟨"com/example/feuillet/feuillet/SummaryDocumentsPinLaw", "pick", "(I)Lcom/example/feuillet/feuillet/Verdict;"⟩ : MethodName)) hown (mvT hZ (hw _ (List.mem_of_getElem? (i := 36) rfl))) (mvT hZ (hw _ (List.mem_of_getElem? (i := 37) rfl))) (mvT hZ (hw _ (List.mem_of_getElem? (i := 38) rfl))) (mvT hZ (hw _ (List.mem_of_getElem? (i := 39) rfl))) (by decide) (backOf (W := 1) (own_m_pick1 l Z a0 hw [] (x1) T_.heap n0 (Nat.le_trans Z0 K_.1) f_3) hZ (hw _ (List.mem_of_getElem? (i := 39) rfl)) (hw _ (List.mem_of_getElem? (i := 38) rfl)) (by decide) (by decide)) (g := (mkF m 93 #[.val (.int p1), .val (.int p2), .val (.int p3), .val (.int p4), .val (.int ka), .val (.int kb), .val (.int (1 : Int32)), .val (.int kd), .val (.ref b30), .val (.long ((((0 : Int64) + (0 : Int64)) + (0 : Int64)) + (0 : Int64))), .second, .val (.long ex), .second, .unset, .unset] [(.int (1 : Int32)), (.ref b30)])) rfl (by rw [hml]; rfl) (argsL := [(.int (1 : Int32))]) (rest := [(.ref b30)]) (lenOf own_pd4 rfl) rfl (by show 2 * 0 + _ ≤ _; exact Nat.le_of_eq rfl) (hb hby at_93) (fun _ _ => ⟨rfl, rfl, (by decide : 3 + 0 ≤ _), (by decide : 7 + 0 ≤ _)⟩)
      dsimp only [Pt.U, Pt.locs, Pt.cells, Pt.slots] at X42 l42 y42 z42 st42 hQ42
      subst l42 y42 z42
      obtain ⟨rfl, Nq42, Kq42⟩ := hQ42
      have N42 := Fr.app N_ Nq42
      have e42 : T42.heap = T_.heap := Kq42
      refine own_step (U' := (T42.setTop (mkF m 96 #[.val (.int p1), .val (.int p2), .val (.int p3), .val (.int p4), .val (.int ka), .val (.int kb), .val (.int (1 : Int32)), .val (.int kd), .val (.ref b30), .val (.long ((((0 : Int64) + (0 : Int64)) + (0 : Int64)) + (0 : Int64))), .second, .val (.long ex), .second, .unset, .unset] [(.ref x1), (.ref b30)]))) (fun t ht => st42 _ ht) ?_
      obtain ⟨cq43, kq43, q43a, q43b, q43c⟩ := isOf hZ e42 f_12
      obtain ⟨_, _, ⟨T43, L43, k43, n43⟩, -, X43, ⟨Lc43, hQ43, l43, y43, z43⟩, st43⟩ := X42.virtualBack hx (y := (⟨"com/example/feuillet/feuillet/Summary", "add", "(Lcom/example/feuillet/feuillet/Verdict;)V"⟩ : MethodName)) (z := (⟨"com/example/feuillet/feuillet/Summary", "add", "(Lcom/example/feuillet/feuillet/Verdict;)V"⟩ : MethodName)) hown (mvT hZ (hw _ (List.mem_of_getElem? (i := 41) rfl))) (mvT hZ (hw _ (List.mem_of_getElem? (i := 42) rfl))) (notFace_of_selects (args := #[]) (mvT hZ (hw _ (List.mem_of_getElem? (i := 44) rfl)))) (mvT hZ (hw _ (List.mem_of_getElem? (i := 44) rfl))) (mvT hZ (hw _ (List.mem_of_getElem? (i := 43) rfl))) (by decide) (backOf (W := 0) (own_m_add1 l Z a0 hw [] (b30) (x1) (r1_31) (kc_31) (w0) (w1) (w2) T_.heap n0 (Nat.le_trans Z0 K_.1) g_r1_31 p31_0 ne_x1_r1_31 f_11 f_13 f_6 f_9) hZ (hw _ (List.mem_of_getElem? (i := 45) rfl)) (hw _ (List.mem_of_getElem? (i := 2) rfl)) (by decide) (by decide)) q43a q43c (g := (mkF m 96 #[.val (.int p1), .val (.int p2), .val (.int p3), .val (.int p4), .val (.int ka), .val (.int kb), .val (.int (1 : Int32)), .val (.int kd), .val (.ref b30), .val (.long ((((0 : Int64) + (0 : Int64)) + (0 : Int64)) + (0 : Int64))), .second, .val (.long ex), .second, .unset, .unset] [(.ref x1), (.ref b30)])) rfl (by rw [hml]; rfl) (Steps.refl _) (argsL := [(.ref x1)]) (rest := []) (lenOf own_pd5 rfl) rfl (by show 2 * 0 + _ ≤ _; exact Nat.le_of_eq rfl) (hb hby at_96) (fun _ _ => ⟨rfl, e42, (by decide : 3 + 0 ≤ _), (by decide : 7 + 0 ≤ _)⟩)
      dsimp only [Pt.U, Pt.locs, Pt.cells, Pt.slots] at X43 l43 y43 z43 st43 hQ43
      subst l43 y43 z43
      obtain ⟨rfl, Nq43, Kq43, Fq43_0⟩ := hQ43
      have N43 := Fr.app N42 Nq43
      have f43_0 : Sta Z T43.heap "com/example/feuillet/feuillet/Verdict" "$VALUES" "[Lcom/example/feuillet/feuillet/Verdict;" (.ref xv) := own_sta_keep f_0 Kq43 (own_plV f_13 own_pl0)
      have f43_1 : Exa Z T43.heap xv "[Lcom/example/feuillet/feuillet/Verdict;" := f_1.keep Kq43
      have f43_2 : Sta Z T43.heap "com/example/feuillet/feuillet/Verdict" "CONFORMANT" "Lcom/example/feuillet/feuillet/Verdict;" (.ref x0) := own_sta_keep f_2 Kq43 (own_plV f_13 own_pl0)
      have f43_3 : Sta Z T43.heap "com/example/feuillet/feuillet/Verdict" "NOT_CONFORMANT" "Lcom/example/feuillet/feuillet/Verdict;" (.ref x1) := own_sta_keep f_3 Kq43 (own_plV f_13 own_pl0)
      have f43_4 : Sta Z T43.heap "com/example/feuillet/feuillet/Verdict" "NOT_CHECKED" "Lcom/example/feuillet/feuillet/Verdict;" (.ref x2) := own_sta_keep f_4 Kq43 (own_plV f_13 own_pl0)
      have f43_5 : Fld Z T43.heap x0 "java/lang/Enum" "ordinal" "I" (.int (0 : Int32)) := f_5.keep Kq43 (ninS ne_x0_r1_31 nin0)
      have f43_6 : Fld Z T43.heap x1 "java/lang/Enum" "ordinal" "I" (.int (1 : Int32)) := f_6.keep Kq43 (ninS ne_x1_r1_31 nin0)
      have f43_7 : Fld Z T43.heap x2 "java/lang/Enum" "ordinal" "I" (.int (2 : Int32)) := f_7.keep Kq43 (ninS ne_x2_r1_31 nin0)
      have f43_8 : Exa Z T43.heap x0 "com/example/feuillet/feuillet/Verdict" := f_8.keep Kq43
      have f43_9 : Exa Z T43.heap x1 "com/example/feuillet/feuillet/Verdict" := f_9.keep Kq43
      have f43_10 : Exa Z T43.heap x2 "com/example/feuillet/feuillet/Verdict" := f_10.keep Kq43
      have f43_11 : Fld Z T43.heap b30 "com/example/feuillet/feuillet/Summary" "counts" "[J" (.ref r1_31) := f_11.keep Kq43 (ninS p31_0 nin0)
      have f43_12 : Exa Z T43.heap b30 "com/example/feuillet/feuillet/Summary" := f_12.keep Kq43
      have K43 : Keep h0 T43.heap [] := K_.trans Kq43 (allS (Or.inr sz_r1_31) all0)
      refine own_step (U' := (T43.setTop (mkF m 99 #[.val (.int p1), .val (.int p2), .val (.int p3), .val (.int p4), .val (.int ka), .val (.int kb), .val (.int (1 : Int32)), .val (.int kd), .val (.ref b30), .val (.long ((((0 : Int64) + (0 : Int64)) + (0 : Int64)) + (0 : Int64))), .second, .val (.long ex), .second, .unset, .unset] []))) (fun t ht => st43.trans ht) ?_
      refine own_step (U' := (T43.setTop (mkF m 101 #[.val (.int p1), .val (.int p2), .val (.int p3), .val (.int p4), .val (.int ka), .val (.int kb), .val (.int (1 : Int32)), .val (.int kd), .val (.ref b30), .val (.long ((((0 : Int64) + (0 : Int64)) + (0 : Int64)) + (0 : Int64))), .second, .val (.long ex), .second, .unset, .unset] [(.long ex)]))) (fun t ht => XT.lload X43.here hx rfl (hb hby at_99) rfl ht) ?_
      refine own_step (U' := (T43.setTop (mkF m 102 #[.val (.int p1), .val (.int p2), .val (.int p3), .val (.int p4), .val (.int ka), .val (.int kb), .val (.int (1 : Int32)), .val (.int kd), .val (.ref b30), .val (.long ((((0 : Int64) + (0 : Int64)) + (0 : Int64)) + (0 : Int64))), .second, .val (.long ex), .second, .unset, .unset] [(.long (1 : Int64)), (.long ex)]))) (fun t ht => XT.lconstV X43.here hx rfl (1 : Int64) (hb hby at_101) rfl ht) ?_
      refine own_step (U' := (T43.setTop (mkF m 103 #[.val (.int p1), .val (.int p2), .val (.int p3), .val (.int p4), .val (.int ka), .val (.int kb), .val (.int (1 : Int32)), .val (.int kd), .val (.ref b30), .val (.long ((((0 : Int64) + (0 : Int64)) + (0 : Int64)) + (0 : Int64))), .second, .val (.long ex), .second, .unset, .unset] [(.long (ex + (1 : Int64)))]))) (fun t ht => XT.ladd X43.here hx rfl (hb hby at_102) rfl ht) ?_
      refine own_step (U' := (T43.setTop (mkF m 105 #[.val (.int p1), .val (.int p2), .val (.int p3), .val (.int p4), .val (.int ka), .val (.int kb), .val (.int (1 : Int32)), .val (.int kd), .val (.ref b30), .val (.long ((((0 : Int64) + (0 : Int64)) + (0 : Int64)) + (0 : Int64))), .second, .val (.long (ex + (1 : Int64))), .second, .unset, .unset] []))) (fun t ht => XT.lstore X43.here hx rfl (hb hby at_103) rfl (l' := #[.val (.int p1), .val (.int p2), .val (.int p3), .val (.int p4), .val (.int ka), .val (.int kb), .val (.int (1 : Int32)), .val (.int kd), .val (.ref b30), .val (.long ((((0 : Int64) + (0 : Int64)) + (0 : Int64)) + (0 : Int64))), .second, .val (.long (ex + (1 : Int64))), .second, .unset, .unset]) rfl ht) ?_
      exact t105 (w0) ((w1 + (1 : Int64))) (w2) ((ex + (1 : Int64))) _ _ X43 N43 K43 f43_0 f43_1 f43_2 f43_3 f43_4 f43_5 f43_6 f43_7 f43_8 f43_9 f43_10 f43_11 f43_12 Fq43_0 (own_s1 hsum)
    ·
      refine own_step (U' := (T_.setTop (mkF m 85 #[.val (.int p1), .val (.int p2), .val (.int p3), .val (.int p4), .val (.int ka), .val (.int kb), .val (.int (2 : Int32)), .val (.int kd), .val (.ref b30), .val (.long ((((0 : Int64) + (0 : Int64)) + (0 : Int64)) + (0 : Int64))), .second, .val (.long ex), .second, .unset, .unset] [(.int (2 : Int32))]))) (fun t ht => XS.iload X_.here hx rfl (hb hby at_83) rfl ht) ?_
      refine own_step (U' := (T_.setTop (mkF m 86 #[.val (.int p1), .val (.int p2), .val (.int p3), .val (.int p4), .val (.int ka), .val (.int kb), .val (.int (2 : Int32)), .val (.int kd), .val (.ref b30), .val (.long ((((0 : Int64) + (0 : Int64)) + (0 : Int64)) + (0 : Int64))), .second, .val (.long ex), .second, .unset, .unset] [(.int (3 : Int32)), (.int (2 : Int32))]))) (fun t ht => XS.iconst X_.here hx rfl (hb hby at_85) ht) ?_
      refine own_step (U' := (T_.setTop (mkF m 89 #[.val (.int p1), .val (.int p2), .val (.int p3), .val (.int p4), .val (.int ka), .val (.int kb), .val (.int (2 : Int32)), .val (.int kd), .val (.ref b30), .val (.long ((((0 : Int64) + (0 : Int64)) + (0 : Int64)) + (0 : Int64))), .second, .val (.long ex), .second, .unset, .unset] []))) (fun t ht => XS.icmpNo X_.here hx rfl (hb hby at_86) rfl (XT.ii_eq_f ((by decide) : ¬ ((2 : Int32) = (3 : Int32)))) ht) ?_
      refine own_step (U' := (T_.setTop (mkF m 91 #[.val (.int p1), .val (.int p2), .val (.int p3), .val (.int p4), .val (.int ka), .val (.int kb), .val (.int (2 : Int32)), .val (.int kd), .val (.ref b30), .val (.long ((((0 : Int64) + (0 : Int64)) + (0 : Int64)) + (0 : Int64))), .second, .val (.long ex), .second, .unset, .unset] [(.ref b30)]))) (fun t ht => XS.aload X_.here hx rfl (hb hby at_89) rfl rfl ht) ?_
      refine own_step (U' := (T_.setTop (mkF m 93 #[.val (.int p1), .val (.int p2), .val (.int p3), .val (.int p4), .val (.int ka), .val (.int kb), .val (.int (2 : Int32)), .val (.int kd), .val (.ref b30), .val (.long ((((0 : Int64) + (0 : Int64)) + (0 : Int64)) + (0 : Int64))), .second, .val (.long ex), .second, .unset, .unset] [(.int (2 : Int32)), (.ref b30)]))) (fun t ht => XS.iload X_.here hx rfl (hb hby at_91) rfl ht) ?_
      obtain ⟨_, _, ⟨T44, L44, k44, n44⟩, -, X44, ⟨Lc44, hQ44, l44, y44, z44⟩, st44⟩ := Jvm.LawKit.callS X_ hx (y := (⟨"com/example/feuillet/feuillet/SummaryDocumentsPinLaw", "pick", "(I)Lcom/example/feuillet/feuillet/Verdict;"⟩ : MethodName)) hown (mvT hZ (hw _ (List.mem_of_getElem? (i := 36) rfl))) (mvT hZ (hw _ (List.mem_of_getElem? (i := 37) rfl))) (mvT hZ (hw _ (List.mem_of_getElem? (i := 38) rfl))) (mvT hZ (hw _ (List.mem_of_getElem? (i := 39) rfl))) (by decide) (backOf (W := 1) (own_m_pick2 l Z a0 hw [] (x2) T_.heap n0 (Nat.le_trans Z0 K_.1) f_4) hZ (hw _ (List.mem_of_getElem? (i := 39) rfl)) (hw _ (List.mem_of_getElem? (i := 38) rfl)) (by decide) (by decide)) (g := (mkF m 93 #[.val (.int p1), .val (.int p2), .val (.int p3), .val (.int p4), .val (.int ka), .val (.int kb), .val (.int (2 : Int32)), .val (.int kd), .val (.ref b30), .val (.long ((((0 : Int64) + (0 : Int64)) + (0 : Int64)) + (0 : Int64))), .second, .val (.long ex), .second, .unset, .unset] [(.int (2 : Int32)), (.ref b30)])) rfl (by rw [hml]; rfl) (argsL := [(.int (2 : Int32))]) (rest := [(.ref b30)]) (lenOf own_pd4 rfl) rfl (by show 2 * 0 + _ ≤ _; exact Nat.le_of_eq rfl) (hb hby at_93) (fun _ _ => ⟨rfl, rfl, (by decide : 3 + 0 ≤ _), (by decide : 7 + 0 ≤ _)⟩)
      dsimp only [Pt.U, Pt.locs, Pt.cells, Pt.slots] at X44 l44 y44 z44 st44 hQ44
      subst l44 y44 z44
      obtain ⟨rfl, Nq44, Kq44⟩ := hQ44
      have N44 := Fr.app N_ Nq44
      have e44 : T44.heap = T_.heap := Kq44
      refine own_step (U' := (T44.setTop (mkF m 96 #[.val (.int p1), .val (.int p2), .val (.int p3), .val (.int p4), .val (.int ka), .val (.int kb), .val (.int (2 : Int32)), .val (.int kd), .val (.ref b30), .val (.long ((((0 : Int64) + (0 : Int64)) + (0 : Int64)) + (0 : Int64))), .second, .val (.long ex), .second, .unset, .unset] [(.ref x2), (.ref b30)]))) (fun t ht => st44 _ ht) ?_
      obtain ⟨cq45, kq45, q45a, q45b, q45c⟩ := isOf hZ e44 f_12
      obtain ⟨_, _, ⟨T45, L45, k45, n45⟩, -, X45, ⟨Lc45, hQ45, l45, y45, z45⟩, st45⟩ := X44.virtualBack hx (y := (⟨"com/example/feuillet/feuillet/Summary", "add", "(Lcom/example/feuillet/feuillet/Verdict;)V"⟩ : MethodName)) (z := (⟨"com/example/feuillet/feuillet/Summary", "add", "(Lcom/example/feuillet/feuillet/Verdict;)V"⟩ : MethodName)) hown (mvT hZ (hw _ (List.mem_of_getElem? (i := 41) rfl))) (mvT hZ (hw _ (List.mem_of_getElem? (i := 42) rfl))) (notFace_of_selects (args := #[]) (mvT hZ (hw _ (List.mem_of_getElem? (i := 44) rfl)))) (mvT hZ (hw _ (List.mem_of_getElem? (i := 44) rfl))) (mvT hZ (hw _ (List.mem_of_getElem? (i := 43) rfl))) (by decide) (backOf (W := 0) (own_m_add2 l Z a0 hw [] (b30) (x2) (r1_31) (kc_31) (w0) (w1) (w2) T_.heap n0 (Nat.le_trans Z0 K_.1) g_r1_31 p31_0 ne_x2_r1_31 f_11 f_13 f_7 f_10) hZ (hw _ (List.mem_of_getElem? (i := 45) rfl)) (hw _ (List.mem_of_getElem? (i := 2) rfl)) (by decide) (by decide)) q45a q45c (g := (mkF m 96 #[.val (.int p1), .val (.int p2), .val (.int p3), .val (.int p4), .val (.int ka), .val (.int kb), .val (.int (2 : Int32)), .val (.int kd), .val (.ref b30), .val (.long ((((0 : Int64) + (0 : Int64)) + (0 : Int64)) + (0 : Int64))), .second, .val (.long ex), .second, .unset, .unset] [(.ref x2), (.ref b30)])) rfl (by rw [hml]; rfl) (Steps.refl _) (argsL := [(.ref x2)]) (rest := []) (lenOf own_pd5 rfl) rfl (by show 2 * 0 + _ ≤ _; exact Nat.le_of_eq rfl) (hb hby at_96) (fun _ _ => ⟨rfl, e44, (by decide : 3 + 0 ≤ _), (by decide : 7 + 0 ≤ _)⟩)
      dsimp only [Pt.U, Pt.locs, Pt.cells, Pt.slots] at X45 l45 y45 z45 st45 hQ45
      subst l45 y45 z45
      obtain ⟨rfl, Nq45, Kq45, Fq45_0⟩ := hQ45
      have N45 := Fr.app N44 Nq45
      have f45_0 : Sta Z T45.heap "com/example/feuillet/feuillet/Verdict" "$VALUES" "[Lcom/example/feuillet/feuillet/Verdict;" (.ref xv) := own_sta_keep f_0 Kq45 (own_plV f_13 own_pl0)
      have f45_1 : Exa Z T45.heap xv "[Lcom/example/feuillet/feuillet/Verdict;" := f_1.keep Kq45
      have f45_2 : Sta Z T45.heap "com/example/feuillet/feuillet/Verdict" "CONFORMANT" "Lcom/example/feuillet/feuillet/Verdict;" (.ref x0) := own_sta_keep f_2 Kq45 (own_plV f_13 own_pl0)
      have f45_3 : Sta Z T45.heap "com/example/feuillet/feuillet/Verdict" "NOT_CONFORMANT" "Lcom/example/feuillet/feuillet/Verdict;" (.ref x1) := own_sta_keep f_3 Kq45 (own_plV f_13 own_pl0)
      have f45_4 : Sta Z T45.heap "com/example/feuillet/feuillet/Verdict" "NOT_CHECKED" "Lcom/example/feuillet/feuillet/Verdict;" (.ref x2) := own_sta_keep f_4 Kq45 (own_plV f_13 own_pl0)
      have f45_5 : Fld Z T45.heap x0 "java/lang/Enum" "ordinal" "I" (.int (0 : Int32)) := f_5.keep Kq45 (ninS ne_x0_r1_31 nin0)
      have f45_6 : Fld Z T45.heap x1 "java/lang/Enum" "ordinal" "I" (.int (1 : Int32)) := f_6.keep Kq45 (ninS ne_x1_r1_31 nin0)
      have f45_7 : Fld Z T45.heap x2 "java/lang/Enum" "ordinal" "I" (.int (2 : Int32)) := f_7.keep Kq45 (ninS ne_x2_r1_31 nin0)
      have f45_8 : Exa Z T45.heap x0 "com/example/feuillet/feuillet/Verdict" := f_8.keep Kq45
      have f45_9 : Exa Z T45.heap x1 "com/example/feuillet/feuillet/Verdict" := f_9.keep Kq45
      have f45_10 : Exa Z T45.heap x2 "com/example/feuillet/feuillet/Verdict" := f_10.keep Kq45
      have f45_11 : Fld Z T45.heap b30 "com/example/feuillet/feuillet/Summary" "counts" "[J" (.ref r1_31) := f_11.keep Kq45 (ninS p31_0 nin0)
      have f45_12 : Exa Z T45.heap b30 "com/example/feuillet/feuillet/Summary" := f_12.keep Kq45
      have K45 : Keep h0 T45.heap [] := K_.trans Kq45 (allS (Or.inr sz_r1_31) all0)
      refine own_step (U' := (T45.setTop (mkF m 99 #[.val (.int p1), .val (.int p2), .val (.int p3), .val (.int p4), .val (.int ka), .val (.int kb), .val (.int (2 : Int32)), .val (.int kd), .val (.ref b30), .val (.long ((((0 : Int64) + (0 : Int64)) + (0 : Int64)) + (0 : Int64))), .second, .val (.long ex), .second, .unset, .unset] []))) (fun t ht => st45.trans ht) ?_
      refine own_step (U' := (T45.setTop (mkF m 101 #[.val (.int p1), .val (.int p2), .val (.int p3), .val (.int p4), .val (.int ka), .val (.int kb), .val (.int (2 : Int32)), .val (.int kd), .val (.ref b30), .val (.long ((((0 : Int64) + (0 : Int64)) + (0 : Int64)) + (0 : Int64))), .second, .val (.long ex), .second, .unset, .unset] [(.long ex)]))) (fun t ht => XT.lload X45.here hx rfl (hb hby at_99) rfl ht) ?_
      refine own_step (U' := (T45.setTop (mkF m 102 #[.val (.int p1), .val (.int p2), .val (.int p3), .val (.int p4), .val (.int ka), .val (.int kb), .val (.int (2 : Int32)), .val (.int kd), .val (.ref b30), .val (.long ((((0 : Int64) + (0 : Int64)) + (0 : Int64)) + (0 : Int64))), .second, .val (.long ex), .second, .unset, .unset] [(.long (1 : Int64)), (.long ex)]))) (fun t ht => XT.lconstV X45.here hx rfl (1 : Int64) (hb hby at_101) rfl ht) ?_
      refine own_step (U' := (T45.setTop (mkF m 103 #[.val (.int p1), .val (.int p2), .val (.int p3), .val (.int p4), .val (.int ka), .val (.int kb), .val (.int (2 : Int32)), .val (.int kd), .val (.ref b30), .val (.long ((((0 : Int64) + (0 : Int64)) + (0 : Int64)) + (0 : Int64))), .second, .val (.long ex), .second, .unset, .unset] [(.long (ex + (1 : Int64)))]))) (fun t ht => XT.ladd X45.here hx rfl (hb hby at_102) rfl ht) ?_
      refine own_step (U' := (T45.setTop (mkF m 105 #[.val (.int p1), .val (.int p2), .val (.int p3), .val (.int p4), .val (.int ka), .val (.int kb), .val (.int (2 : Int32)), .val (.int kd), .val (.ref b30), .val (.long ((((0 : Int64) + (0 : Int64)) + (0 : Int64)) + (0 : Int64))), .second, .val (.long (ex + (1 : Int64))), .second, .unset, .unset] []))) (fun t ht => XT.lstore X45.here hx rfl (hb hby at_103) rfl (l' := #[.val (.int p1), .val (.int p2), .val (.int p3), .val (.int p4), .val (.int ka), .val (.int kb), .val (.int (2 : Int32)), .val (.int kd), .val (.ref b30), .val (.long ((((0 : Int64) + (0 : Int64)) + (0 : Int64)) + (0 : Int64))), .second, .val (.long (ex + (1 : Int64))), .second, .unset, .unset]) rfl ht) ?_
      exact t105 (w0) (w1) ((w2 + (1 : Int64))) ((ex + (1 : Int64))) _ _ X45 N45 K45 f45_0 f45_1 f45_2 f45_3 f45_4 f45_5 f45_6 f45_7 f45_8 f45_9 f45_10 f45_11 f45_12 Fq45_0 (own_s2 hsum)
    ·
      refine own_step (U' := (T_.setTop (mkF m 85 #[.val (.int p1), .val (.int p2), .val (.int p3), .val (.int p4), .val (.int ka), .val (.int kb), .val (.int (3 : Int32)), .val (.int kd), .val (.ref b30), .val (.long ((((0 : Int64) + (0 : Int64)) + (0 : Int64)) + (0 : Int64))), .second, .val (.long ex), .second, .unset, .unset] [(.int (3 : Int32))]))) (fun t ht => XS.iload X_.here hx rfl (hb hby at_83) rfl ht) ?_
      refine own_step (U' := (T_.setTop (mkF m 86 #[.val (.int p1), .val (.int p2), .val (.int p3), .val (.int p4), .val (.int ka), .val (.int kb), .val (.int (3 : Int32)), .val (.int kd), .val (.ref b30), .val (.long ((((0 : Int64) + (0 : Int64)) + (0 : Int64)) + (0 : Int64))), .second, .val (.long ex), .second, .unset, .unset] [(.int (3 : Int32)), (.int (3 : Int32))]))) (fun t ht => XS.iconst X_.here hx rfl (hb hby at_85) ht) ?_
      refine own_step (U' := (T_.setTop (mkF m 105 #[.val (.int p1), .val (.int p2), .val (.int p3), .val (.int p4), .val (.int ka), .val (.int kb), .val (.int (3 : Int32)), .val (.int kd), .val (.ref b30), .val (.long ((((0 : Int64) + (0 : Int64)) + (0 : Int64)) + (0 : Int64))), .second, .val (.long ex), .second, .unset, .unset] []))) (fun t ht => XS.icmpYes X_.here hx rfl (pc0 := 86) (pc' := 105) rfl (hb hby at_86) rfl (XT.ii_eq_t ((by decide) : (3 : Int32) = (3 : Int32))) (by decide) (by decide) ht) ?_
      exact t105 (w0) (w1) (w2) (ex) _ _ X_ N_ K_ f_0 f_1 f_2 f_3 f_4 f_5 f_6 f_7 f_8 f_9 f_10 f_11 f_12 f_13 hsum
  have t61 : ∀ (w0 : Int64) (w1 : Int64) (w2 : Int64) (ex : Int64) (T_ : State) (L_ : List Loc) (X_ : Stand p l e room_1 s m #[(.int p1), (.int p2), (.int p3), (.int p4)] below meth c T_ L_ 3 7) (N_ : Fr n0 L_) (K_ : Keep h0 T_.heap []) (f_0 : Sta Z T_.heap "com/example/feuillet/feuillet/Verdict" "$VALUES" "[Lcom/example/feuillet/feuillet/Verdict;" (.ref xv)) (f_1 : Exa Z T_.heap xv "[Lcom/example/feuillet/feuillet/Verdict;") (f_2 : Sta Z T_.heap "com/example/feuillet/feuillet/Verdict" "CONFORMANT" "Lcom/example/feuillet/feuillet/Verdict;" (.ref x0)) (f_3 : Sta Z T_.heap "com/example/feuillet/feuillet/Verdict" "NOT_CONFORMANT" "Lcom/example/feuillet/feuillet/Verdict;" (.ref x1)) (f_4 : Sta Z T_.heap "com/example/feuillet/feuillet/Verdict" "NOT_CHECKED" "Lcom/example/feuillet/feuillet/Verdict;" (.ref x2)) (f_5 : Fld Z T_.heap x0 "java/lang/Enum" "ordinal" "I" (.int (0 : Int32))) (f_6 : Fld Z T_.heap x1 "java/lang/Enum" "ordinal" "I" (.int (1 : Int32))) (f_7 : Fld Z T_.heap x2 "java/lang/Enum" "ordinal" "I" (.int (2 : Int32))) (f_8 : Exa Z T_.heap x0 "com/example/feuillet/feuillet/Verdict") (f_9 : Exa Z T_.heap x1 "com/example/feuillet/feuillet/Verdict") (f_10 : Exa Z T_.heap x2 "com/example/feuillet/feuillet/Verdict") (f_11 : Fld Z T_.heap b30 "com/example/feuillet/feuillet/Summary" "counts" "[J" (.ref r1_31)) (f_12 : Exa Z T_.heap b30 "com/example/feuillet/feuillet/Summary") (f_13 : Arv Z T_.heap r1_31 kc_31 .long (3 : Int32) [(.long w0), (.long w1), (.long w2)] (.long (0 : Int64))) (hsum : w0 + w1 + w2 = ex), own_Go p e below s 3 7 (own_Q_law Z p1 p2 p3 p4 xv kv vv x0 x1 x2 h0 n0) (T_.setTop (mkF m 61 #[.val (.int p1), .val (.int p2), .val (.int p3), .val (.int p4), .val (.int ka), .val (.int kb), .val (.int kc_), .val (.int kd), .val (.ref b30), .val (.long ((((0 : Int64) + (0 : Int64)) + (0 : Int64)) + (0 : Int64))), .second, .val (.long ex), .second, .unset, .unset] [])) := by
    intro w0 w1 w2 ex T_ L_ X_ N_ K_ f_0 f_1 f_2 f_3 f_4 f_5 f_6 f_7 f_8 f_9 f_10 f_11 f_12 f_13 hsum
    rcases own_four h_kb with rfl | rfl | rfl | rfl
    ·
      refine own_step (U' := (T_.setTop (mkF m 63 #[.val (.int p1), .val (.int p2), .val (.int p3), .val (.int p4), .val (.int ka), .val (.int (0 : Int32)), .val (.int kc_), .val (.int kd), .val (.ref b30), .val (.long ((((0 : Int64) + (0 : Int64)) + (0 : Int64)) + (0 : Int64))), .second, .val (.long ex), .second, .unset, .unset] [(.int (0 : Int32))]))) (fun t ht => XS.iload X_.here hx rfl (hb hby at_61) rfl ht) ?_
      refine own_step (U' := (T_.setTop (mkF m 64 #[.val (.int p1), .val (.int p2), .val (.int p3), .val (.int p4), .val (.int ka), .val (.int (0 : Int32)), .val (.int kc_), .val (.int kd), .val (.ref b30), .val (.long ((((0 : Int64) + (0 : Int64)) + (0 : Int64)) + (0 : Int64))), .second, .val (.long ex), .second, .unset, .unset] [(.int (3 : Int32)), (.int (0 : Int32))]))) (fun t ht => XS.iconst X_.here hx rfl (hb hby at_63) ht) ?_
      refine own_step (U' := (T_.setTop (mkF m 67 #[.val (.int p1), .val (.int p2), .val (.int p3), .val (.int p4), .val (.int ka), .val (.int (0 : Int32)), .val (.int kc_), .val (.int kd), .val (.ref b30), .val (.long ((((0 : Int64) + (0 : Int64)) + (0 : Int64)) + (0 : Int64))), .second, .val (.long ex), .second, .unset, .unset] []))) (fun t ht => XS.icmpNo X_.here hx rfl (hb hby at_64) rfl (XT.ii_eq_f ((by decide) : ¬ ((0 : Int32) = (3 : Int32)))) ht) ?_
      refine own_step (U' := (T_.setTop (mkF m 69 #[.val (.int p1), .val (.int p2), .val (.int p3), .val (.int p4), .val (.int ka), .val (.int (0 : Int32)), .val (.int kc_), .val (.int kd), .val (.ref b30), .val (.long ((((0 : Int64) + (0 : Int64)) + (0 : Int64)) + (0 : Int64))), .second, .val (.long ex), .second, .unset, .unset] [(.ref b30)]))) (fun t ht => XS.aload X_.here hx rfl (hb hby at_67) rfl rfl ht) ?_
      refine own_step (U' := (T_.setTop (mkF m 71 #[.val (.int p1), .val (.int p2), .val (.int p3), .val (.int p4), .val (.int ka), .val (.int (0 : Int32)), .val (.int kc_), .val (.int kd), .val (.ref b30), .val (.long ((((0 : Int64) + (0 : Int64)) + (0 : Int64)) + (0 : Int64))), .second, .val (.long ex), .second, .unset, .unset] [(.int (0 : Int32)), (.ref b30)]))) (fun t ht => XS.iload X_.here hx rfl (hb hby at_69) rfl ht) ?_
      obtain ⟨_, _, ⟨T46, L46, k46, n46⟩, -, X46, ⟨Lc46, hQ46, l46, y46, z46⟩, st46⟩ := Jvm.LawKit.callS X_ hx (y := (⟨"com/example/feuillet/feuillet/SummaryDocumentsPinLaw", "pick", "(I)Lcom/example/feuillet/feuillet/Verdict;"⟩ : MethodName)) hown (mvT hZ (hw _ (List.mem_of_getElem? (i := 36) rfl))) (mvT hZ (hw _ (List.mem_of_getElem? (i := 37) rfl))) (mvT hZ (hw _ (List.mem_of_getElem? (i := 38) rfl))) (mvT hZ (hw _ (List.mem_of_getElem? (i := 39) rfl))) (by decide) (backOf (W := 1) (own_m_pick0 l Z a0 hw [] (x0) T_.heap n0 (Nat.le_trans Z0 K_.1) f_2) hZ (hw _ (List.mem_of_getElem? (i := 39) rfl)) (hw _ (List.mem_of_getElem? (i := 38) rfl)) (by decide) (by decide)) (g := (mkF m 71 #[.val (.int p1), .val (.int p2), .val (.int p3), .val (.int p4), .val (.int ka), .val (.int (0 : Int32)), .val (.int kc_), .val (.int kd), .val (.ref b30), .val (.long ((((0 : Int64) + (0 : Int64)) + (0 : Int64)) + (0 : Int64))), .second, .val (.long ex), .second, .unset, .unset] [(.int (0 : Int32)), (.ref b30)])) rfl (by rw [hml]; rfl) (argsL := [(.int (0 : Int32))]) (rest := [(.ref b30)]) (lenOf own_pd4 rfl) rfl (by show 2 * 0 + _ ≤ _; exact Nat.le_of_eq rfl) (hb hby at_71) (fun _ _ => ⟨rfl, rfl, (by decide : 3 + 0 ≤ _), (by decide : 7 + 0 ≤ _)⟩)
      dsimp only [Pt.U, Pt.locs, Pt.cells, Pt.slots] at X46 l46 y46 z46 st46 hQ46
      subst l46 y46 z46
      obtain ⟨rfl, Nq46, Kq46⟩ := hQ46
      have N46 := Fr.app N_ Nq46
      have e46 : T46.heap = T_.heap := Kq46
      refine own_step (U' := (T46.setTop (mkF m 74 #[.val (.int p1), .val (.int p2), .val (.int p3), .val (.int p4), .val (.int ka), .val (.int (0 : Int32)), .val (.int kc_), .val (.int kd), .val (.ref b30), .val (.long ((((0 : Int64) + (0 : Int64)) + (0 : Int64)) + (0 : Int64))), .second, .val (.long ex), .second, .unset, .unset] [(.ref x0), (.ref b30)]))) (fun t ht => st46 _ ht) ?_
      obtain ⟨cq47, kq47, q47a, q47b, q47c⟩ := isOf hZ e46 f_12
      obtain ⟨_, _, ⟨T47, L47, k47, n47⟩, -, X47, ⟨Lc47, hQ47, l47, y47, z47⟩, st47⟩ := X46.virtualBack hx (y := (⟨"com/example/feuillet/feuillet/Summary", "add", "(Lcom/example/feuillet/feuillet/Verdict;)V"⟩ : MethodName)) (z := (⟨"com/example/feuillet/feuillet/Summary", "add", "(Lcom/example/feuillet/feuillet/Verdict;)V"⟩ : MethodName)) hown (mvT hZ (hw _ (List.mem_of_getElem? (i := 41) rfl))) (mvT hZ (hw _ (List.mem_of_getElem? (i := 42) rfl))) (notFace_of_selects (args := #[]) (mvT hZ (hw _ (List.mem_of_getElem? (i := 44) rfl)))) (mvT hZ (hw _ (List.mem_of_getElem? (i := 44) rfl))) (mvT hZ (hw _ (List.mem_of_getElem? (i := 43) rfl))) (by decide) (backOf (W := 0) (own_m_add0 l Z a0 hw [] (b30) (x0) (r1_31) (kc_31) (w0) (w1) (w2) T_.heap n0 (Nat.le_trans Z0 K_.1) g_r1_31 p31_0 ne_x0_r1_31 f_11 f_13 f_5 f_8) hZ (hw _ (List.mem_of_getElem? (i := 45) rfl)) (hw _ (List.mem_of_getElem? (i := 2) rfl)) (by decide) (by decide)) q47a q47c (g := (mkF m 74 #[.val (.int p1), .val (.int p2), .val (.int p3), .val (.int p4), .val (.int ka), .val (.int (0 : Int32)), .val (.int kc_), .val (.int kd), .val (.ref b30), .val (.long ((((0 : Int64) + (0 : Int64)) + (0 : Int64)) + (0 : Int64))), .second, .val (.long ex), .second, .unset, .unset] [(.ref x0), (.ref b30)])) rfl (by rw [hml]; rfl) (Steps.refl _) (argsL := [(.ref x0)]) (rest := []) (lenOf own_pd5 rfl) rfl (by show 2 * 0 + _ ≤ _; exact Nat.le_of_eq rfl) (hb hby at_74) (fun _ _ => ⟨rfl, e46, (by decide : 3 + 0 ≤ _), (by decide : 7 + 0 ≤ _)⟩)
      dsimp only [Pt.U, Pt.locs, Pt.cells, Pt.slots] at X47 l47 y47 z47 st47 hQ47
      subst l47 y47 z47
      obtain ⟨rfl, Nq47, Kq47, Fq47_0⟩ := hQ47
      have N47 := Fr.app N46 Nq47
      have f47_0 : Sta Z T47.heap "com/example/feuillet/feuillet/Verdict" "$VALUES" "[Lcom/example/feuillet/feuillet/Verdict;" (.ref xv) := own_sta_keep f_0 Kq47 (own_plV f_13 own_pl0)
      have f47_1 : Exa Z T47.heap xv "[Lcom/example/feuillet/feuillet/Verdict;" := f_1.keep Kq47
      have f47_2 : Sta Z T47.heap "com/example/feuillet/feuillet/Verdict" "CONFORMANT" "Lcom/example/feuillet/feuillet/Verdict;" (.ref x0) := own_sta_keep f_2 Kq47 (own_plV f_13 own_pl0)
      have f47_3 : Sta Z T47.heap "com/example/feuillet/feuillet/Verdict" "NOT_CONFORMANT" "Lcom/example/feuillet/feuillet/Verdict;" (.ref x1) := own_sta_keep f_3 Kq47 (own_plV f_13 own_pl0)
      have f47_4 : Sta Z T47.heap "com/example/feuillet/feuillet/Verdict" "NOT_CHECKED" "Lcom/example/feuillet/feuillet/Verdict;" (.ref x2) := own_sta_keep f_4 Kq47 (own_plV f_13 own_pl0)
      have f47_5 : Fld Z T47.heap x0 "java/lang/Enum" "ordinal" "I" (.int (0 : Int32)) := f_5.keep Kq47 (ninS ne_x0_r1_31 nin0)
      have f47_6 : Fld Z T47.heap x1 "java/lang/Enum" "ordinal" "I" (.int (1 : Int32)) := f_6.keep Kq47 (ninS ne_x1_r1_31 nin0)
      have f47_7 : Fld Z T47.heap x2 "java/lang/Enum" "ordinal" "I" (.int (2 : Int32)) := f_7.keep Kq47 (ninS ne_x2_r1_31 nin0)
      have f47_8 : Exa Z T47.heap x0 "com/example/feuillet/feuillet/Verdict" := f_8.keep Kq47
      have f47_9 : Exa Z T47.heap x1 "com/example/feuillet/feuillet/Verdict" := f_9.keep Kq47
      have f47_10 : Exa Z T47.heap x2 "com/example/feuillet/feuillet/Verdict" := f_10.keep Kq47
      have f47_11 : Fld Z T47.heap b30 "com/example/feuillet/feuillet/Summary" "counts" "[J" (.ref r1_31) := f_11.keep Kq47 (ninS p31_0 nin0)
      have f47_12 : Exa Z T47.heap b30 "com/example/feuillet/feuillet/Summary" := f_12.keep Kq47
      have K47 : Keep h0 T47.heap [] := K_.trans Kq47 (allS (Or.inr sz_r1_31) all0)
      refine own_step (U' := (T47.setTop (mkF m 77 #[.val (.int p1), .val (.int p2), .val (.int p3), .val (.int p4), .val (.int ka), .val (.int (0 : Int32)), .val (.int kc_), .val (.int kd), .val (.ref b30), .val (.long ((((0 : Int64) + (0 : Int64)) + (0 : Int64)) + (0 : Int64))), .second, .val (.long ex), .second, .unset, .unset] []))) (fun t ht => st47.trans ht) ?_
      refine own_step (U' := (T47.setTop (mkF m 79 #[.val (.int p1), .val (.int p2), .val (.int p3), .val (.int p4), .val (.int ka), .val (.int (0 : Int32)), .val (.int kc_), .val (.int kd), .val (.ref b30), .val (.long ((((0 : Int64) + (0 : Int64)) + (0 : Int64)) + (0 : Int64))), .second, .val (.long ex), .second, .unset, .unset] [(.long ex)]))) (fun t ht => XT.lload X47.here hx rfl (hb hby at_77) rfl ht) ?_
      refine own_step (U' := (T47.setTop (mkF m 80 #[.val (.int p1), .val (.int p2), .val (.int p3), .val (.int p4), .val (.int ka), .val (.int (0 : Int32)), .val (.int kc_), .val (.int kd), .val (.ref b30), .val (.long ((((0 : Int64) + (0 : Int64)) + (0 : Int64)) + (0 : Int64))), .second, .val (.long ex), .second, .unset, .unset] [(.long (1 : Int64)), (.long ex)]))) (fun t ht => XT.lconstV X47.here hx rfl (1 : Int64) (hb hby at_79) rfl ht) ?_
      refine own_step (U' := (T47.setTop (mkF m 81 #[.val (.int p1), .val (.int p2), .val (.int p3), .val (.int p4), .val (.int ka), .val (.int (0 : Int32)), .val (.int kc_), .val (.int kd), .val (.ref b30), .val (.long ((((0 : Int64) + (0 : Int64)) + (0 : Int64)) + (0 : Int64))), .second, .val (.long ex), .second, .unset, .unset] [(.long (ex + (1 : Int64)))]))) (fun t ht => XT.ladd X47.here hx rfl (hb hby at_80) rfl ht) ?_
      refine own_step (U' := (T47.setTop (mkF m 83 #[.val (.int p1), .val (.int p2), .val (.int p3), .val (.int p4), .val (.int ka), .val (.int (0 : Int32)), .val (.int kc_), .val (.int kd), .val (.ref b30), .val (.long ((((0 : Int64) + (0 : Int64)) + (0 : Int64)) + (0 : Int64))), .second, .val (.long (ex + (1 : Int64))), .second, .unset, .unset] []))) (fun t ht => XT.lstore X47.here hx rfl (hb hby at_81) rfl (l' := #[.val (.int p1), .val (.int p2), .val (.int p3), .val (.int p4), .val (.int ka), .val (.int (0 : Int32)), .val (.int kc_), .val (.int kd), .val (.ref b30), .val (.long ((((0 : Int64) + (0 : Int64)) + (0 : Int64)) + (0 : Int64))), .second, .val (.long (ex + (1 : Int64))), .second, .unset, .unset]) rfl ht) ?_
      exact t83 ((w0 + (1 : Int64))) (w1) (w2) ((ex + (1 : Int64))) _ _ X47 N47 K47 f47_0 f47_1 f47_2 f47_3 f47_4 f47_5 f47_6 f47_7 f47_8 f47_9 f47_10 f47_11 f47_12 Fq47_0 (own_s0 hsum)
    ·
      refine own_step (U' := (T_.setTop (mkF m 63 #[.val (.int p1), .val (.int p2), .val (.int p3), .val (.int p4), .val (.int ka), .val (.int (1 : Int32)), .val (.int kc_), .val (.int kd), .val (.ref b30), .val (.long ((((0 : Int64) + (0 : Int64)) + (0 : Int64)) + (0 : Int64))), .second, .val (.long ex), .second, .unset, .unset] [(.int (1 : Int32))]))) (fun t ht => XS.iload X_.here hx rfl (hb hby at_61) rfl ht) ?_
      refine own_step (U' := (T_.setTop (mkF m 64 #[.val (.int p1), .val (.int p2), .val (.int p3), .val (.int p4), .val (.int ka), .val (.int (1 : Int32)), .val (.int kc_), .val (.int kd), .val (.ref b30), .val (.long ((((0 : Int64) + (0 : Int64)) + (0 : Int64)) + (0 : Int64))), .second, .val (.long ex), .second, .unset, .unset] [(.int (3 : Int32)), (.int (1 : Int32))]))) (fun t ht => XS.iconst X_.here hx rfl (hb hby at_63) ht) ?_
      refine own_step (U' := (T_.setTop (mkF m 67 #[.val (.int p1), .val (.int p2), .val (.int p3), .val (.int p4), .val (.int ka), .val (.int (1 : Int32)), .val (.int kc_), .val (.int kd), .val (.ref b30), .val (.long ((((0 : Int64) + (0 : Int64)) + (0 : Int64)) + (0 : Int64))), .second, .val (.long ex), .second, .unset, .unset] []))) (fun t ht => XS.icmpNo X_.here hx rfl (hb hby at_64) rfl (XT.ii_eq_f ((by decide) : ¬ ((1 : Int32) = (3 : Int32)))) ht) ?_
      refine own_step (U' := (T_.setTop (mkF m 69 #[.val (.int p1), .val (.int p2), .val (.int p3), .val (.int p4), .val (.int ka), .val (.int (1 : Int32)), .val (.int kc_), .val (.int kd), .val (.ref b30), .val (.long ((((0 : Int64) + (0 : Int64)) + (0 : Int64)) + (0 : Int64))), .second, .val (.long ex), .second, .unset, .unset] [(.ref b30)]))) (fun t ht => XS.aload X_.here hx rfl (hb hby at_67) rfl rfl ht) ?_
      refine own_step (U' := (T_.setTop (mkF m 71 #[.val (.int p1), .val (.int p2), .val (.int p3), .val (.int p4), .val (.int ka), .val (.int (1 : Int32)), .val (.int kc_), .val (.int kd), .val (.ref b30), .val (.long ((((0 : Int64) + (0 : Int64)) + (0 : Int64)) + (0 : Int64))), .second, .val (.long ex), .second, .unset, .unset] [(.int (1 : Int32)), (.ref b30)]))) (fun t ht => XS.iload X_.here hx rfl (hb hby at_69) rfl ht) ?_
      obtain ⟨_, _, ⟨T48, L48, k48, n48⟩, -, X48, ⟨Lc48, hQ48, l48, y48, z48⟩, st48⟩ := Jvm.LawKit.callS X_ hx (y := (⟨"com/example/feuillet/feuillet/SummaryDocumentsPinLaw", "pick", "(I)Lcom/example/feuillet/feuillet/Verdict;"⟩ : MethodName)) hown (mvT hZ (hw _ (List.mem_of_getElem? (i := 36) rfl))) (mvT hZ (hw _ (List.mem_of_getElem? (i := 37) rfl))) (mvT hZ (hw _ (List.mem_of_getElem? (i := 38) rfl))) (mvT hZ (hw _ (List.mem_of_getElem? (i := 39) rfl))) (by decide) (backOf (W := 1) (own_m_pick1 l Z a0 hw [] (x1) T_.heap n0 (Nat.le_trans Z0 K_.1) f_3) hZ (hw _ (List.mem_of_getElem? (i := 39) rfl)) (hw _ (List.mem_of_getElem? (i := 38) rfl)) (by decide) (by decide)) (g := (mkF m 71 #[.val (.int p1), .val (.int p2), .val (.int p3), .val (.int p4), .val (.int ka), .val (.int (1 : Int32)), .val (.int kc_), .val (.int kd), .val (.ref b30), .val (.long ((((0 : Int64) + (0 : Int64)) + (0 : Int64)) + (0 : Int64))), .second, .val (.long ex), .second, .unset, .unset] [(.int (1 : Int32)), (.ref b30)])) rfl (by rw [hml]; rfl) (argsL := [(.int (1 : Int32))]) (rest := [(.ref b30)]) (lenOf own_pd4 rfl) rfl (by show 2 * 0 + _ ≤ _; exact Nat.le_of_eq rfl) (hb hby at_71) (fun _ _ => ⟨rfl, rfl, (by decide : 3 + 0 ≤ _), (by decide : 7 + 0 ≤ _)⟩)
      dsimp only [Pt.U, Pt.locs, Pt.cells, Pt.slots] at X48 l48 y48 z48 st48 hQ48
      subst l48 y48 z48
      obtain ⟨rfl, Nq48, Kq48⟩ := hQ48
      have N48 := Fr.app N_ Nq48
      have e48 : T48.heap = T_.heap := Kq48
      refine own_step (U' := (T48.setTop (mkF m 74 #[.val (.int p1), .val (.int p2), .val (.int p3), .val (.int p4), .val (.int ka), .val (.int (1 : Int32)), .val (.int kc_), .val (.int kd), .val (.ref b30), .val (.long ((((0 : Int64) + (0 : Int64)) + (0 : Int64)) + (0 : Int64))), .second, .val (.long ex), .second, .unset, .unset] [(.ref x1), (.ref b30)]))) (fun t ht => st48 _ ht) ?_
      obtain ⟨cq49, kq49, q49a, q49b, q49c⟩ := isOf hZ e48 f_12
      obtain ⟨_, _, ⟨T49, L49, k49, n49⟩, -, X49, ⟨Lc49, hQ49, l49, y49, z49⟩, st49⟩ := X48.virtualBack hx (y := (⟨"com/example/feuillet/feuillet/Summary", "add", "(Lcom/example/feuillet/feuillet/Verdict;)V"⟩ : MethodName)) (z := (⟨"com/example/feuillet/feuillet/Summary", "add", "(Lcom/example/feuillet/feuillet/Verdict;)V"⟩ : MethodName)) hown (mvT hZ (hw _ (List.mem_of_getElem? (i := 41) rfl))) (mvT hZ (hw _ (List.mem_of_getElem? (i := 42) rfl))) (notFace_of_selects (args := #[]) (mvT hZ (hw _ (List.mem_of_getElem? (i := 44) rfl)))) (mvT hZ (hw _ (List.mem_of_getElem? (i := 44) rfl))) (mvT hZ (hw _ (List.mem_of_getElem? (i := 43) rfl))) (by decide) (backOf (W := 0) (own_m_add1 l Z a0 hw [] (b30) (x1) (r1_31) (kc_31) (w0) (w1) (w2) T_.heap n0 (Nat.le_trans Z0 K_.1) g_r1_31 p31_0 ne_x1_r1_31 f_11 f_13 f_6 f_9) hZ (hw _ (List.mem_of_getElem? (i := 45) rfl)) (hw _ (List.mem_of_getElem? (i := 2) rfl)) (by decide) (by decide)) q49a q49c (g := (mkF m 74 #[.val (.int p1), .val (.int p2), .val (.int p3), .val (.int p4), .val (.int ka), .val (.int (1 : Int32)), .val (.int kc_), .val (.int kd), .val (.ref b30), .val (.long ((((0 : Int64) + (0 : Int64)) + (0 : Int64)) + (0 : Int64))), .second, .val (.long ex), .second, .unset, .unset] [(.ref x1), (.ref b30)])) rfl (by rw [hml]; rfl) (Steps.refl _) (argsL := [(.ref x1)]) (rest := []) (lenOf own_pd5 rfl) rfl (by show 2 * 0 + _ ≤ _; exact Nat.le_of_eq rfl) (hb hby at_74) (fun _ _ => ⟨rfl, e48, (by decide : 3 + 0 ≤ _), (by decide : 7 + 0 ≤ _)⟩)
      dsimp only [Pt.U, Pt.locs, Pt.cells, Pt.slots] at X49 l49 y49 z49 st49 hQ49
      subst l49 y49 z49
      obtain ⟨rfl, Nq49, Kq49, Fq49_0⟩ := hQ49
      have N49 := Fr.app N48 Nq49
      have f49_0 : Sta Z T49.heap "com/example/feuillet/feuillet/Verdict" "$VALUES" "[Lcom/example/feuillet/feuillet/Verdict;" (.ref xv) := own_sta_keep f_0 Kq49 (own_plV f_13 own_pl0)
      have f49_1 : Exa Z T49.heap xv "[Lcom/example/feuillet/feuillet/Verdict;" := f_1.keep Kq49
      have f49_2 : Sta Z T49.heap "com/example/feuillet/feuillet/Verdict" "CONFORMANT" "Lcom/example/feuillet/feuillet/Verdict;" (.ref x0) := own_sta_keep f_2 Kq49 (own_plV f_13 own_pl0)
      have f49_3 : Sta Z T49.heap "com/example/feuillet/feuillet/Verdict" "NOT_CONFORMANT" "Lcom/example/feuillet/feuillet/Verdict;" (.ref x1) := own_sta_keep f_3 Kq49 (own_plV f_13 own_pl0)
      have f49_4 : Sta Z T49.heap "com/example/feuillet/feuillet/Verdict" "NOT_CHECKED" "Lcom/example/feuillet/feuillet/Verdict;" (.ref x2) := own_sta_keep f_4 Kq49 (own_plV f_13 own_pl0)
      have f49_5 : Fld Z T49.heap x0 "java/lang/Enum" "ordinal" "I" (.int (0 : Int32)) := f_5.keep Kq49 (ninS ne_x0_r1_31 nin0)
      have f49_6 : Fld Z T49.heap x1 "java/lang/Enum" "ordinal" "I" (.int (1 : Int32)) := f_6.keep Kq49 (ninS ne_x1_r1_31 nin0)
      have f49_7 : Fld Z T49.heap x2 "java/lang/Enum" "ordinal" "I" (.int (2 : Int32)) := f_7.keep Kq49 (ninS ne_x2_r1_31 nin0)
      have f49_8 : Exa Z T49.heap x0 "com/example/feuillet/feuillet/Verdict" := f_8.keep Kq49
      have f49_9 : Exa Z T49.heap x1 "com/example/feuillet/feuillet/Verdict" := f_9.keep Kq49
      have f49_10 : Exa Z T49.heap x2 "com/example/feuillet/feuillet/Verdict" := f_10.keep Kq49
      have f49_11 : Fld Z T49.heap b30 "com/example/feuillet/feuillet/Summary" "counts" "[J" (.ref r1_31) := f_11.keep Kq49 (ninS p31_0 nin0)
      have f49_12 : Exa Z T49.heap b30 "com/example/feuillet/feuillet/Summary" := f_12.keep Kq49
      have K49 : Keep h0 T49.heap [] := K_.trans Kq49 (allS (Or.inr sz_r1_31) all0)
      refine own_step (U' := (T49.setTop (mkF m 77 #[.val (.int p1), .val (.int p2), .val (.int p3), .val (.int p4), .val (.int ka), .val (.int (1 : Int32)), .val (.int kc_), .val (.int kd), .val (.ref b30), .val (.long ((((0 : Int64) + (0 : Int64)) + (0 : Int64)) + (0 : Int64))), .second, .val (.long ex), .second, .unset, .unset] []))) (fun t ht => st49.trans ht) ?_
      refine own_step (U' := (T49.setTop (mkF m 79 #[.val (.int p1), .val (.int p2), .val (.int p3), .val (.int p4), .val (.int ka), .val (.int (1 : Int32)), .val (.int kc_), .val (.int kd), .val (.ref b30), .val (.long ((((0 : Int64) + (0 : Int64)) + (0 : Int64)) + (0 : Int64))), .second, .val (.long ex), .second, .unset, .unset] [(.long ex)]))) (fun t ht => XT.lload X49.here hx rfl (hb hby at_77) rfl ht) ?_
      refine own_step (U' := (T49.setTop (mkF m 80 #[.val (.int p1), .val (.int p2), .val (.int p3), .val (.int p4), .val (.int ka), .val (.int (1 : Int32)), .val (.int kc_), .val (.int kd), .val (.ref b30), .val (.long ((((0 : Int64) + (0 : Int64)) + (0 : Int64)) + (0 : Int64))), .second, .val (.long ex), .second, .unset, .unset] [(.long (1 : Int64)), (.long ex)]))) (fun t ht => XT.lconstV X49.here hx rfl (1 : Int64) (hb hby at_79) rfl ht) ?_
      refine own_step (U' := (T49.setTop (mkF m 81 #[.val (.int p1), .val (.int p2), .val (.int p3), .val (.int p4), .val (.int ka), .val (.int (1 : Int32)), .val (.int kc_), .val (.int kd), .val (.ref b30), .val (.long ((((0 : Int64) + (0 : Int64)) + (0 : Int64)) + (0 : Int64))), .second, .val (.long ex), .second, .unset, .unset] [(.long (ex + (1 : Int64)))]))) (fun t ht => XT.ladd X49.here hx rfl (hb hby at_80) rfl ht) ?_
      refine own_step (U' := (T49.setTop (mkF m 83 #[.val (.int p1), .val (.int p2), .val (.int p3), .val (.int p4), .val (.int ka), .val (.int (1 : Int32)), .val (.int kc_), .val (.int kd), .val (.ref b30), .val (.long ((((0 : Int64) + (0 : Int64)) + (0 : Int64)) + (0 : Int64))), .second, .val (.long (ex + (1 : Int64))), .second, .unset, .unset] []))) (fun t ht => XT.lstore X49.here hx rfl (hb hby at_81) rfl (l' := #[.val (.int p1), .val (.int p2), .val (.int p3), .val (.int p4), .val (.int ka), .val (.int (1 : Int32)), .val (.int kc_), .val (.int kd), .val (.ref b30), .val (.long ((((0 : Int64) + (0 : Int64)) + (0 : Int64)) + (0 : Int64))), .second, .val (.long (ex + (1 : Int64))), .second, .unset, .unset]) rfl ht) ?_
      exact t83 (w0) ((w1 + (1 : Int64))) (w2) ((ex + (1 : Int64))) _ _ X49 N49 K49 f49_0 f49_1 f49_2 f49_3 f49_4 f49_5 f49_6 f49_7 f49_8 f49_9 f49_10 f49_11 f49_12 Fq49_0 (own_s1 hsum)
    ·
      refine own_step (U' := (T_.setTop (mkF m 63 #[.val (.int p1), .val (.int p2), .val (.int p3), .val (.int p4), .val (.int ka), .val (.int (2 : Int32)), .val (.int kc_), .val (.int kd), .val (.ref b30), .val (.long ((((0 : Int64) + (0 : Int64)) + (0 : Int64)) + (0 : Int64))), .second, .val (.long ex), .second, .unset, .unset] [(.int (2 : Int32))]))) (fun t ht => XS.iload X_.here hx rfl (hb hby at_61) rfl ht) ?_
      refine own_step (U' := (T_.setTop (mkF m 64 #[.val (.int p1), .val (.int p2), .val (.int p3), .val (.int p4), .val (.int ka), .val (.int (2 : Int32)), .val (.int kc_), .val (.int kd), .val (.ref b30), .val (.long ((((0 : Int64) + (0 : Int64)) + (0 : Int64)) + (0 : Int64))), .second, .val (.long ex), .second, .unset, .unset] [(.int (3 : Int32)), (.int (2 : Int32))]))) (fun t ht => XS.iconst X_.here hx rfl (hb hby at_63) ht) ?_
      refine own_step (U' := (T_.setTop (mkF m 67 #[.val (.int p1), .val (.int p2), .val (.int p3), .val (.int p4), .val (.int ka), .val (.int (2 : Int32)), .val (.int kc_), .val (.int kd), .val (.ref b30), .val (.long ((((0 : Int64) + (0 : Int64)) + (0 : Int64)) + (0 : Int64))), .second, .val (.long ex), .second, .unset, .unset] []))) (fun t ht => XS.icmpNo X_.here hx rfl (hb hby at_64) rfl (XT.ii_eq_f ((by decide) : ¬ ((2 : Int32) = (3 : Int32)))) ht) ?_
      refine own_step (U' := (T_.setTop (mkF m 69 #[.val (.int p1), .val (.int p2), .val (.int p3), .val (.int p4), .val (.int ka), .val (.int (2 : Int32)), .val (.int kc_), .val (.int kd), .val (.ref b30), .val (.long ((((0 : Int64) + (0 : Int64)) + (0 : Int64)) + (0 : Int64))), .second, .val (.long ex), .second, .unset, .unset] [(.ref b30)]))) (fun t ht => XS.aload X_.here hx rfl (hb hby at_67) rfl rfl ht) ?_
      refine own_step (U' := (T_.setTop (mkF m 71 #[.val (.int p1), .val (.int p2), .val (.int p3), .val (.int p4), .val (.int ka), .val (.int (2 : Int32)), .val (.int kc_), .val (.int kd), .val (.ref b30), .val (.long ((((0 : Int64) + (0 : Int64)) + (0 : Int64)) + (0 : Int64))), .second, .val (.long ex), .second, .unset, .unset] [(.int (2 : Int32)), (.ref b30)]))) (fun t ht => XS.iload X_.here hx rfl (hb hby at_69) rfl ht) ?_
      obtain ⟨_, _, ⟨T50, L50, k50, n50⟩, -, X50, ⟨Lc50, hQ50, l50, y50, z50⟩, st50⟩ := Jvm.LawKit.callS X_ hx (y := (⟨"com/example/feuillet/feuillet/SummaryDocumentsPinLaw", "pick", "(I)Lcom/example/feuillet/feuillet/Verdict;"⟩ : MethodName)) hown (mvT hZ (hw _ (List.mem_of_getElem? (i := 36) rfl))) (mvT hZ (hw _ (List.mem_of_getElem? (i := 37) rfl))) (mvT hZ (hw _ (List.mem_of_getElem? (i := 38) rfl))) (mvT hZ (hw _ (List.mem_of_getElem? (i := 39) rfl))) (by decide) (backOf (W := 1) (own_m_pick2 l Z a0 hw [] (x2) T_.heap n0 (Nat.le_trans Z0 K_.1) f_4) hZ (hw _ (List.mem_of_getElem? (i := 39) rfl)) (hw _ (List.mem_of_getElem? (i := 38) rfl)) (by decide) (by decide)) (g := (mkF m 71 #[.val (.int p1), .val (.int p2), .val (.int p3), .val (.int p4), .val (.int ka), .val (.int (2 : Int32)), .val (.int kc_), .val (.int kd), .val (.ref b30), .val (.long ((((0 : Int64) + (0 : Int64)) + (0 : Int64)) + (0 : Int64))), .second, .val (.long ex), .second, .unset, .unset] [(.int (2 : Int32)), (.ref b30)])) rfl (by rw [hml]; rfl) (argsL := [(.int (2 : Int32))]) (rest := [(.ref b30)]) (lenOf own_pd4 rfl) rfl (by show 2 * 0 + _ ≤ _; exact Nat.le_of_eq rfl) (hb hby at_71) (fun _ _ => ⟨rfl, rfl, (by decide : 3 + 0 ≤ _), (by decide : 7 + 0 ≤ _)⟩)
      dsimp only [Pt.U, Pt.locs, Pt.cells, Pt.slots] at X50 l50 y50 z50 st50 hQ50
      subst l50 y50 z50
      obtain ⟨rfl, Nq50, Kq50⟩ := hQ50
      have N50 := Fr.app N_ Nq50
      have e50 : T50.heap = T_.heap := Kq50
      refine own_step (U' := (T50.setTop (mkF m 74 #[.val (.int p1), .val (.int p2), .val (.int p3), .val (.int p4), .val (.int ka), .val (.int (2 : Int32)), .val (.int kc_), .val (.int kd), .val (.ref b30), .val (.long ((((0 : Int64) + (0 : Int64)) + (0 : Int64)) + (0 : Int64))), .second, .val (.long ex), .second, .unset, .unset] [(.ref x2), (.ref b30)]))) (fun t ht => st50 _ ht) ?_
      obtain ⟨cq51, kq51, q51a, q51b, q51c⟩ := isOf hZ e50 f_12
      obtain ⟨_, _, ⟨T51, L51, k51, n51⟩, -, X51, ⟨Lc51, hQ51, l51, y51, z51⟩, st51⟩ := X50.virtualBack hx (y := (⟨"com/example/feuillet/feuillet/Summary", "add", "(Lcom/example/feuillet/feuillet/Verdict;)V"⟩ : MethodName)) (z := (⟨"com/example/feuillet/feuillet/Summary", "add", "(Lcom/example/feuillet/feuillet/Verdict;)V"⟩ : MethodName)) hown (mvT hZ (hw _ (List.mem_of_getElem? (i := 41) rfl))) (mvT hZ (hw _ (List.mem_of_getElem? (i := 42) rfl))) (notFace_of_selects (args := #[]) (mvT hZ (hw _ (List.mem_of_getElem? (i := 44) rfl)))) (mvT hZ (hw _ (List.mem_of_getElem? (i := 44) rfl))) (mvT hZ (hw _ (List.mem_of_getElem? (i := 43) rfl))) (by decide) (backOf (W := 0) (own_m_add2 l Z a0 hw [] (b30) (x2) (r1_31) (kc_31) (w0) (w1) (w2) T_.heap n0 (Nat.le_trans Z0 K_.1) g_r1_31 p31_0 ne_x2_r1_31 f_11 f_13 f_7 f_10) hZ (hw _ (List.mem_of_getElem? (i := 45) rfl)) (hw _ (List.mem_of_getElem? (i := 2) rfl)) (by decide) (by decide)) q51a q51c (g := (mkF m 74 #[.val (.int p1), .val (.int p2), .val (.int p3), .val (.int p4), .val (.int ka), .val (.int (2 : Int32)), .val (.int kc_), .val (.int kd), .val (.ref b30), .val (.long ((((0 : Int64) + (0 : Int64)) + (0 : Int64)) + (0 : Int64))), .second, .val (.long ex), .second, .unset, .unset] [(.ref x2), (.ref b30)])) rfl (by rw [hml]; rfl) (Steps.refl _) (argsL := [(.ref x2)]) (rest := []) (lenOf own_pd5 rfl) rfl (by show 2 * 0 + _ ≤ _; exact Nat.le_of_eq rfl) (hb hby at_74) (fun _ _ => ⟨rfl, e50, (by decide : 3 + 0 ≤ _), (by decide : 7 + 0 ≤ _)⟩)
      dsimp only [Pt.U, Pt.locs, Pt.cells, Pt.slots] at X51 l51 y51 z51 st51 hQ51
      subst l51 y51 z51
      obtain ⟨rfl, Nq51, Kq51, Fq51_0⟩ := hQ51
      have N51 := Fr.app N50 Nq51
      have f51_0 : Sta Z T51.heap "com/example/feuillet/feuillet/Verdict" "$VALUES" "[Lcom/example/feuillet/feuillet/Verdict;" (.ref xv) := own_sta_keep f_0 Kq51 (own_plV f_13 own_pl0)
      have f51_1 : Exa Z T51.heap xv "[Lcom/example/feuillet/feuillet/Verdict;" := f_1.keep Kq51
      have f51_2 : Sta Z T51.heap "com/example/feuillet/feuillet/Verdict" "CONFORMANT" "Lcom/example/feuillet/feuillet/Verdict;" (.ref x0) := own_sta_keep f_2 Kq51 (own_plV f_13 own_pl0)
      have f51_3 : Sta Z T51.heap "com/example/feuillet/feuillet/Verdict" "NOT_CONFORMANT" "Lcom/example/feuillet/feuillet/Verdict;" (.ref x1) := own_sta_keep f_3 Kq51 (own_plV f_13 own_pl0)
      have f51_4 : Sta Z T51.heap "com/example/feuillet/feuillet/Verdict" "NOT_CHECKED" "Lcom/example/feuillet/feuillet/Verdict;" (.ref x2) := own_sta_keep f_4 Kq51 (own_plV f_13 own_pl0)
      have f51_5 : Fld Z T51.heap x0 "java/lang/Enum" "ordinal" "I" (.int (0 : Int32)) := f_5.keep Kq51 (ninS ne_x0_r1_31 nin0)
      have f51_6 : Fld Z T51.heap x1 "java/lang/Enum" "ordinal" "I" (.int (1 : Int32)) := f_6.keep Kq51 (ninS ne_x1_r1_31 nin0)
      have f51_7 : Fld Z T51.heap x2 "java/lang/Enum" "ordinal" "I" (.int (2 : Int32)) := f_7.keep Kq51 (ninS ne_x2_r1_31 nin0)
      have f51_8 : Exa Z T51.heap x0 "com/example/feuillet/feuillet/Verdict" := f_8.keep Kq51
      have f51_9 : Exa Z T51.heap x1 "com/example/feuillet/feuillet/Verdict" := f_9.keep Kq51
      have f51_10 : Exa Z T51.heap x2 "com/example/feuillet/feuillet/Verdict" := f_10.keep Kq51
      have f51_11 : Fld Z T51.heap b30 "com/example/feuillet/feuillet/Summary" "counts" "[J" (.ref r1_31) := f_11.keep Kq51 (ninS p31_0 nin0)
      have f51_12 : Exa Z T51.heap b30 "com/example/feuillet/feuillet/Summary" := f_12.keep Kq51
      have K51 : Keep h0 T51.heap [] := K_.trans Kq51 (allS (Or.inr sz_r1_31) all0)
      refine own_step (U' := (T51.setTop (mkF m 77 #[.val (.int p1), .val (.int p2), .val (.int p3), .val (.int p4), .val (.int ka), .val (.int (2 : Int32)), .val (.int kc_), .val (.int kd), .val (.ref b30), .val (.long ((((0 : Int64) + (0 : Int64)) + (0 : Int64)) + (0 : Int64))), .second, .val (.long ex), .second, .unset, .unset] []))) (fun t ht => st51.trans ht) ?_
      refine own_step (U' := (T51.setTop (mkF m 79 #[.val (.int p1), .val (.int p2), .val (.int p3), .val (.int p4), .val (.int ka), .val (.int (2 : Int32)), .val (.int kc_), .val (.int kd), .val (.ref b30), .val (.long ((((0 : Int64) + (0 : Int64)) + (0 : Int64)) + (0 : Int64))), .second, .val (.long ex), .second, .unset, .unset] [(.long ex)]))) (fun t ht => XT.lload X51.here hx rfl (hb hby at_77) rfl ht) ?_
      refine own_step (U' := (T51.setTop (mkF m 80 #[.val (.int p1), .val (.int p2), .val (.int p3), .val (.int p4), .val (.int ka), .val (.int (2 : Int32)), .val (.int kc_), .val (.int kd), .val (.ref b30), .val (.long ((((0 : Int64) + (0 : Int64)) + (0 : Int64)) + (0 : Int64))), .second, .val (.long ex), .second, .unset, .unset] [(.long (1 : Int64)), (.long ex)]))) (fun t ht => XT.lconstV X51.here hx rfl (1 : Int64) (hb hby at_79) rfl ht) ?_
      refine own_step (U' := (T51.setTop (mkF m 81 #[.val (.int p1), .val (.int p2), .val (.int p3), .val (.int p4), .val (.int ka), .val (.int (2 : Int32)), .val (.int kc_), .val (.int kd), .val (.ref b30), .val (.long ((((0 : Int64) + (0 : Int64)) + (0 : Int64)) + (0 : Int64))), .second, .val (.long ex), .second, .unset, .unset] [(.long (ex + (1 : Int64)))]))) (fun t ht => XT.ladd X51.here hx rfl (hb hby at_80) rfl ht) ?_
      refine own_step (U' := (T51.setTop (mkF m 83 #[.val (.int p1), .val (.int p2), .val (.int p3), .val (.int p4), .val (.int ka), .val (.int (2 : Int32)), .val (.int kc_), .val (.int kd), .val (.ref b30), .val (.long ((((0 : Int64) + (0 : Int64)) + (0 : Int64)) + (0 : Int64))), .second, .val (.long (ex + (1 : Int64))), .second, .unset, .unset] []))) (fun t ht => XT.lstore X51.here hx rfl (hb hby at_81) rfl (l' := #[.val (.int p1), .val (.int p2), .val (.int p3), .val (.int p4), .val (.int ka), .val (.int (2 : Int32)), .val (.int kc_), .val (.int kd), .val (.ref b30), .val (.long ((((0 : Int64) + (0 : Int64)) + (0 : Int64)) + (0 : Int64))), .second, .val (.long (ex + (1 : Int64))), .second, .unset, .unset]) rfl ht) ?_
      exact t83 (w0) (w1) ((w2 + (1 : Int64))) ((ex + (1 : Int64))) _ _ X51 N51 K51 f51_0 f51_1 f51_2 f51_3 f51_4 f51_5 f51_6 f51_7 f51_8 f51_9 f51_10 f51_11 f51_12 Fq51_0 (own_s2 hsum)
    ·
      refine own_step (U' := (T_.setTop (mkF m 63 #[.val (.int p1), .val (.int p2), .val (.int p3), .val (.int p4), .val (.int ka), .val (.int (3 : Int32)), .val (.int kc_), .val (.int kd), .val (.ref b30), .val (.long ((((0 : Int64) + (0 : Int64)) + (0 : Int64)) + (0 : Int64))), .second, .val (.long ex), .second, .unset, .unset] [(.int (3 : Int32))]))) (fun t ht => XS.iload X_.here hx rfl (hb hby at_61) rfl ht) ?_
      refine own_step (U' := (T_.setTop (mkF m 64 #[.val (.int p1), .val (.int p2), .val (.int p3), .val (.int p4), .val (.int ka), .val (.int (3 : Int32)), .val (.int kc_), .val (.int kd), .val (.ref b30), .val (.long ((((0 : Int64) + (0 : Int64)) + (0 : Int64)) + (0 : Int64))), .second, .val (.long ex), .second, .unset, .unset] [(.int (3 : Int32)), (.int (3 : Int32))]))) (fun t ht => XS.iconst X_.here hx rfl (hb hby at_63) ht) ?_
      refine own_step (U' := (T_.setTop (mkF m 83 #[.val (.int p1), .val (.int p2), .val (.int p3), .val (.int p4), .val (.int ka), .val (.int (3 : Int32)), .val (.int kc_), .val (.int kd), .val (.ref b30), .val (.long ((((0 : Int64) + (0 : Int64)) + (0 : Int64)) + (0 : Int64))), .second, .val (.long ex), .second, .unset, .unset] []))) (fun t ht => XS.icmpYes X_.here hx rfl (pc0 := 64) (pc' := 83) rfl (hb hby at_64) rfl (XT.ii_eq_t ((by decide) : (3 : Int32) = (3 : Int32))) (by decide) (by decide) ht) ?_
      exact t83 (w0) (w1) (w2) (ex) _ _ X_ N_ K_ f_0 f_1 f_2 f_3 f_4 f_5 f_6 f_7 f_8 f_9 f_10 f_11 f_12 f_13 hsum
  have hsum0 : (0 : Int64) + (0 : Int64) + (0 : Int64) = (0 : Int64) := rfl
  rcases own_four h_ka with rfl | rfl | rfl | rfl
  ·
    refine own_step (U' := (T32.setTop (mkF m 41 #[.val (.int p1), .val (.int p2), .val (.int p3), .val (.int p4), .val (.int (0 : Int32)), .val (.int kb), .val (.int kc_), .val (.int kd), .val (.ref b30), .val (.long ((((0 : Int64) + (0 : Int64)) + (0 : Int64)) + (0 : Int64))), .second, .val (.long (0 : Int64)), .second, .unset, .unset] [(.int (0 : Int32))]))) (fun t ht => XS.iload X32.here hx rfl (hb hby at_39) rfl ht) ?_
    refine own_step (U' := (T32.setTop (mkF m 42 #[.val (.int p1), .val (.int p2), .val (.int p3), .val (.int p4), .val (.int (0 : Int32)), .val (.int kb), .val (.int kc_), .val (.int kd), .val (.ref b30), .val (.long ((((0 : Int64) + (0 : Int64)) + (0 : Int64)) + (0 : Int64))), .second, .val (.long (0 : Int64)), .second, .unset, .unset] [(.int (3 : Int32)), (.int (0 : Int32))]))) (fun t ht => XS.iconst X32.here hx rfl (hb hby at_41) ht) ?_
    refine own_step (U' := (T32.setTop (mkF m 45 #[.val (.int p1), .val (.int p2), .val (.int p3), .val (.int p4), .val (.int (0 : Int32)), .val (.int kb), .val (.int kc_), .val (.int kd), .val (.ref b30), .val (.long ((((0 : Int64) + (0 : Int64)) + (0 : Int64)) + (0 : Int64))), .second, .val (.long (0 : Int64)), .second, .unset, .unset] []))) (fun t ht => XS.icmpNo X32.here hx rfl (hb hby at_42) rfl (XT.ii_eq_f ((by decide) : ¬ ((0 : Int32) = (3 : Int32)))) ht) ?_
    refine own_step (U' := (T32.setTop (mkF m 47 #[.val (.int p1), .val (.int p2), .val (.int p3), .val (.int p4), .val (.int (0 : Int32)), .val (.int kb), .val (.int kc_), .val (.int kd), .val (.ref b30), .val (.long ((((0 : Int64) + (0 : Int64)) + (0 : Int64)) + (0 : Int64))), .second, .val (.long (0 : Int64)), .second, .unset, .unset] [(.ref b30)]))) (fun t ht => XS.aload X32.here hx rfl (hb hby at_45) rfl rfl ht) ?_
    refine own_step (U' := (T32.setTop (mkF m 49 #[.val (.int p1), .val (.int p2), .val (.int p3), .val (.int p4), .val (.int (0 : Int32)), .val (.int kb), .val (.int kc_), .val (.int kd), .val (.ref b30), .val (.long ((((0 : Int64) + (0 : Int64)) + (0 : Int64)) + (0 : Int64))), .second, .val (.long (0 : Int64)), .second, .unset, .unset] [(.int (0 : Int32)), (.ref b30)]))) (fun t ht => XS.iload X32.here hx rfl (hb hby at_47) rfl ht) ?_
    obtain ⟨_, _, ⟨T52, L52, k52, n52⟩, -, X52, ⟨Lc52, hQ52, l52, y52, z52⟩, st52⟩ := Jvm.LawKit.callS X32 hx (y := (⟨"com/example/feuillet/feuillet/SummaryDocumentsPinLaw", "pick", "(I)Lcom/example/feuillet/feuillet/Verdict;"⟩ : MethodName)) hown (mvT hZ (hw _ (List.mem_of_getElem? (i := 36) rfl))) (mvT hZ (hw _ (List.mem_of_getElem? (i := 37) rfl))) (mvT hZ (hw _ (List.mem_of_getElem? (i := 38) rfl))) (mvT hZ (hw _ (List.mem_of_getElem? (i := 39) rfl))) (by decide) (backOf (W := 1) (own_m_pick0 l Z a0 hw [] (x0) T31.heap n0 (Nat.le_trans Z0 K31.1) f31_3) hZ (hw _ (List.mem_of_getElem? (i := 39) rfl)) (hw _ (List.mem_of_getElem? (i := 38) rfl)) (by decide) (by decide)) (g := (mkF m 49 #[.val (.int p1), .val (.int p2), .val (.int p3), .val (.int p4), .val (.int (0 : Int32)), .val (.int kb), .val (.int kc_), .val (.int kd), .val (.ref b30), .val (.long ((((0 : Int64) + (0 : Int64)) + (0 : Int64)) + (0 : Int64))), .second, .val (.long (0 : Int64)), .second, .unset, .unset] [(.int (0 : Int32)), (.ref b30)])) rfl (by rw [hml]; rfl) (argsL := [(.int (0 : Int32))]) (rest := [(.ref b30)]) (lenOf own_pd4 rfl) rfl (by show 2 * 0 + _ ≤ _; exact Nat.le_of_eq rfl) (hb hby at_49) (fun _ _ => ⟨rfl, e32, (by decide : 3 + 0 ≤ _), (by decide : 7 + 0 ≤ _)⟩)
    dsimp only [Pt.U, Pt.locs, Pt.cells, Pt.slots] at X52 l52 y52 z52 st52 hQ52
    subst l52 y52 z52
    obtain ⟨rfl, Nq52, Kq52⟩ := hQ52
    have N52 := Fr.app N32 Nq52
    have e52 : T52.heap = T31.heap := Kq52
    refine own_step (U' := (T52.setTop (mkF m 52 #[.val (.int p1), .val (.int p2), .val (.int p3), .val (.int p4), .val (.int (0 : Int32)), .val (.int kb), .val (.int kc_), .val (.int kd), .val (.ref b30), .val (.long ((((0 : Int64) + (0 : Int64)) + (0 : Int64)) + (0 : Int64))), .second, .val (.long (0 : Int64)), .second, .unset, .unset] [(.ref x0), (.ref b30)]))) (fun t ht => st52 _ ht) ?_
    obtain ⟨cq53, kq53, q53a, q53b, q53c⟩ := isOf hZ e52 Fq31_1
    obtain ⟨_, _, ⟨T53, L53, k53, n53⟩, -, X53, ⟨Lc53, hQ53, l53, y53, z53⟩, st53⟩ := X52.virtualBack hx (y := (⟨"com/example/feuillet/feuillet/Summary", "add", "(Lcom/example/feuillet/feuillet/Verdict;)V"⟩ : MethodName)) (z := (⟨"com/example/feuillet/feuillet/Summary", "add", "(Lcom/example/feuillet/feuillet/Verdict;)V"⟩ : MethodName)) hown (mvT hZ (hw _ (List.mem_of_getElem? (i := 41) rfl))) (mvT hZ (hw _ (List.mem_of_getElem? (i := 42) rfl))) (notFace_of_selects (args := #[]) (mvT hZ (hw _ (List.mem_of_getElem? (i := 44) rfl)))) (mvT hZ (hw _ (List.mem_of_getElem? (i := 44) rfl))) (mvT hZ (hw _ (List.mem_of_getElem? (i := 43) rfl))) (by decide) (backOf (W := 0) (own_m_add0 l Z a0 hw [] (b30) (x0) (r1_31) (kc_31) ((0 : Int64)) ((0 : Int64)) ((0 : Int64)) T31.heap n0 (Nat.le_trans Z0 K31.1) g_r1_31 p31_0 ne_x0_r1_31 Fq31_0 Fq31_2 f31_6 f31_9) hZ (hw _ (List.mem_of_getElem? (i := 45) rfl)) (hw _ (List.mem_of_getElem? (i := 2) rfl)) (by decide) (by decide)) q53a q53c (g := (mkF m 52 #[.val (.int p1), .val (.int p2), .val (.int p3), .val (.int p4), .val (.int (0 : Int32)), .val (.int kb), .val (.int kc_), .val (.int kd), .val (.ref b30), .val (.long ((((0 : Int64) + (0 : Int64)) + (0 : Int64)) + (0 : Int64))), .second, .val (.long (0 : Int64)), .second, .unset, .unset] [(.ref x0), (.ref b30)])) rfl (by rw [hml]; rfl) (Steps.refl _) (argsL := [(.ref x0)]) (rest := []) (lenOf own_pd5 rfl) rfl (by show 2 * 0 + _ ≤ _; exact Nat.le_of_eq rfl) (hb hby at_52) (fun _ _ => ⟨rfl, e52, (by decide : 3 + 0 ≤ _), (by decide : 7 + 0 ≤ _)⟩)
    dsimp only [Pt.U, Pt.locs, Pt.cells, Pt.slots] at X53 l53 y53 z53 st53 hQ53
    subst l53 y53 z53
    obtain ⟨rfl, Nq53, Kq53, Fq53_0⟩ := hQ53
    have N53 := Fr.app N52 Nq53
    have f53_0 : Sta Z T53.heap "com/example/feuillet/feuillet/Verdict" "$VALUES" "[Lcom/example/feuillet/feuillet/Verdict;" (.ref xv) := own_sta_keep f31_0 Kq53 (own_plV Fq31_2 own_pl0)
    have f53_1 : Arv Z T53.heap xv kv (.object "com/example/feuillet/feuillet/Verdict") (3 : Int32) vv .null := f31_1.keep Kq53 (ninS ne_xv_r1_31 nin0)
    have f53_2 : Exa Z T53.heap xv "[Lcom/example/feuillet/feuillet/Verdict;" := f31_2.keep Kq53
    have f53_3 : Sta Z T53.heap "com/example/feuillet/feuillet/Verdict" "CONFORMANT" "Lcom/example/feuillet/feuillet/Verdict;" (.ref x0) := own_sta_keep f31_3 Kq53 (own_plV Fq31_2 own_pl0)
    have f53_4 : Sta Z T53.heap "com/example/feuillet/feuillet/Verdict" "NOT_CONFORMANT" "Lcom/example/feuillet/feuillet/Verdict;" (.ref x1) := own_sta_keep f31_4 Kq53 (own_plV Fq31_2 own_pl0)
    have f53_5 : Sta Z T53.heap "com/example/feuillet/feuillet/Verdict" "NOT_CHECKED" "Lcom/example/feuillet/feuillet/Verdict;" (.ref x2) := own_sta_keep f31_5 Kq53 (own_plV Fq31_2 own_pl0)
    have f53_6 : Fld Z T53.heap x0 "java/lang/Enum" "ordinal" "I" (.int (0 : Int32)) := f31_6.keep Kq53 (ninS ne_x0_r1_31 nin0)
    have f53_7 : Fld Z T53.heap x1 "java/lang/Enum" "ordinal" "I" (.int (1 : Int32)) := f31_7.keep Kq53 (ninS ne_x1_r1_31 nin0)
    have f53_8 : Fld Z T53.heap x2 "java/lang/Enum" "ordinal" "I" (.int (2 : Int32)) := f31_8.keep Kq53 (ninS ne_x2_r1_31 nin0)
    have f53_9 : Exa Z T53.heap x0 "com/example/feuillet/feuillet/Verdict" := f31_9.keep Kq53
    have f53_10 : Exa Z T53.heap x1 "com/example/feuillet/feuillet/Verdict" := f31_10.keep Kq53
    have f53_11 : Exa Z T53.heap x2 "com/example/feuillet/feuillet/Verdict" := f31_11.keep Kq53
    have f53_12 : Fld Z T53.heap b30 "com/example/feuillet/feuillet/Summary" "counts" "[J" (.ref r1_31) := Fq31_0.keep Kq53 (ninS p31_0 nin0)
    have f53_13 : Exa Z T53.heap b30 "com/example/feuillet/feuillet/Summary" := Fq31_1.keep Kq53
    have K53 : Keep h0 T53.heap [] := K31.trans Kq53 (allS (Or.inr sz_r1_31) all0)
    refine own_step (U' := (T53.setTop (mkF m 55 #[.val (.int p1), .val (.int p2), .val (.int p3), .val (.int p4), .val (.int (0 : Int32)), .val (.int kb), .val (.int kc_), .val (.int kd), .val (.ref b30), .val (.long ((((0 : Int64) + (0 : Int64)) + (0 : Int64)) + (0 : Int64))), .second, .val (.long (0 : Int64)), .second, .unset, .unset] []))) (fun t ht => st53.trans ht) ?_
    refine own_step (U' := (T53.setTop (mkF m 57 #[.val (.int p1), .val (.int p2), .val (.int p3), .val (.int p4), .val (.int (0 : Int32)), .val (.int kb), .val (.int kc_), .val (.int kd), .val (.ref b30), .val (.long ((((0 : Int64) + (0 : Int64)) + (0 : Int64)) + (0 : Int64))), .second, .val (.long (0 : Int64)), .second, .unset, .unset] [(.long (0 : Int64))]))) (fun t ht => XT.lload X53.here hx rfl (hb hby at_55) rfl ht) ?_
    refine own_step (U' := (T53.setTop (mkF m 58 #[.val (.int p1), .val (.int p2), .val (.int p3), .val (.int p4), .val (.int (0 : Int32)), .val (.int kb), .val (.int kc_), .val (.int kd), .val (.ref b30), .val (.long ((((0 : Int64) + (0 : Int64)) + (0 : Int64)) + (0 : Int64))), .second, .val (.long (0 : Int64)), .second, .unset, .unset] [(.long (1 : Int64)), (.long (0 : Int64))]))) (fun t ht => XT.lconstV X53.here hx rfl (1 : Int64) (hb hby at_57) rfl ht) ?_
    refine own_step (U' := (T53.setTop (mkF m 59 #[.val (.int p1), .val (.int p2), .val (.int p3), .val (.int p4), .val (.int (0 : Int32)), .val (.int kb), .val (.int kc_), .val (.int kd), .val (.ref b30), .val (.long ((((0 : Int64) + (0 : Int64)) + (0 : Int64)) + (0 : Int64))), .second, .val (.long (0 : Int64)), .second, .unset, .unset] [(.long ((0 : Int64) + (1 : Int64)))]))) (fun t ht => XT.ladd X53.here hx rfl (hb hby at_58) rfl ht) ?_
    refine own_step (U' := (T53.setTop (mkF m 61 #[.val (.int p1), .val (.int p2), .val (.int p3), .val (.int p4), .val (.int (0 : Int32)), .val (.int kb), .val (.int kc_), .val (.int kd), .val (.ref b30), .val (.long ((((0 : Int64) + (0 : Int64)) + (0 : Int64)) + (0 : Int64))), .second, .val (.long ((0 : Int64) + (1 : Int64))), .second, .unset, .unset] []))) (fun t ht => XT.lstore X53.here hx rfl (hb hby at_59) rfl (l' := #[.val (.int p1), .val (.int p2), .val (.int p3), .val (.int p4), .val (.int (0 : Int32)), .val (.int kb), .val (.int kc_), .val (.int kd), .val (.ref b30), .val (.long ((((0 : Int64) + (0 : Int64)) + (0 : Int64)) + (0 : Int64))), .second, .val (.long ((0 : Int64) + (1 : Int64))), .second, .unset, .unset]) rfl ht) ?_
    exact t61 (((0 : Int64) + (1 : Int64))) ((0 : Int64)) ((0 : Int64)) (((0 : Int64) + (1 : Int64))) _ _ X53 N53 K53 f53_0 f53_2 f53_3 f53_4 f53_5 f53_6 f53_7 f53_8 f53_9 f53_10 f53_11 f53_12 f53_13 Fq53_0 (own_s0 hsum0)
  ·
    refine own_step (U' := (T32.setTop (mkF m 41 #[.val (.int p1), .val (.int p2), .val (.int p3), .val (.int p4), .val (.int (1 : Int32)), .val (.int kb), .val (.int kc_), .val (.int kd), .val (.ref b30), .val (.long ((((0 : Int64) + (0 : Int64)) + (0 : Int64)) + (0 : Int64))), .second, .val (.long (0 : Int64)), .second, .unset, .unset] [(.int (1 : Int32))]))) (fun t ht => XS.iload X32.here hx rfl (hb hby at_39) rfl ht) ?_
    refine own_step (U' := (T32.setTop (mkF m 42 #[.val (.int p1), .val (.int p2), .val (.int p3), .val (.int p4), .val (.int (1 : Int32)), .val (.int kb), .val (.int kc_), .val (.int kd), .val (.ref b30), .val (.long ((((0 : Int64) + (0 : Int64)) + (0 : Int64)) + (0 : Int64))), .second, .val (.long (0 : Int64)), .second, .unset, .unset] [(.int (3 : Int32)), (.int (1 : Int32))]))) (fun t ht => XS.iconst X32.here hx rfl (hb hby at_41) ht) ?_
    refine own_step (U' := (T32.setTop (mkF m 45 #[.val (.int p1), .val (.int p2), .val (.int p3), .val (.int p4), .val (.int (1 : Int32)), .val (.int kb), .val (.int kc_), .val (.int kd), .val (.ref b30), .val (.long ((((0 : Int64) + (0 : Int64)) + (0 : Int64)) + (0 : Int64))), .second, .val (.long (0 : Int64)), .second, .unset, .unset] []))) (fun t ht => XS.icmpNo X32.here hx rfl (hb hby at_42) rfl (XT.ii_eq_f ((by decide) : ¬ ((1 : Int32) = (3 : Int32)))) ht) ?_
    refine own_step (U' := (T32.setTop (mkF m 47 #[.val (.int p1), .val (.int p2), .val (.int p3), .val (.int p4), .val (.int (1 : Int32)), .val (.int kb), .val (.int kc_), .val (.int kd), .val (.ref b30), .val (.long ((((0 : Int64) + (0 : Int64)) + (0 : Int64)) + (0 : Int64))), .second, .val (.long (0 : Int64)), .second, .unset, .unset] [(.ref b30)]))) (fun t ht => XS.aload X32.here hx rfl (hb hby at_45) rfl rfl ht) ?_
    refine own_step (U' := (T32.setTop (mkF m 49 #[.val (.int p1), .val (.int p2), .val (.int p3), .val (.int p4), .val (.int (1 : Int32)), .val (.int kb), .val (.int kc_), .val (.int kd), .val (.ref b30), .val (.long ((((0 : Int64) + (0 : Int64)) + (0 : Int64)) + (0 : Int64))), .second, .val (.long (0 : Int64)), .second, .unset, .unset] [(.int (1 : Int32)), (.ref b30)]))) (fun t ht => XS.iload X32.here hx rfl (hb hby at_47) rfl ht) ?_
    obtain ⟨_, _, ⟨T54, L54, k54, n54⟩, -, X54, ⟨Lc54, hQ54, l54, y54, z54⟩, st54⟩ := Jvm.LawKit.callS X32 hx (y := (⟨"com/example/feuillet/feuillet/SummaryDocumentsPinLaw", "pick", "(I)Lcom/example/feuillet/feuillet/Verdict;"⟩ : MethodName)) hown (mvT hZ (hw _ (List.mem_of_getElem? (i := 36) rfl))) (mvT hZ (hw _ (List.mem_of_getElem? (i := 37) rfl))) (mvT hZ (hw _ (List.mem_of_getElem? (i := 38) rfl))) (mvT hZ (hw _ (List.mem_of_getElem? (i := 39) rfl))) (by decide) (backOf (W := 1) (own_m_pick1 l Z a0 hw [] (x1) T31.heap n0 (Nat.le_trans Z0 K31.1) f31_4) hZ (hw _ (List.mem_of_getElem? (i := 39) rfl)) (hw _ (List.mem_of_getElem? (i := 38) rfl)) (by decide) (by decide)) (g := (mkF m 49 #[.val (.int p1), .val (.int p2), .val (.int p3), .val (.int p4), .val (.int (1 : Int32)), .val (.int kb), .val (.int kc_), .val (.int kd), .val (.ref b30), .val (.long ((((0 : Int64) + (0 : Int64)) + (0 : Int64)) + (0 : Int64))), .second, .val (.long (0 : Int64)), .second, .unset, .unset] [(.int (1 : Int32)), (.ref b30)])) rfl (by rw [hml]; rfl) (argsL := [(.int (1 : Int32))]) (rest := [(.ref b30)]) (lenOf own_pd4 rfl) rfl (by show 2 * 0 + _ ≤ _; exact Nat.le_of_eq rfl) (hb hby at_49) (fun _ _ => ⟨rfl, e32, (by decide : 3 + 0 ≤ _), (by decide : 7 + 0 ≤ _)⟩)
    dsimp only [Pt.U, Pt.locs, Pt.cells, Pt.slots] at X54 l54 y54 z54 st54 hQ54
    subst l54 y54 z54
    obtain ⟨rfl, Nq54, Kq54⟩ := hQ54
    have N54 := Fr.app N32 Nq54
    have e54 : T54.heap = T31.heap := Kq54
    refine own_step (U' := (T54.setTop (mkF m 52 #[.val (.int p1), .val (.int p2), .val (.int p3), .val (.int p4), .val (.int (1 : Int32)), .val (.int kb), .val (.int kc_), .val (.int kd), .val (.ref b30), .val (.long ((((0 : Int64) + (0 : Int64)) + (0 : Int64)) + (0 : Int64))), .second, .val (.long (0 : Int64)), .second, .unset, .unset] [(.ref x1), (.ref b30)]))) (fun t ht => st54 _ ht) ?_
    obtain ⟨cq55, kq55, q55a, q55b, q55c⟩ := isOf hZ e54 Fq31_1
    obtain ⟨_, _, ⟨T55, L55, k55, n55⟩, -, X55, ⟨Lc55, hQ55, l55, y55, z55⟩, st55⟩ := X54.virtualBack hx (y := (⟨"com/example/feuillet/feuillet/Summary", "add", "(Lcom/example/feuillet/feuillet/Verdict;)V"⟩ : MethodName)) (z := (⟨"com/example/feuillet/feuillet/Summary", "add", "(Lcom/example/feuillet/feuillet/Verdict;)V"⟩ : MethodName)) hown (mvT hZ (hw _ (List.mem_of_getElem? (i := 41) rfl))) (mvT hZ (hw _ (List.mem_of_getElem? (i := 42) rfl))) (notFace_of_selects (args := #[]) (mvT hZ (hw _ (List.mem_of_getElem? (i := 44) rfl)))) (mvT hZ (hw _ (List.mem_of_getElem? (i := 44) rfl))) (mvT hZ (hw _ (List.mem_of_getElem? (i := 43) rfl))) (by decide) (backOf (W := 0) (own_m_add1 l Z a0 hw [] (b30) (x1) (r1_31) (kc_31) ((0 : Int64)) ((0 : Int64)) ((0 : Int64)) T31.heap n0 (Nat.le_trans Z0 K31.1) g_r1_31 p31_0 ne_x1_r1_31 Fq31_0 Fq31_2 f31_7 f31_10) hZ (hw _ (List.mem_of_getElem? (i := 45) rfl)) (hw _ (List.mem_of_getElem? (i := 2) rfl)) (by decide) (by decide)) q55a q55c (g := (mkF m 52 #[.val (.int p1), .val (.int p2), .val (.int p3), .val (.int p4), .val (.int (1 : Int32)), .val (.int kb), .val (.int kc_), .val (.int kd), .val (.ref b30), .val (.long ((((0 : Int64) + (0 : Int64)) + (0 : Int64)) + (0 : Int64))), .second, .val (.long (0 : Int64)), .second, .unset, .unset] [(.ref x1), (.ref b30)])) rfl (by rw [hml]; rfl) (Steps.refl _) (argsL := [(.ref x1)]) (rest := []) (lenOf own_pd5 rfl) rfl (by show 2 * 0 + _ ≤ _; exact Nat.le_of_eq rfl) (hb hby at_52) (fun _ _ => ⟨rfl, e54, (by decide : 3 + 0 ≤ _), (by decide : 7 + 0 ≤ _)⟩)
    dsimp only [Pt.U, Pt.locs, Pt.cells, Pt.slots] at X55 l55 y55 z55 st55 hQ55
    subst l55 y55 z55
    obtain ⟨rfl, Nq55, Kq55, Fq55_0⟩ := hQ55
    have N55 := Fr.app N54 Nq55
    have f55_0 : Sta Z T55.heap "com/example/feuillet/feuillet/Verdict" "$VALUES" "[Lcom/example/feuillet/feuillet/Verdict;" (.ref xv) := own_sta_keep f31_0 Kq55 (own_plV Fq31_2 own_pl0)
    have f55_1 : Arv Z T55.heap xv kv (.object "com/example/feuillet/feuillet/Verdict") (3 : Int32) vv .null := f31_1.keep Kq55 (ninS ne_xv_r1_31 nin0)
    have f55_2 : Exa Z T55.heap xv "[Lcom/example/feuillet/feuillet/Verdict;" := f31_2.keep Kq55
    have f55_3 : Sta Z T55.heap "com/example/feuillet/feuillet/Verdict" "CONFORMANT" "Lcom/example/feuillet/feuillet/Verdict;" (.ref x0) := own_sta_keep f31_3 Kq55 (own_plV Fq31_2 own_pl0)
    have f55_4 : Sta Z T55.heap "com/example/feuillet/feuillet/Verdict" "NOT_CONFORMANT" "Lcom/example/feuillet/feuillet/Verdict;" (.ref x1) := own_sta_keep f31_4 Kq55 (own_plV Fq31_2 own_pl0)
    have f55_5 : Sta Z T55.heap "com/example/feuillet/feuillet/Verdict" "NOT_CHECKED" "Lcom/example/feuillet/feuillet/Verdict;" (.ref x2) := own_sta_keep f31_5 Kq55 (own_plV Fq31_2 own_pl0)
    have f55_6 : Fld Z T55.heap x0 "java/lang/Enum" "ordinal" "I" (.int (0 : Int32)) := f31_6.keep Kq55 (ninS ne_x0_r1_31 nin0)
    have f55_7 : Fld Z T55.heap x1 "java/lang/Enum" "ordinal" "I" (.int (1 : Int32)) := f31_7.keep Kq55 (ninS ne_x1_r1_31 nin0)
    have f55_8 : Fld Z T55.heap x2 "java/lang/Enum" "ordinal" "I" (.int (2 : Int32)) := f31_8.keep Kq55 (ninS ne_x2_r1_31 nin0)
    have f55_9 : Exa Z T55.heap x0 "com/example/feuillet/feuillet/Verdict" := f31_9.keep Kq55
    have f55_10 : Exa Z T55.heap x1 "com/example/feuillet/feuillet/Verdict" := f31_10.keep Kq55
    have f55_11 : Exa Z T55.heap x2 "com/example/feuillet/feuillet/Verdict" := f31_11.keep Kq55
    have f55_12 : Fld Z T55.heap b30 "com/example/feuillet/feuillet/Summary" "counts" "[J" (.ref r1_31) := Fq31_0.keep Kq55 (ninS p31_0 nin0)
    have f55_13 : Exa Z T55.heap b30 "com/example/feuillet/feuillet/Summary" := Fq31_1.keep Kq55
    have K55 : Keep h0 T55.heap [] := K31.trans Kq55 (allS (Or.inr sz_r1_31) all0)
    refine own_step (U' := (T55.setTop (mkF m 55 #[.val (.int p1), .val (.int p2), .val (.int p3), .val (.int p4), .val (.int (1 : Int32)), .val (.int kb), .val (.int kc_), .val (.int kd), .val (.ref b30), .val (.long ((((0 : Int64) + (0 : Int64)) + (0 : Int64)) + (0 : Int64))), .second, .val (.long (0 : Int64)), .second, .unset, .unset] []))) (fun t ht => st55.trans ht) ?_
    refine own_step (U' := (T55.setTop (mkF m 57 #[.val (.int p1), .val (.int p2), .val (.int p3), .val (.int p4), .val (.int (1 : Int32)), .val (.int kb), .val (.int kc_), .val (.int kd), .val (.ref b30), .val (.long ((((0 : Int64) + (0 : Int64)) + (0 : Int64)) + (0 : Int64))), .second, .val (.long (0 : Int64)), .second, .unset, .unset] [(.long (0 : Int64))]))) (fun t ht => XT.lload X55.here hx rfl (hb hby at_55) rfl ht) ?_
    refine own_step (U' := (T55.setTop (mkF m 58 #[.val (.int p1), .val (.int p2), .val (.int p3), .val (.int p4), .val (.int (1 : Int32)), .val (.int kb), .val (.int kc_), .val (.int kd), .val (.ref b30), .val (.long ((((0 : Int64) + (0 : Int64)) + (0 : Int64)) + (0 : Int64))), .second, .val (.long (0 : Int64)), .second, .unset, .unset] [(.long (1 : Int64)), (.long (0 : Int64))]))) (fun t ht => XT.lconstV X55.here hx rfl (1 : Int64) (hb hby at_57) rfl ht) ?_
    refine own_step (U' := (T55.setTop (mkF m 59 #[.val (.int p1), .val (.int p2), .val (.int p3), .val (.int p4), .val (.int (1 : Int32)), .val (.int kb), .val (.int kc_), .val (.int kd), .val (.ref b30), .val (.long ((((0 : Int64) + (0 : Int64)) + (0 : Int64)) + (0 : Int64))), .second, .val (.long (0 : Int64)), .second, .unset, .unset] [(.long ((0 : Int64) + (1 : Int64)))]))) (fun t ht => XT.ladd X55.here hx rfl (hb hby at_58) rfl ht) ?_
    refine own_step (U' := (T55.setTop (mkF m 61 #[.val (.int p1), .val (.int p2), .val (.int p3), .val (.int p4), .val (.int (1 : Int32)), .val (.int kb), .val (.int kc_), .val (.int kd), .val (.ref b30), .val (.long ((((0 : Int64) + (0 : Int64)) + (0 : Int64)) + (0 : Int64))), .second, .val (.long ((0 : Int64) + (1 : Int64))), .second, .unset, .unset] []))) (fun t ht => XT.lstore X55.here hx rfl (hb hby at_59) rfl (l' := #[.val (.int p1), .val (.int p2), .val (.int p3), .val (.int p4), .val (.int (1 : Int32)), .val (.int kb), .val (.int kc_), .val (.int kd), .val (.ref b30), .val (.long ((((0 : Int64) + (0 : Int64)) + (0 : Int64)) + (0 : Int64))), .second, .val (.long ((0 : Int64) + (1 : Int64))), .second, .unset, .unset]) rfl ht) ?_
    exact t61 ((0 : Int64)) (((0 : Int64) + (1 : Int64))) ((0 : Int64)) (((0 : Int64) + (1 : Int64))) _ _ X55 N55 K55 f55_0 f55_2 f55_3 f55_4 f55_5 f55_6 f55_7 f55_8 f55_9 f55_10 f55_11 f55_12 f55_13 Fq55_0 (own_s1 hsum0)
  ·
    refine own_step (U' := (T32.setTop (mkF m 41 #[.val (.int p1), .val (.int p2), .val (.int p3), .val (.int p4), .val (.int (2 : Int32)), .val (.int kb), .val (.int kc_), .val (.int kd), .val (.ref b30), .val (.long ((((0 : Int64) + (0 : Int64)) + (0 : Int64)) + (0 : Int64))), .second, .val (.long (0 : Int64)), .second, .unset, .unset] [(.int (2 : Int32))]))) (fun t ht => XS.iload X32.here hx rfl (hb hby at_39) rfl ht) ?_
    refine own_step (U' := (T32.setTop (mkF m 42 #[.val (.int p1), .val (.int p2), .val (.int p3), .val (.int p4), .val (.int (2 : Int32)), .val (.int kb), .val (.int kc_), .val (.int kd), .val (.ref b30), .val (.long ((((0 : Int64) + (0 : Int64)) + (0 : Int64)) + (0 : Int64))), .second, .val (.long (0 : Int64)), .second, .unset, .unset] [(.int (3 : Int32)), (.int (2 : Int32))]))) (fun t ht => XS.iconst X32.here hx rfl (hb hby at_41) ht) ?_
    refine own_step (U' := (T32.setTop (mkF m 45 #[.val (.int p1), .val (.int p2), .val (.int p3), .val (.int p4), .val (.int (2 : Int32)), .val (.int kb), .val (.int kc_), .val (.int kd), .val (.ref b30), .val (.long ((((0 : Int64) + (0 : Int64)) + (0 : Int64)) + (0 : Int64))), .second, .val (.long (0 : Int64)), .second, .unset, .unset] []))) (fun t ht => XS.icmpNo X32.here hx rfl (hb hby at_42) rfl (XT.ii_eq_f ((by decide) : ¬ ((2 : Int32) = (3 : Int32)))) ht) ?_
    refine own_step (U' := (T32.setTop (mkF m 47 #[.val (.int p1), .val (.int p2), .val (.int p3), .val (.int p4), .val (.int (2 : Int32)), .val (.int kb), .val (.int kc_), .val (.int kd), .val (.ref b30), .val (.long ((((0 : Int64) + (0 : Int64)) + (0 : Int64)) + (0 : Int64))), .second, .val (.long (0 : Int64)), .second, .unset, .unset] [(.ref b30)]))) (fun t ht => XS.aload X32.here hx rfl (hb hby at_45) rfl rfl ht) ?_
    refine own_step (U' := (T32.setTop (mkF m 49 #[.val (.int p1), .val (.int p2), .val (.int p3), .val (.int p4), .val (.int (2 : Int32)), .val (.int kb), .val (.int kc_), .val (.int kd), .val (.ref b30), .val (.long ((((0 : Int64) + (0 : Int64)) + (0 : Int64)) + (0 : Int64))), .second, .val (.long (0 : Int64)), .second, .unset, .unset] [(.int (2 : Int32)), (.ref b30)]))) (fun t ht => XS.iload X32.here hx rfl (hb hby at_47) rfl ht) ?_
    obtain ⟨_, _, ⟨T56, L56, k56, n56⟩, -, X56, ⟨Lc56, hQ56, l56, y56, z56⟩, st56⟩ := Jvm.LawKit.callS X32 hx (y := (⟨"com/example/feuillet/feuillet/SummaryDocumentsPinLaw", "pick", "(I)Lcom/example/feuillet/feuillet/Verdict;"⟩ : MethodName)) hown (mvT hZ (hw _ (List.mem_of_getElem? (i := 36) rfl))) (mvT hZ (hw _ (List.mem_of_getElem? (i := 37) rfl))) (mvT hZ (hw _ (List.mem_of_getElem? (i := 38) rfl))) (mvT hZ (hw _ (List.mem_of_getElem? (i := 39) rfl))) (by decide) (backOf (W := 1) (own_m_pick2 l Z a0 hw [] (x2) T31.heap n0 (Nat.le_trans Z0 K31.1) f31_5) hZ (hw _ (List.mem_of_getElem? (i := 39) rfl)) (hw _ (List.mem_of_getElem? (i := 38) rfl)) (by decide) (by decide)) (g := (mkF m 49 #[.val (.int p1), .val (.int p2), .val (.int p3), .val (.int p4), .val (.int (2 : Int32)), .val (.int kb), .val (.int kc_), .val (.int kd), .val (.ref b30), .val (.long ((((0 : Int64) + (0 : Int64)) + (0 : Int64)) + (0 : Int64))), .second, .val (.long (0 : Int64)), .second, .unset, .unset] [(.int (2 : Int32)), (.ref b30)])) rfl (by rw [hml]; rfl) (argsL := [(.int (2 : Int32))]) (rest := [(.ref b30)]) (lenOf own_pd4 rfl) rfl (by show 2 * 0 + _ ≤ _; exact Nat.le_of_eq rfl) (hb hby at_49) (fun _ _ => ⟨rfl, e32, (by decide : 3 + 0 ≤ _), (by decide : 7 + 0 ≤ _)⟩)
    dsimp only [Pt.U, Pt.locs, Pt.cells, Pt.slots] at X56 l56 y56 z56 st56 hQ56
    subst l56 y56 z56
    obtain ⟨rfl, Nq56, Kq56⟩ := hQ56
    have N56 := Fr.app N32 Nq56
    have e56 : T56.heap = T31.heap := Kq56
    refine own_step (U' := (T56.setTop (mkF m 52 #[.val (.int p1), .val (.int p2), .val (.int p3), .val (.int p4), .val (.int (2 : Int32)), .val (.int kb), .val (.int kc_), .val (.int kd), .val (.ref b30), .val (.long ((((0 : Int64) + (0 : Int64)) + (0 : Int64)) + (0 : Int64))), .second, .val (.long (0 : Int64)), .second, .unset, .unset] [(.ref x2), (.ref b30)]))) (fun t ht => st56 _ ht) ?_
    obtain ⟨cq57, kq57, q57a, q57b, q57c⟩ := isOf hZ e56 Fq31_1
    obtain ⟨_, _, ⟨T57, L57, k57, n57⟩, -, X57, ⟨Lc57, hQ57, l57, y57, z57⟩, st57⟩ := X56.virtualBack hx (y := (⟨"com/example/feuillet/feuillet/Summary", "add", "(Lcom/example/feuillet/feuillet/Verdict;)V"⟩ : MethodName)) (z := (⟨"com/example/feuillet/feuillet/Summary", "add", "(Lcom/example/feuillet/feuillet/Verdict;)V"⟩ : MethodName)) hown (mvT hZ (hw _ (List.mem_of_getElem? (i := 41) rfl))) (mvT hZ (hw _ (List.mem_of_getElem? (i := 42) rfl))) (notFace_of_selects (args := #[]) (mvT hZ (hw _ (List.mem_of_getElem? (i := 44) rfl)))) (mvT hZ (hw _ (List.mem_of_getElem? (i := 44) rfl))) (mvT hZ (hw _ (List.mem_of_getElem? (i := 43) rfl))) (by decide) (backOf (W := 0) (own_m_add2 l Z a0 hw [] (b30) (x2) (r1_31) (kc_31) ((0 : Int64)) ((0 : Int64)) ((0 : Int64)) T31.heap n0 (Nat.le_trans Z0 K31.1) g_r1_31 p31_0 ne_x2_r1_31 Fq31_0 Fq31_2 f31_8 f31_11) hZ (hw _ (List.mem_of_getElem? (i := 45) rfl)) (hw _ (List.mem_of_getElem? (i := 2) rfl)) (by decide) (by decide)) q57a q57c (g := (mkF m 52 #[.val (.int p1), .val (.int p2), .val (.int p3), .val (.int p4), .val (.int (2 : Int32)), .val (.int kb), .val (.int kc_), .val (.int kd), .val (.ref b30), .val (.long ((((0 : Int64) + (0 : Int64)) + (0 : Int64)) + (0 : Int64))), .second, .val (.long (0 : Int64)), .second, .unset, .unset] [(.ref x2), (.ref b30)])) rfl (by rw [hml]; rfl) (Steps.refl _) (argsL := [(.ref x2)]) (rest := []) (lenOf own_pd5 rfl) rfl (by show 2 * 0 + _ ≤ _; exact Nat.le_of_eq rfl) (hb hby at_52) (fun _ _ => ⟨rfl, e56, (by decide : 3 + 0 ≤ _), (by decide : 7 + 0 ≤ _)⟩)
    dsimp only [Pt.U, Pt.locs, Pt.cells, Pt.slots] at X57 l57 y57 z57 st57 hQ57
    subst l57 y57 z57
    obtain ⟨rfl, Nq57, Kq57, Fq57_0⟩ := hQ57
    have N57 := Fr.app N56 Nq57
    have f57_0 : Sta Z T57.heap "com/example/feuillet/feuillet/Verdict" "$VALUES" "[Lcom/example/feuillet/feuillet/Verdict;" (.ref xv) := own_sta_keep f31_0 Kq57 (own_plV Fq31_2 own_pl0)
    have f57_1 : Arv Z T57.heap xv kv (.object "com/example/feuillet/feuillet/Verdict") (3 : Int32) vv .null := f31_1.keep Kq57 (ninS ne_xv_r1_31 nin0)
    have f57_2 : Exa Z T57.heap xv "[Lcom/example/feuillet/feuillet/Verdict;" := f31_2.keep Kq57
    have f57_3 : Sta Z T57.heap "com/example/feuillet/feuillet/Verdict" "CONFORMANT" "Lcom/example/feuillet/feuillet/Verdict;" (.ref x0) := own_sta_keep f31_3 Kq57 (own_plV Fq31_2 own_pl0)
    have f57_4 : Sta Z T57.heap "com/example/feuillet/feuillet/Verdict" "NOT_CONFORMANT" "Lcom/example/feuillet/feuillet/Verdict;" (.ref x1) := own_sta_keep f31_4 Kq57 (own_plV Fq31_2 own_pl0)
    have f57_5 : Sta Z T57.heap "com/example/feuillet/feuillet/Verdict" "NOT_CHECKED" "Lcom/example/feuillet/feuillet/Verdict;" (.ref x2) := own_sta_keep f31_5 Kq57 (own_plV Fq31_2 own_pl0)
    have f57_6 : Fld Z T57.heap x0 "java/lang/Enum" "ordinal" "I" (.int (0 : Int32)) := f31_6.keep Kq57 (ninS ne_x0_r1_31 nin0)
    have f57_7 : Fld Z T57.heap x1 "java/lang/Enum" "ordinal" "I" (.int (1 : Int32)) := f31_7.keep Kq57 (ninS ne_x1_r1_31 nin0)
    have f57_8 : Fld Z T57.heap x2 "java/lang/Enum" "ordinal" "I" (.int (2 : Int32)) := f31_8.keep Kq57 (ninS ne_x2_r1_31 nin0)
    have f57_9 : Exa Z T57.heap x0 "com/example/feuillet/feuillet/Verdict" := f31_9.keep Kq57
    have f57_10 : Exa Z T57.heap x1 "com/example/feuillet/feuillet/Verdict" := f31_10.keep Kq57
    have f57_11 : Exa Z T57.heap x2 "com/example/feuillet/feuillet/Verdict" := f31_11.keep Kq57
    have f57_12 : Fld Z T57.heap b30 "com/example/feuillet/feuillet/Summary" "counts" "[J" (.ref r1_31) := Fq31_0.keep Kq57 (ninS p31_0 nin0)
    have f57_13 : Exa Z T57.heap b30 "com/example/feuillet/feuillet/Summary" := Fq31_1.keep Kq57
    have K57 : Keep h0 T57.heap [] := K31.trans Kq57 (allS (Or.inr sz_r1_31) all0)
    refine own_step (U' := (T57.setTop (mkF m 55 #[.val (.int p1), .val (.int p2), .val (.int p3), .val (.int p4), .val (.int (2 : Int32)), .val (.int kb), .val (.int kc_), .val (.int kd), .val (.ref b30), .val (.long ((((0 : Int64) + (0 : Int64)) + (0 : Int64)) + (0 : Int64))), .second, .val (.long (0 : Int64)), .second, .unset, .unset] []))) (fun t ht => st57.trans ht) ?_
    refine own_step (U' := (T57.setTop (mkF m 57 #[.val (.int p1), .val (.int p2), .val (.int p3), .val (.int p4), .val (.int (2 : Int32)), .val (.int kb), .val (.int kc_), .val (.int kd), .val (.ref b30), .val (.long ((((0 : Int64) + (0 : Int64)) + (0 : Int64)) + (0 : Int64))), .second, .val (.long (0 : Int64)), .second, .unset, .unset] [(.long (0 : Int64))]))) (fun t ht => XT.lload X57.here hx rfl (hb hby at_55) rfl ht) ?_
    refine own_step (U' := (T57.setTop (mkF m 58 #[.val (.int p1), .val (.int p2), .val (.int p3), .val (.int p4), .val (.int (2 : Int32)), .val (.int kb), .val (.int kc_), .val (.int kd), .val (.ref b30), .val (.long ((((0 : Int64) + (0 : Int64)) + (0 : Int64)) + (0 : Int64))), .second, .val (.long (0 : Int64)), .second, .unset, .unset] [(.long (1 : Int64)), (.long (0 : Int64))]))) (fun t ht => XT.lconstV X57.here hx rfl (1 : Int64) (hb hby at_57) rfl ht) ?_
    refine own_step (U' := (T57.setTop (mkF m 59 #[.val (.int p1), .val (.int p2), .val (.int p3), .val (.int p4), .val (.int (2 : Int32)), .val (.int kb), .val (.int kc_), .val (.int kd), .val (.ref b30), .val (.long ((((0 : Int64) + (0 : Int64)) + (0 : Int64)) + (0 : Int64))), .second, .val (.long (0 : Int64)), .second, .unset, .unset] [(.long ((0 : Int64) + (1 : Int64)))]))) (fun t ht => XT.ladd X57.here hx rfl (hb hby at_58) rfl ht) ?_
    refine own_step (U' := (T57.setTop (mkF m 61 #[.val (.int p1), .val (.int p2), .val (.int p3), .val (.int p4), .val (.int (2 : Int32)), .val (.int kb), .val (.int kc_), .val (.int kd), .val (.ref b30), .val (.long ((((0 : Int64) + (0 : Int64)) + (0 : Int64)) + (0 : Int64))), .second, .val (.long ((0 : Int64) + (1 : Int64))), .second, .unset, .unset] []))) (fun t ht => XT.lstore X57.here hx rfl (hb hby at_59) rfl (l' := #[.val (.int p1), .val (.int p2), .val (.int p3), .val (.int p4), .val (.int (2 : Int32)), .val (.int kb), .val (.int kc_), .val (.int kd), .val (.ref b30), .val (.long ((((0 : Int64) + (0 : Int64)) + (0 : Int64)) + (0 : Int64))), .second, .val (.long ((0 : Int64) + (1 : Int64))), .second, .unset, .unset]) rfl ht) ?_
    exact t61 ((0 : Int64)) ((0 : Int64)) (((0 : Int64) + (1 : Int64))) (((0 : Int64) + (1 : Int64))) _ _ X57 N57 K57 f57_0 f57_2 f57_3 f57_4 f57_5 f57_6 f57_7 f57_8 f57_9 f57_10 f57_11 f57_12 f57_13 Fq57_0 (own_s2 hsum0)
  ·
    refine own_step (U' := (T32.setTop (mkF m 41 #[.val (.int p1), .val (.int p2), .val (.int p3), .val (.int p4), .val (.int (3 : Int32)), .val (.int kb), .val (.int kc_), .val (.int kd), .val (.ref b30), .val (.long ((((0 : Int64) + (0 : Int64)) + (0 : Int64)) + (0 : Int64))), .second, .val (.long (0 : Int64)), .second, .unset, .unset] [(.int (3 : Int32))]))) (fun t ht => XS.iload X32.here hx rfl (hb hby at_39) rfl ht) ?_
    refine own_step (U' := (T32.setTop (mkF m 42 #[.val (.int p1), .val (.int p2), .val (.int p3), .val (.int p4), .val (.int (3 : Int32)), .val (.int kb), .val (.int kc_), .val (.int kd), .val (.ref b30), .val (.long ((((0 : Int64) + (0 : Int64)) + (0 : Int64)) + (0 : Int64))), .second, .val (.long (0 : Int64)), .second, .unset, .unset] [(.int (3 : Int32)), (.int (3 : Int32))]))) (fun t ht => XS.iconst X32.here hx rfl (hb hby at_41) ht) ?_
    refine own_step (U' := (T32.setTop (mkF m 61 #[.val (.int p1), .val (.int p2), .val (.int p3), .val (.int p4), .val (.int (3 : Int32)), .val (.int kb), .val (.int kc_), .val (.int kd), .val (.ref b30), .val (.long ((((0 : Int64) + (0 : Int64)) + (0 : Int64)) + (0 : Int64))), .second, .val (.long (0 : Int64)), .second, .unset, .unset] []))) (fun t ht => XS.icmpYes X32.here hx rfl (pc0 := 42) (pc' := 61) rfl (hb hby at_42) rfl (XT.ii_eq_t ((by decide) : (3 : Int32) = (3 : Int32))) (by decide) (by decide) ht) ?_
    exact t61 ((0 : Int64)) ((0 : Int64)) ((0 : Int64)) ((0 : Int64)) _ _ X32 N32 (by rw [e32]; exact K31) (by rw [e32]; exact f31_0) (by rw [e32]; exact f31_2) (by rw [e32]; exact f31_3) (by rw [e32]; exact f31_4) (by rw [e32]; exact f31_5) (by rw [e32]; exact f31_6) (by rw [e32]; exact f31_7) (by rw [e32]; exact f31_8) (by rw [e32]; exact f31_9) (by rw [e32]; exact f31_10) (by rw [e32]; exact f31_11) (by rw [e32]; exact Fq31_0) (by rw [e32]; exact Fq31_1) (by rw [e32]; exact Fq31_2) hsum0
set_option maxRecDepth 65536 in
set_option maxHeartbeats 40000000 in
theorem own_comes {Post : Tables → Env → Array Value → State → Outcome → State → Prop} (hpost : ∀ tb e args s v u, (limb_1_1.after args s (.returned v) u = true ∧ limb_1_2.after args s (.returned v) u = true ∧ True) → FrameEnd s (.returned v) u (Jvm.fieldLocs frame_1_writes args s ++ Jvm.arrayLocs frame_1_arrays args s ++ Jvm.staticLocs frame_1_statics s) 16 128 → Post tb e args s (.returned v) u) :
    ArmFor flags0 classFile x code maxLocals ret World_1 tables_1 room_1 Calls_1 rest_1 Pre_1 Post := by
  intro l hfl _ _ p e ha hc hk s m args below hf hA hF happ hP
  obtain ⟨hcalls, hrest, hpre⟩ := hP
  obtain ⟨-, -, -, hnamed, -, -, -, hat⟩ := (Spec.applies_iff hf).mp happ
  obtain ⟨hg, hn⟩ := and_e (Cond.before_iff.mp (show (Jvm.Cond.and given_1 narrow_1).before args s = true from hpre))
  obtain ⟨hcount, q0⟩ := and_e hg
  obtain ⟨a0, q1⟩ := and_e q0
  obtain ⟨a1, q2⟩ := and_e q1
  obtain ⟨a2, q3⟩ := and_e q2
  have a3 := q3
  obtain ⟨w0, w1, w2, w3, rfl⟩ : ∃ w0 w1 w2 w3 : Value, args = #[w0, w1, w2, w3] := by
    have hs : args.size = 4 := by simpa [Cond.value, given_1] using hcount
    obtain ⟨L⟩ := args
    match L, hs with
    | [w0, w1, w2, w3], _ => exact ⟨w0, w1, w2, w3, rfl⟩
  obtain ⟨i0, e0⟩ := is_v a0
  obtain rfl : w0 = (.int i0) := Option.some.inj e0
  obtain ⟨i1, e1⟩ := is_v a1
  obtain rfl : w1 = (.int i1) := Option.some.inj e1
  obtain ⟨i2, e2⟩ := is_v a2
  obtain rfl : w2 = (.int i2) := Option.some.inj e2
  obtain ⟨i3, e3⟩ := is_v a3
  obtain rfl : w3 = (.int i3) := Option.some.inj e3
  have hw := fun d (hd : d ∈ tables_1) => atoms_spec (ws := Jvm.Cond.code x code maxLocals ret :: tables_1) hat d (List.mem_cons_of_mem _ hd)
  have hfit : Fit s := fun {y c} hc i hi => by
    obtain ⟨ha, rfl⟩ := Array.getElem?_eq_some_iff.mp hc
    have q := List.all_eq_true.mp ((Array.all_eq_true_iff_forall_mem.mp hF) _ (Array.getElem_mem ha)) i (List.mem_range.mpr hi)
    simpa [Array.getElem?_eq_getElem hi] using q
  obtain ⟨n1, m1⟩ := and_e hn
  obtain ⟨n2, m2⟩ := and_e m1
  obtain ⟨n3, m3⟩ := and_e m2
  obtain ⟨n4, m4⟩ := and_e m3
  obtain ⟨n5, m5⟩ := and_e m4
  obtain ⟨n6, m6⟩ := and_e m5
  obtain ⟨n7, m7⟩ := and_e m6
  obtain ⟨n8, m8⟩ := and_e m7
  obtain ⟨n9, m9⟩ := and_e m8
  obtain ⟨n10, m10⟩ := and_e m9
  obtain ⟨n11, m11⟩ := and_e m10
  obtain ⟨xv, ev⟩ := exa_v n2
  obtain ⟨x0, e0'⟩ := exa_v n4
  obtain ⟨x1, e1'⟩ := exa_v n6
  obtain ⟨x2, e2'⟩ := exa_v n8
  have hini := hw _ (List.mem_of_getElem? (i := 11) rfl)
  have Sv := Sta.start ev (Or.inl (hw _ (List.mem_of_getElem? (i := 25) rfl)))
  have S0 := Sta.start e0' (Or.inr ⟨hini, hw _ (List.mem_of_getElem? (i := 22) rfl)⟩)
  have S1 := Sta.start e1' (Or.inr ⟨hini, hw _ (List.mem_of_getElem? (i := 23) rfl)⟩)
  have S2 := Sta.start e2' (Or.inr ⟨hini, hw _ (List.mem_of_getElem? (i := 24) rfl)⟩)
  have Ev := Exa.start ev n2
  obtain ⟨cl, Ar⟩ := Arr.start ev n1
  have Vv := own_arr3 hfit ev Ar n3
  obtain ⟨n, o, h1, h2, h3, _, L, rfl, ⟨rfl, N⟩, hq⟩ := own_m_law l s _ hw tables_1 i0 i1 i2 i3 xv cl.cls cl.slots.toList x0 x1 x2 s.heap s.heap.size (Nat.le_refl _) Sv Vv Ev S0 S1 S2 (own_fieldint e0' n10) (own_fieldint e1' m11) (own_fieldint e2' n11) (Exa.start e0' n4) (Exa.start e1' n6) (Exa.start e2' n8) p e ha hc hk s m _ below hf ((Spec.applies_iff_loose hf).mp happ).1 ⟨rfl, State.Warmed39.refl s, rfl⟩ trivial
  refine ⟨n, _, h1, h2, h3, hpost _ _ _ _ _ _ ⟨Cond.after_iff.mpr rfl, Cond.after_iff.mpr (eq_i res_at (Term.int_eval (1)) rfl), trivial⟩ ⟨hq.1, hq.2.1, (hq.2.2.sift fun y hy => Or.inr (N y hy)).mono (by decide) (by decide)⟩⟩
theorem main_1_1 : Claimed_1_1 := own_comes fun _ _ _ _ _ _ h hF => ⟨h.1, hF⟩
theorem main_1_2 : Claimed_1_2 := own_comes fun _ _ _ _ _ _ h hF => ⟨h.2.1, hF⟩
end Jvm.Pilot.@@N@@
namespace Jvm.Pilot.@@N@@
open Jvm Jvm.ClassFile Sem Op Lib Jvm.Free Jvm.Stand Jvm.Pilot.@@N@@.Jvm.D
/-! MADE BY PROGRAM (witnessworld.py) out of the Statement's table words and the real class files: 16 classes; the members and pool entries that the words name. The judged class is class 1, her method 2. -/
namespace start1
open Jvm.ClassFile
def u (s : String) : CpInfo := .utf8 (stringToUtf16 s)
/-- a pool by its gaps: so many unusable entries, then the entry; so many at the end -/
def gap : Nat → List CpInfo → List CpInfo
  | 0, r => r
  | n + 1, r => .unusable :: gap n r
def poolList (es : List (Nat × CpInfo)) (last : Nat) : List CpInfo := es.foldr (fun e r => gap e.1 (e.2 :: r)) (gap last [])
def pool (es : List (Nat × CpInfo)) (last : Nat) : Array CpInfo := ⟨poolList es last⟩
def fileOf (pool : Array CpInfo) (this : Nat) (attrs : Array Attribute := #[]) (ms : Array MethodInfo := #[]) (fl : Nat := 33) (sup : Nat := 0) (ifs : Array Nat := #[]) (fds : Array FieldInfo := #[]) : ClassFile where
  minorVersion := 0
  majorVersion := 65
  constantPool := pool
  accessFlags := fl
  thisClass := this
  superClass := sup
  interfaces := ifs
  fields := fds
  methods := ms
  attributes := attrs
def plain (name : String) (sup : Option ClassId) : Class where
  name := name
  kind := .ordinary
  loader := none
  accessFlags := 33
  super := sup
  interfaces := #[]
  cf := none
  fields := #[]
  methods := #[]
  instanceTypes := #[]
  staticTypes := #[]
  resolved := #[]
  callSites := []
  init := .initialized
  statics := none
  mirror := none

def pool0 : Array CpInfo := pool [(5, u "<init>"), (0, u "()V"), (1, .class_ 10), (1, u "java/lang/Object"), (85, u "clone"), (0, u "()Ljava/lang/Object;")] 26

def k0c0 : Code := { maxStack := 0, maxLocals := 1, code := object_method_1_code, exceptionTable := #[], attributes := #[] }
def k0m0 : Method := { name := "<init>", desc := "()V", sig := { parameters := [], returnType := none }, accessFlags := 1, code := some k0c0 }
def k0m1 : Method := { name := "clone", desc := "()Ljava/lang/Object;", sig := { parameters := [], returnType := some (.object "java/lang/Object") }, accessFlags := 260, code := none }
/-- java/lang/Object -/
def k0 : Class := { plain "java/lang/Object" none with
  accessFlags := 33
  interfaces := #[]
  cf := some (fileOf pool0 8 #[] #[{ accessFlags := 1, nameIndex := 5, descriptorIndex := 6, attributes := #[] }, { accessFlags := 260, nameIndex := 96, descriptorIndex := 97, attributes := #[] }] 33 0 #[] #[])
  fields := #[]
  methods := #[k0m0, k0m1]
  instanceTypes := #[]
  staticTypes := #[]
  resolved := Array.replicate 124 none
  statics := none }

def pool1 : Array CpInfo := pool [(2, .class_ 4), (0, .nameAndType 5 6), (0, u "java/lang/Object"), (0, u "<init>"), (0, u "()V"), (0, .fieldref 8 9), (0, .class_ 10), (0, .nameAndType 11 12), (0, u "com/example/feuillet/feuillet/Verdict"), (0, u "CONFORMANT"), (0, u "Lcom/example/feuillet/feuillet/Verdict;"), (0, .fieldref 8 14), (0, .nameAndType 15 12), (0, u "NOT_CONFORMANT"), (0, .fieldref 8 17), (0, .nameAndType 18 12), (0, u "NOT_CHECKED"), (0, .class_ 20), (0, u "com/example/feuillet/feuillet/Summary"), (0, .methodref 19 3), (0, .methodref 19 23), (0, .nameAndType 24 25), (0, u "documents"), (0, u "()J"), (0, .methodref 27 28), (0, .class_ 29), (0, .nameAndType 30 31), (0, u "com/example/feuillet/feuillet/SummaryDocumentsPinLaw"), (0, u "pick"), (0, u "(I)Lcom/example/feuillet/feuillet/Verdict;"), (0, .methodref 19 33), (0, .nameAndType 34 35), (0, u "add"), (0, u "(Lcom/example/feuillet/feuillet/Verdict;)V"), (3, u "law"), (0, u "(IIII)Z")] 2

def k1m0 : Method := { name := "<init>", desc := "()V", sig := { parameters := [], returnType := none }, accessFlags := 2, code := none }
def k1c1 : Code := { maxStack := 2, maxLocals := 1, code := method_2_code, exceptionTable := #[], attributes := #[] }
def k1m1 : Method := { name := "pick", desc := "(I)Lcom/example/feuillet/feuillet/Verdict;", sig := { parameters := [.int], returnType := some (.object "com/example/feuillet/feuillet/Verdict") }, accessFlags := 10, code := some k1c1 }
def k1c2 : Code := { maxStack := 4, maxLocals := 15, code := code, exceptionTable := #[], attributes := #[] }
def k1m2 : Method := { name := "law", desc := "(IIII)Z", sig := { parameters := [.int, .int, .int, .int], returnType := some .boolean }, accessFlags := 9, code := some k1c2 }
/-- com/example/feuillet/feuillet/SummaryDocumentsPinLaw -/
def k1 : Class := { plain "com/example/feuillet/feuillet/SummaryDocumentsPinLaw" (some 0) with
  accessFlags := 49
  interfaces := #[]
  cf := some (fileOf pool1 27 #[] #[{ accessFlags := 2, nameIndex := 5, descriptorIndex := 6, attributes := #[] }, { accessFlags := 10, nameIndex := 30, descriptorIndex := 31, attributes := #[] }, { accessFlags := 9, nameIndex := 39, descriptorIndex := 40, attributes := #[] }] 49 2 #[] #[])
  fields := #[]
  methods := #[k1m0, k1m1, k1m2]
  instanceTypes := #[]
  staticTypes := #[]
  resolved := Array.replicate 43 none
  statics := none }

def pool2 : Array CpInfo := pool [(1, .methodref 2 3), (0, .class_ 4), (0, .nameAndType 5 6), (0, u "java/lang/Object"), (0, u "<init>"), (0, u "()V"), (0, .methodref 8 9), (0, .class_ 10), (0, .nameAndType 11 12), (0, u "com/example/feuillet/feuillet/Verdict"), (0, u "values"), (0, u "()[Lcom/example/feuillet/feuillet/Verdict;"), (0, .fieldref 14 15), (0, .class_ 16), (0, .nameAndType 17 18), (0, u "com/example/feuillet/feuillet/Summary"), (0, u "counts"), (0, u "[J"), (0, .methodref 8 20), (0, .nameAndType 21 22), (0, u "ordinal"), (0, u "()I"), (2, u "add"), (0, u "(Lcom/example/feuillet/feuillet/Verdict;)V"), (0, u "documents"), (0, u "()J")] 6

def k2c0 : Code := { maxStack := 2, maxLocals := 1, code := prog_94_method_1_code, exceptionTable := #[], attributes := #[] }
def k2m0 : Method := { name := "<init>", desc := "()V", sig := { parameters := [], returnType := none }, accessFlags := 0, code := some k2c0 }
def k2c1 : Code := { maxStack := 6, maxLocals := 2, code := prog_94_method_2_code, exceptionTable := #[], attributes := #[] }
def k2m1 : Method := { name := "add", desc := "(Lcom/example/feuillet/feuillet/Verdict;)V", sig := { parameters := [(.object "com/example/feuillet/feuillet/Verdict")], returnType := none }, accessFlags := 0, code := some k2c1 }
def k2c2 : Code := { maxStack := 4, maxLocals := 8, code := prog_94_method_3_code, exceptionTable := #[], attributes := #[] }
def k2m2 : Method := { name := "documents", desc := "()J", sig := { parameters := [], returnType := some .long }, accessFlags := 0, code := some k2c2 }
/-- com/example/feuillet/feuillet/Summary -/
def k2 : Class := { plain "com/example/feuillet/feuillet/Summary" (some 0) with
  accessFlags := 48
  interfaces := #[]
  cf := some (fileOf pool2 14 #[] #[{ accessFlags := 0, nameIndex := 5, descriptorIndex := 6, attributes := #[] }, { accessFlags := 0, nameIndex := 25, descriptorIndex := 26, attributes := #[] }, { accessFlags := 0, nameIndex := 27, descriptorIndex := 28, attributes := #[] }] 48 2 #[] #[{ accessFlags := 18, nameIndex := 17, descriptorIndex := 18, attributes := #[] }])
  fields := #[{ name := "counts", type := (.array .long), accessFlags := 18, slot := 0, constantValue := 0 }]
  methods := #[k2m0, k2m1, k2m2]
  instanceTypes := #[(.array .long)]
  staticTypes := #[]
  resolved := Array.replicate 35 none
  statics := none }

def pool3 : Array CpInfo := pool [(1, .class_ 2), (0, u "java/lang/constant/Constable"), (0, .class_ 4), (0, u "java/lang/Object")] 6

/-- java/lang/constant/Constable -/
def k3 : Class := { plain "java/lang/constant/Constable" (some 0) with
  accessFlags := 1537
  interfaces := #[]
  cf := some (fileOf pool3 1 #[] #[] 1537 3 #[] #[])
  fields := #[]
  methods := #[]
  instanceTypes := #[]
  staticTypes := #[]
  resolved := Array.replicate 11 none
  statics := none }

def pool4 : Array CpInfo := pool [(1, .class_ 2), (0, u "java/lang/Comparable"), (0, .class_ 4), (0, u "java/lang/Object")] 7

/-- java/lang/Comparable -/
def k4 : Class := { plain "java/lang/Comparable" (some 0) with
  accessFlags := 1537
  interfaces := #[]
  cf := some (fileOf pool4 1 #[] #[] 1537 3 #[] #[])
  fields := #[]
  methods := #[]
  instanceTypes := #[]
  staticTypes := #[]
  resolved := Array.replicate 12 none
  statics := none }

def pool5 : Array CpInfo := pool [(1, .class_ 2), (0, u "java/io/Serializable"), (0, .class_ 4), (0, u "java/lang/Object")] 2

/-- java/io/Serializable -/
def k5 : Class := { plain "java/io/Serializable" (some 0) with
  accessFlags := 1537
  interfaces := #[]
  cf := some (fileOf pool5 1 #[] #[] 1537 3 #[] #[])
  fields := #[]
  methods := #[]
  instanceTypes := #[]
  staticTypes := #[]
  resolved := Array.replicate 7 none
  statics := none }

def pool6 : Array CpInfo := pool [(2, .class_ 4), (1, u "java/lang/Enum"), (0, u "name"), (0, u "Ljava/lang/String;"), (0, .fieldref 2 8), (0, .nameAndType 9 10), (0, u "ordinal"), (0, u "I"), (1, .class_ 14), (1, u "java/lang/Object"), (4, u "hash"), (86, .class_ 108), (1, u "java/lang/Enum$EnumDesc"), (2, .class_ 112), (0, u "java/lang/constant/Constable"), (0, .class_ 114), (0, u "java/lang/Comparable"), (0, .class_ 116), (0, u "java/io/Serializable"), (9, u "()I")] 77

def k6c0 : Code := { maxStack := 1, maxLocals := 1, code := jdk_37_method_2_code, exceptionTable := #[], attributes := #[] }
def k6m0 : Method := { name := "ordinal", desc := "()I", sig := { parameters := [], returnType := some .int }, accessFlags := 17, code := some k6c0 }
/-- java/lang/Enum -/
def k6 : Class := { plain "java/lang/Enum" (some 0) with
  accessFlags := 1057
  interfaces := #[3, 4, 5]
  cf := some (fileOf pool6 2 #[.nestMembers #[106]] #[{ accessFlags := 17, nameIndex := 9, descriptorIndex := 126, attributes := #[] }] 1057 12 #[111, 113, 115] #[{ accessFlags := 18, nameIndex := 5, descriptorIndex := 6, attributes := #[] }, { accessFlags := 18, nameIndex := 9, descriptorIndex := 10, attributes := #[] }, { accessFlags := 2, nameIndex := 19, descriptorIndex := 10, attributes := #[] }])
  fields := #[{ name := "name", type := (.object "java/lang/String"), accessFlags := 18, slot := 0, constantValue := 0 }, { name := "ordinal", type := .int, accessFlags := 18, slot := 1, constantValue := 0 }, { name := "hash", type := .int, accessFlags := 2, slot := 2, constantValue := 0 }]
  methods := #[k6m0]
  instanceTypes := #[(.object "java/lang/String"), .int, .int]
  staticTypes := #[]
  resolved := Array.replicate 204 none
  statics := none }

def pool7 : Array CpInfo := pool [(1, .class_ 2), (0, u "com/example/feuillet/feuillet/Verdict"), (2, u "CONFORMANT"), (0, u "Lcom/example/feuillet/feuillet/Verdict;"), (2, u "NOT_CONFORMANT"), (2, u "NOT_CHECKED"), (0, .fieldref 1 14), (0, .nameAndType 15 16), (0, u "$VALUES"), (0, u "[Lcom/example/feuillet/feuillet/Verdict;"), (0, .methodref 18 19), (0, .class_ 16), (0, .nameAndType 20 21), (0, u "clone"), (0, u "()Ljava/lang/Object;"), (1, .class_ 25), (1, u "java/lang/Enum"), (8, u "words"), (0, u "Ljava/lang/String;"), (22, u "()[Lcom/example/feuillet/feuillet/Verdict;"), (0, u "values")] 31

def k7c0 : Code := { maxStack := 1, maxLocals := 0, code := prog_105_method_1_code, exceptionTable := #[], attributes := #[] }
def k7m0 : Method := { name := "values", desc := "()[Lcom/example/feuillet/feuillet/Verdict;", sig := { parameters := [], returnType := some (.array (.object "com/example/feuillet/feuillet/Verdict")) }, accessFlags := 9, code := some k7c0 }
/-- com/example/feuillet/feuillet/Verdict -/
def k7 : Class := { plain "com/example/feuillet/feuillet/Verdict" (some 6) with
  accessFlags := 16433
  interfaces := #[]
  cf := some (fileOf pool7 1 #[] #[{ accessFlags := 9, nameIndex := 59, descriptorIndex := 58, attributes := #[] }] 16433 23 #[] #[{ accessFlags := 16409, nameIndex := 5, descriptorIndex := 6, attributes := #[] }, { accessFlags := 16409, nameIndex := 9, descriptorIndex := 6, attributes := #[] }, { accessFlags := 16409, nameIndex := 12, descriptorIndex := 6, attributes := #[] }, { accessFlags := 18, nameIndex := 34, descriptorIndex := 35, attributes := #[] }, { accessFlags := 4122, nameIndex := 15, descriptorIndex := 16, attributes := #[] }])
  fields := #[{ name := "CONFORMANT", type := (.object "com/example/feuillet/feuillet/Verdict"), accessFlags := 16409, slot := 0, constantValue := 0 }, { name := "NOT_CONFORMANT", type := (.object "com/example/feuillet/feuillet/Verdict"), accessFlags := 16409, slot := 1, constantValue := 0 }, { name := "NOT_CHECKED", type := (.object "com/example/feuillet/feuillet/Verdict"), accessFlags := 16409, slot := 2, constantValue := 0 }, { name := "words", type := (.object "java/lang/String"), accessFlags := 18, slot := 3, constantValue := 0 }, { name := "$VALUES", type := (.array (.object "com/example/feuillet/feuillet/Verdict")), accessFlags := 4122, slot := 3, constantValue := 0 }]
  methods := #[k7m0]
  instanceTypes := #[(.object "java/lang/String"), .int, .int, (.object "java/lang/String")]
  staticTypes := #[(.object "com/example/feuillet/feuillet/Verdict"), (.object "com/example/feuillet/feuillet/Verdict"), (.object "com/example/feuillet/feuillet/Verdict"), (.array (.object "com/example/feuillet/feuillet/Verdict"))]
  resolved := Array.replicate 91 none
  statics := some 0 }

def pool8 : Array CpInfo := pool [(1, .class_ 2), (0, u "java/lang/Cloneable"), (0, .class_ 4), (0, u "java/lang/Object")] 2

/-- java/lang/Cloneable -/
def k8 : Class := { plain "java/lang/Cloneable" (some 0) with
  accessFlags := 1537
  interfaces := #[]
  cf := some (fileOf pool8 1 #[] #[] 1537 3 #[] #[])
  fields := #[]
  methods := #[]
  instanceTypes := #[]
  staticTypes := #[]
  resolved := Array.replicate 7 none
  statics := none }

/-- the primitive byte -/
def k9 : Class := { plain "byte" none with kind := .primitive 'B', accessFlags := 0x411 }
/-- [B -/
def k10 : Class := { plain "[B" (some 0) with kind := .array 9 .byte, interfaces := #[8, 5], accessFlags := 1041 }

/-- the primitive int -/
def k11 : Class := { plain "int" none with kind := .primitive 'I', accessFlags := 0x411 }
/-- [I -/
def k12 : Class := { plain "[I" (some 0) with kind := .array 11 .int, interfaces := #[8, 5], accessFlags := 1041 }

/-- the primitive long -/
def k13 : Class := { plain "long" none with kind := .primitive 'J', accessFlags := 0x411 }
/-- [J -/
def k14 : Class := { plain "[J" (some 0) with kind := .array 13 .long, interfaces := #[8, 5], accessFlags := 1041 }

/-- [Lcom/example/feuillet/feuillet/Verdict; -/
def k15 : Class := { plain "[Lcom/example/feuillet/feuillet/Verdict;" (some 0) with kind := .array 7 (.object "com/example/feuillet/feuillet/Verdict"), interfaces := #[8, 5], accessFlags := 1041 }

def heap : Heap := #[{ cls := 7, slots := #[.ref 2, .ref 3, .ref 4, .ref 1], vm := .statics 7 },
  { cls := 15, slots := #[.ref 2, .ref 3, .ref 4], vm := .none },
  { cls := 7, slots := #[.null, .int 0, .int 0, .null], vm := .none },
  { cls := 7, slots := #[.null, .int 1, .int 0, .null], vm := .none },
  { cls := 7, slots := #[.null, .int 2, .int 0, .null], vm := .none }]
def classes : Array Class := #[k0, k1, k2, k3, k4, k5, k6, k7, k8, k9, k10, k11, k12, k13, k14, k15]
def interned : List (Array UInt16 × Addr) := []
def slotsUsed : Nat := 19
def theMethod : MethodId := ⟨1, 2⟩
def args0 : Array Value := #[.int 5, .int 7, .int 8, .int 9]
def aboutOver (below : List Frame) : State where
  vm := { classes := classes, interned := interned.toArray }
  heap := heap
  slotsUsed := slotsUsed
  threads := #[{ frames := .invoking theMethod args0 :: below }]
def below0 : List Frame := [.native { method := ⟨0, 0⟩, args := #[] }]
def about1 : State := aboutOver below0
def p0 : Program := .bare "" "" ""
def e0 : Env := launch0.env 0 0 0
theorem w_frames : about1.frames = Frame.invoking theMethod args0 :: below0 := rfl
set_option maxRecDepth 65536 in
theorem w_args : argsFit about1.vm theMethod args0 = true := by decide +kernel
set_option maxRecDepth 65536 in
theorem w_heap : heapFits about1 = true := by decide +kernel
set_option maxRecDepth 65536 in
theorem w_runnable : about1.curStatus? = some .runnable := by decide +kernel
set_option maxRecDepth 65536 in
theorem w_alone : about1.alone = true := by decide +kernel
set_option maxRecDepth 65536 in
theorem w_named : about1.methodNamed? x = some theMethod := by decide +kernel
set_option maxRecDepth 65536 in
theorem w_hears : about1.hears theMethod below0 = true := by decide +kernel
set_option maxRecDepth 65536 in
theorem w_ripe : about1.ripe theMethod args0 below0 = true := by decide +kernel
theorem w_running : about1.status = .running := rfl
set_option maxRecDepth 65536 in
theorem w_room : about1.hasRoom e0.platform room_1 = true :=
  launch0.hasRoom_least _ room_1 (by decide +kernel) (by decide +kernel) (by decide +kernel) (by decide +kernel) (by decide +kernel) (by decide +kernel)
theorem allAtoms_all (ts : List Jvm.Cond) (a : Array Jvm.Value) (st : Jvm.State) : (allAtoms ts).before a st = ts.all (fun c => c.before a st) := by
  induction ts with
  | nil => rfl
  | cons c t ih =>
    show (Jvm.Cond.and c (allAtoms t)).before a st = _
    rw [Jvm.Cond.before_and, ih, List.all_cons]
def words1 : List Jvm.Cond := Jvm.Cond.code x code maxLocals ret :: tables_1
/-- a 'code' word, met by the world's own term for the bytes: nothing is compared byte by byte -/
theorem code_word {y : MethodName} {bytes : ByteArray} {mx : Nat} {rt : Option FieldType} {a : Array Value} {s : State} {m : MethodId} {meth : Method} {c : Code} (h1 : s.methodNamed? y = some m) (h2 : s.vm.method? m = some meth) (h3 : meth.code = some c) (h4 : c.code = bytes)
    (h5 : (c.maxLocals == mx && c.exceptionTable.isEmpty && decide (c.maxStack ≤ mostOperands) && decide (meth.sig.returnType = rt) && !meth.locks && decide (parseMethodDescriptor y.desc = some meth.sig)) = true) : (Jvm.Cond.code y bytes mx rt).before a s = true := by
  simp only [Bool.and_eq_true, beq_iff_eq, Bool.not_eq_true', decide_eq_true_eq] at h5
  obtain ⟨⟨⟨⟨⟨g1, g2⟩, g3⟩, g4⟩, g5⟩, g6⟩ := h5
  simp [Cond.before, Cond.holds, Cond.value, h1, h2, h3, h4, g1, g2, g3, g4, g5, g6]
def isCode : Jvm.Cond → Bool
  | .code _ _ _ _ => true
  | _ => false
theorem all_split {L : List Jvm.Cond} {P : Jvm.Cond → Bool} (h1 : L.all (fun c => isCode c || P c) = true) (h2 : ∀ c ∈ L.filter isCode, P c = true) : L.all P = true := by
  refine List.all_eq_true.mpr fun c hc => ?_
  have h := List.all_eq_true.mp h1 c hc
  rcases Bool.eq_false_or_eq_true (isCode c) with hi | hi
  · exact h2 c (List.mem_filter.mpr ⟨hc, hi⟩)
  · simpa [hi] using h
set_option maxRecDepth 65536 in
theorem w_c0 : (Jvm.Cond.code x code maxLocals ret).before args0 about1 = true := code_word (m := ⟨1, 2⟩) (meth := k1m2) (c := k1c2) (by decide +kernel) rfl rfl rfl (by decide +kernel)
set_option maxRecDepth 65536 in
theorem w_c1 : (Jvm.Cond.code ({ cls := "com/example/feuillet/feuillet/Summary", name := "<init>", desc := "()V" } : Jvm.MethodName) prog_94_method_1_code (1 : Nat) (Option.none : Option Jvm.ClassFile.FieldType)).before args0 about1 = true := code_word (m := ⟨2, 0⟩) (meth := k2m0) (c := k2c0) (by decide +kernel) rfl rfl rfl (by decide +kernel)
set_option maxRecDepth 65536 in
theorem w_c2 : (Jvm.Cond.code ({ cls := "java/lang/Object", name := "<init>", desc := "()V" } : Jvm.MethodName) object_method_1_code (1 : Nat) (Option.none : Option Jvm.ClassFile.FieldType)).before args0 about1 = true := code_word (m := ⟨0, 0⟩) (meth := k0m0) (c := k0c0) (by decide +kernel) rfl rfl rfl (by decide +kernel)
set_option maxRecDepth 65536 in
theorem w_c3 : (Jvm.Cond.code ({ cls := "com/example/feuillet/feuillet/Verdict", name := "values", desc := "()[Lcom/example/feuillet/feuillet/Verdict;" } : Jvm.MethodName) prog_105_method_1_code (0 : Nat) (Option.some (Jvm.ClassFile.FieldType.array (Jvm.ClassFile.FieldType.object "com/example/feuillet/feuillet/Verdict")))).before args0 about1 = true := code_word (m := ⟨7, 0⟩) (meth := k7m0) (c := k7c0) (by decide +kernel) rfl rfl rfl (by decide +kernel)
set_option maxRecDepth 65536 in
theorem w_c4 : (Jvm.Cond.code ({ cls := "com/example/feuillet/feuillet/Summary", name := "documents", desc := "()J" } : Jvm.MethodName) prog_94_method_3_code (8 : Nat) (Option.some Jvm.ClassFile.FieldType.long)).before args0 about1 = true := code_word (m := ⟨2, 2⟩) (meth := k2m2) (c := k2c2) (by decide +kernel) rfl rfl rfl (by decide +kernel)
set_option maxRecDepth 65536 in
theorem w_c5 : (Jvm.Cond.code ({ cls := "com/example/feuillet/feuillet/SummaryDocumentsPinLaw", name := "pick", desc := "(I)Lcom/example/feuillet/feuillet/Verdict;" } : Jvm.MethodName) method_2_code (1 : Nat) (Option.some (Jvm.ClassFile.FieldType.object "com/example/feuillet/feuillet/Verdict"))).before args0 about1 = true := code_word (m := ⟨1, 1⟩) (meth := k1m1) (c := k1c1) (by decide +kernel) rfl rfl rfl (by decide +kernel)
set_option maxRecDepth 65536 in
theorem w_c6 : (Jvm.Cond.code ({ cls := "com/example/feuillet/feuillet/Summary", name := "add", desc := "(Lcom/example/feuillet/feuillet/Verdict;)V" } : Jvm.MethodName) prog_94_method_2_code (2 : Nat) (Option.none : Option Jvm.ClassFile.FieldType)).before args0 about1 = true := code_word (m := ⟨2, 1⟩) (meth := k2m1) (c := k2c1) (by decide +kernel) rfl rfl rfl (by decide +kernel)
set_option maxRecDepth 65536 in
theorem w_c7 : (Jvm.Cond.code ({ cls := "java/lang/Enum", name := "ordinal", desc := "()I" } : Jvm.MethodName) jdk_37_method_2_code (1 : Nat) (Option.some Jvm.ClassFile.FieldType.int)).before args0 about1 = true := code_word (m := ⟨6, 0⟩) (meth := k6m0) (c := k6c0) (by decide +kernel) rfl rfl rfl (by decide +kernel)
def codes1 : List Jvm.Cond := [Jvm.Cond.code x code maxLocals ret, Jvm.Cond.code ({ cls := "com/example/feuillet/feuillet/Summary", name := "<init>", desc := "()V" } : Jvm.MethodName) prog_94_method_1_code (1 : Nat) (Option.none : Option Jvm.ClassFile.FieldType), Jvm.Cond.code ({ cls := "java/lang/Object", name := "<init>", desc := "()V" } : Jvm.MethodName) object_method_1_code (1 : Nat) (Option.none : Option Jvm.ClassFile.FieldType), Jvm.Cond.code ({ cls := "com/example/feuillet/feuillet/Verdict", name := "values", desc := "()[Lcom/example/feuillet/feuillet/Verdict;" } : Jvm.MethodName) prog_105_method_1_code (0 : Nat) (Option.some (Jvm.ClassFile.FieldType.array (Jvm.ClassFile.FieldType.object "com/example/feuillet/feuillet/Verdict"))), Jvm.Cond.code ({ cls := "com/example/feuillet/feuillet/Summary", name := "documents", desc := "()J" } : Jvm.MethodName) prog_94_method_3_code (8 : Nat) (Option.some Jvm.ClassFile.FieldType.long), Jvm.Cond.code ({ cls := "com/example/feuillet/feuillet/SummaryDocumentsPinLaw", name := "pick", desc := "(I)Lcom/example/feuillet/feuillet/Verdict;" } : Jvm.MethodName) method_2_code (1 : Nat) (Option.some (Jvm.ClassFile.FieldType.object "com/example/feuillet/feuillet/Verdict")), Jvm.Cond.code ({ cls := "com/example/feuillet/feuillet/Summary", name := "add", desc := "(Lcom/example/feuillet/feuillet/Verdict;)V" } : Jvm.MethodName) prog_94_method_2_code (2 : Nat) (Option.none : Option Jvm.ClassFile.FieldType), Jvm.Cond.code ({ cls := "java/lang/Enum", name := "ordinal", desc := "()I" } : Jvm.MethodName) jdk_37_method_2_code (1 : Nat) (Option.some Jvm.ClassFile.FieldType.int)]
set_option maxRecDepth 65536 in
theorem codes_eq : words1.filter isCode = codes1 := rfl
theorem w_codes : ∀ c ∈ words1.filter isCode, c.before args0 about1 = true := by
  rw [codes_eq]
  intro c hc
  simp only [codes1, List.mem_cons, List.not_mem_nil, or_false] at hc
  rcases hc with rfl | rfl | rfl | rfl | rfl | rfl | rfl | rfl
  · exact w_c0
  · exact w_c1
  · exact w_c2
  · exact w_c3
  · exact w_c4
  · exact w_c5
  · exact w_c6
  · exact w_c7
set_option maxRecDepth 65536 in
theorem w_t1 : (words1.take 24).all (fun c => isCode c || c.before args0 about1) = true := by decide +kernel
set_option maxRecDepth 65536 in
theorem w_t2 : ((words1.drop 24).take 24).all (fun c => isCode c || c.before args0 about1) = true := by decide +kernel
set_option maxRecDepth 65536 in
theorem w_t3 : ((words1.drop 24).drop 24).all (fun c => isCode c || c.before args0 about1) = true := by decide +kernel
theorem w_tables : (allAtoms (Jvm.Cond.code x code maxLocals ret :: tables_1)).before args0 about1 = true := by
  rw [allAtoms_all]
  show words1.all (fun c => c.before args0 about1) = true
  refine all_split ?_ w_codes
  rw [← List.take_append_drop 24 words1, List.all_append, w_t1, ← List.take_append_drop 24 (words1.drop 24), List.all_append, w_t2, w_t3]
  rfl
set_option maxRecDepth 65536 in
theorem w_case : (Jvm.Cond.and given_1 narrow_1).before args0 about1 = true := by decide +kernel
theorem w_applies : (headSpec (Jvm.Cond.code x code maxLocals ret :: tables_1) room_1).applies x e0.platform about1 = true :=
  (Spec.applies_iff w_frames).mpr ⟨w_running, w_runnable, w_alone, w_named, w_hears, w_ripe, w_room, w_tables⟩
theorem atStart : AtStart classFile x code maxLocals ret World_1 tables_1 room_1 Calls_1 rest_1 Pre_1 launch0 p0 e0 about1 theMethod args0 below0 :=
  ⟨lists_1, trivial, launch0.admits_env _ _ _, launch0.least_env, fairChoices_fair.cas, fairChoices_fair.clock, w_frames, w_args, w_heap, w_applies, trivial, trivial, w_case⟩
end start1
theorem witness_1 : WitnessClaimed_1 := ⟨start1.p0, start1.e0, start1.about1, start1.theMethod, start1.args0, start1.below0, start1.atStart⟩
end Jvm.Pilot.@@N@@
