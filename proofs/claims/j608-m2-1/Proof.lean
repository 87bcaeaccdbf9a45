import JvmDerived
import JvmDerived.Pilot.@@N@@Statement
import JvmDerived.Pilot.@@N@@Code
set_option linter.unusedVariables false
set_option linter.unusedSimpArgs false
namespace Jvm.RoadKit
open Sem ClassFile Op Lib Jvm.Stand Jvm.Free Jvm.LawKit
section New
variable {p : Program} {l : Launch} {e : Env} {R : Room} {s : State} {m : MethodId} {args : Array Value} {below : List Frame} {meth : Method} {c : Code} {T : State} {locs : List Loc} {cells slots : Nat}
theorem retI (X : Stand p l e R s m args below meth c T locs cells slots) (hx : p.tables.exec = Jvm.exec) {pc : Nat} {Ls : Array Slot} {z : Int32} {rest : List Value} (hret : meth.sig.returnType = some .int) (hd : decode c.code pc = .ok (.ireturn, 1)) {fs : List Frame}
    (hl : ∀ (f : JFrame) (acts : List Action), f.method = m → f.locked = none → f.entered = [] → (doReturn e (T.setTop f) acts (some (.int z))).1 = T.setFrames fs) : Steps p.tables e below (T.setTop (mkF m pc Ls (.int z :: rest))) (T.setFrames fs) := by
  have hm' : T.vm.method? m = some meth := X.method'
  have hn : narrow .int (.int z) = .int z := rfl
  show Steps p.tables e below (T.setTop { method := m, pc := pc, locals := Ls, stack := _ :: rest, locked := none }) _
  jvm_step X.here [X.here.top, hx, hd, hm', hret, hn]
  first | (intro acts; rw [hl _ acts rfl rfl rfl]) | rw [hl _ _ rfl rfl rfl]
  exact Steps.refl _
end New
end Jvm.RoadKit
namespace Jvm.Pilot.@@N@@
open Jvm Jvm.ClassFile Sem Op Lib Jvm.Free Jvm.Stand Jvm.LawKit Jvm.RoadKit Bundle Jvm.Pilot.@@N@@.Jvm.D
section Own
variable {p : Program} {l : Launch} {e : Env} {R : Room} {s : State} {m : MethodId} {args : Array Value} {below : List Frame} {meth : Method} {c : Code} {T : State} {locs : List Loc} {cells slots : Nat}
/-- from U the run comes to an end that Q allows -/
def own_Go (p : Program) (e : Env) (below : List Frame) (s : State) (kc ks : Nat) (Q : Option Value → Heap → List Loc → Prop) (U : State) : Prop :=
  ∃ s₂ o, Steps p.tables e below U s₂ ∧ s₂.status = .running ∧ Ended s₂ below o ∧ ∃ v L, o = .returned v ∧ Q v s₂.heap L ∧ FrameEnd s o s₂ L kc ks
theorem own_step {kc ks : Nat} {Q : Option Value → Heap → List Loc → Prop} {U U' : State} (k : ∀ t, Steps p.tables e below U' t → Steps p.tables e below U t) (g : own_Go p e below s kc ks Q U') : own_Go p e below s kc ks Q U := by
  obtain ⟨s₂, o, h, r⟩ := g
  exact ⟨s₂, o, k _ h, r⟩
theorem own_ret {kc ks : Nat} {Q : Option Value → Heap → List Loc → Prop} {U : State} (X : Stand p l e R s m args below meth c T locs cells slots) {v : Option Value} (hv : meth.sig.returnType = none → v = none) (hlocks : meth.locks = false) (hk : cells ≤ kc) (hs : slots ≤ ks) (hq : Q v T.heap locs)
    (k : ∀ fs, (∀ (f : JFrame) (acts : List Action), f.method = m → f.locked = none → f.entered = [] → (doReturn e (T.setTop f) acts v).1 = T.setFrames fs) → Steps p.tables e below U (T.setFrames fs)) : own_Go p e below s kc ks Q U := by
  obtain ⟨fs, hr, hrun, hended, hW, hsame⟩ := X.leave (v := v) hv hlocks
  exact ⟨_, _, k fs hr, hrun, hended, v, locs, rfl, hq, ⟨_, rfl⟩, hW, hsame.mono hk hs⟩
theorem own_narR {t : FieldType} {v : Value} (h : v.isRef = true) : narrow t v = v := by cases v <;> first | (cases h; done) | (cases t <;> rfl)
theorem own_fitR {t : String} {v : Value} (h : v.isRef = true) : fits (.object t) v = true := by cases v <;> first | (cases h; done) | rfl
theorem own_at {h : Heap} {a : Addr} {k : Cell} (e : T.heap = h) (q : h[a]? = some k) : T.heap[a]? = some k := e ▸ q
theorem own_pl0 {h : Heap} : ∀ a ∈ ([] : List Addr), ∀ c : Cell, h[a]? = some c → c.vm.isStatics = false := fun _ q => nomatch q
theorem own_plE {Z : State} {h : Heap} {a : Addr} {C : String} {ws : List Addr} (E : Exa Z h a C) (r : ∀ x ∈ ws, ∀ c : Cell, h[x]? = some c → c.vm.isStatics = false) : ∀ x ∈ a :: ws, ∀ c : Cell, h[x]? = some c → c.vm.isStatics = false := fun x hx c hc => by
  rcases List.mem_cons.mp hx with rfl | q
  · obtain ⟨cell, k, h1, -, -, h4, -⟩ := E
    cases h1.symm.trans hc; exact h4
  · exact r x q c hc
theorem own_plF {Z : State} {h : Heap} {a : Addr} {C n d : String} {v : Value} {ws : List Addr} (E : Fld Z h a C n d v) (r : ∀ x ∈ ws, ∀ c : Cell, h[x]? = some c → c.vm.isStatics = false) : ∀ x ∈ a :: ws, ∀ c : Cell, h[x]? = some c → c.vm.isStatics = false := fun x hx c hc => by
  rcases List.mem_cons.mp hx with rfl | q
  · exact old_plain E c hc
  · exact r x q c hc
theorem own_plV {Z : State} {h : Heap} {a : Addr} {k : ClassId} {ty : FieldType} {z : Int32} {vs : List Value} {d : Value} {ws : List Addr} (E : Arv Z h a k ty z vs d) (r : ∀ x ∈ ws, ∀ c : Cell, h[x]? = some c → c.vm.isStatics = false) : ∀ x ∈ a :: ws, ∀ c : Cell, h[x]? = some c → c.vm.isStatics = false := fun x hx c hc => by
  rcases List.mem_cons.mp hx with rfl | q
  · obtain ⟨cl, A, -⟩ := E
    cases A.1.symm.trans hc; exact A.plain
  · exact r x q c hc
theorem own_sta_keep {Z : State} {h h' : Heap} {C n d : String} {w : Value} {ws : List Addr} (F : Sta Z h C n d w) (K : Keep h h' ws) (r : ∀ x ∈ ws, ∀ c : Cell, h[x]? = some c → c.vm.isStatics = false) : Sta Z h' C n d w := by
  obtain ⟨cf, i, k, f, st, cell, h1, h2, h3, h4, h5, h6, h7⟩ := F
  exact ⟨cf, i, k, f, st, cell, h1, h2, h3, h4, K.2.1 st cell h5 (fun q => by rw [r st q cell h5] at h6; cases h6), h6, h7⟩
end Own
def own_dig (c : Int32) : Int32 := if c < 48 then 0 else if 57 < c then 0 else 1
def own_idc (c : Int32) : Int32 :=
  if own_dig c = 0 then
    (if c < 97 then (if c < 65 then (if c = 45 then 1 else 0) else if 90 < c then (if c = 45 then 1 else 0) else 1)
     else if 122 < c then (if c < 65 then (if c = 45 then 1 else 0) else if 90 < c then (if c = 45 then 1 else 0) else 1) else 1)
  else 1
def own_exp (c : Int32) : Int32 :=
  if c < 48 then (if (c ||| 32) < 97 then (if c = 45 then 1 else 0) else if (c ||| 32) < 123 then 1 else (if c = 45 then 1 else 0))
  else if c < 58 then 1
  else (if (c ||| 32) < 97 then (if c = 45 then 1 else 0) else if (c ||| 32) < 123 then 1 else (if c = 45 then 1 else 0))
theorem own_or_neg (c : Int32) (h : c.toInt < 0) : (c ||| 32).toInt < 0 := by
  have : (c ||| 32).toBitVec.msb = true := by
    rw [Int32.toBitVec_or, BitVec.msb_or]
    have : c.toBitVec.msb = true := by
      rw [BitVec.msb_eq_toInt]; simpa using h
    simp [this]
  rw [BitVec.msb_eq_toInt] at this
  exact of_decide_eq_true this
theorem own_or_big (c : Int32) (h : 128 ≤ c.toInt) : 128 ≤ (c ||| 32).toInt := by
  have e : (c ||| 32).toBitVec.toNat = c.toBitVec.toNat ||| 32 := by
    rw [Int32.toBitVec_or, BitVec.toNat_or]; rfl
  have l1 : c.toBitVec.toNat ≤ c.toBitVec.toNat ||| 32 := Nat.left_le_or
  have h0 : c.toInt = c.toBitVec.toNat := by
    have := BitVec.toInt_eq_toNat_cond c.toBitVec
    have h' : c.toBitVec.toInt = c.toInt := rfl
    split at this <;> omega
  have hlt : c.toBitVec.toNat < 2 ^ 31 := by have := c.toInt_lt; omega
  have l2 : c.toBitVec.toNat ||| 32 < 2 ^ 31 := Nat.or_lt_two_pow hlt (by decide)
  have h1 : (c ||| 32).toInt = (c ||| 32).toBitVec.toNat := by
    have := BitVec.toInt_eq_toNat_cond (c ||| 32).toBitVec
    have h' : (c ||| 32).toBitVec.toInt = (c ||| 32).toInt := rfl
    split at this <;> omega
  omega
theorem own_idexp_small : ∀ n : Fin 128, own_idc (Int32.ofNat n.val) = own_exp (Int32.ofNat n.val) := by decide +kernel
theorem own_idexp (c : Int32) : own_idc c = own_exp c := by
  by_cases h1 : c.toInt < 0
  · have h2 := own_or_neg c h1
    have e1 : c < 48 := by rw [Int32.lt_iff_toInt_lt]; have : (48 : Int32).toInt = 48 := rfl; omega
    have e2 : c < 97 := by rw [Int32.lt_iff_toInt_lt]; have : (97 : Int32).toInt = 97 := rfl; omega
    have e3 : c < 65 := by rw [Int32.lt_iff_toInt_lt]; have : (65 : Int32).toInt = 65 := rfl; omega
    have e4 : (c ||| 32) < 97 := by rw [Int32.lt_iff_toInt_lt]; have : (97 : Int32).toInt = 97 := rfl; omega
    simp [own_idc, own_exp, own_dig, e1, e2, e3, e4]
  · by_cases h2 : 128 ≤ c.toInt
    · have h3 := own_or_big c h2
      have e1 : ¬ c < 48 := by rw [Int32.lt_iff_toInt_lt]; have : (48 : Int32).toInt = 48 := rfl; omega
      have e1b : ¬ c < 58 := by rw [Int32.lt_iff_toInt_lt]; have : (58 : Int32).toInt = 58 := rfl; omega
      have e1c : 57 < c := by rw [Int32.lt_iff_toInt_lt]; have : (57 : Int32).toInt = 57 := rfl; omega
      have e2 : ¬ c < 97 := by rw [Int32.lt_iff_toInt_lt]; have : (97 : Int32).toInt = 97 := rfl; omega
      have e2b : 122 < c := by rw [Int32.lt_iff_toInt_lt]; have : (122 : Int32).toInt = 122 := rfl; omega
      have e2c : 90 < c := by rw [Int32.lt_iff_toInt_lt]; have : (90 : Int32).toInt = 90 := rfl; omega
      have e3 : ¬ c < 65 := by rw [Int32.lt_iff_toInt_lt]; have : (65 : Int32).toInt = 65 := rfl; omega
      have e4 : ¬ (c ||| 32) < 97 := by rw [Int32.lt_iff_toInt_lt]; have : (97 : Int32).toInt = 97 := rfl; omega
      have e5 : ¬ (c ||| 32) < 123 := by rw [Int32.lt_iff_toInt_lt]; have : (123 : Int32).toInt = 123 := rfl; omega
      simp [own_idc, own_exp, own_dig, e1, e1b, e1c, e2, e2b, e2c, e3, e4, e5]
    · have hc : c = Int32.ofNat c.toInt.toNat := by
        apply Int32.toInt_inj.mp
        rw [Int32.toInt_ofNat_of_lt] <;> omega
      have := own_idexp_small ⟨c.toInt.toNat, by omega⟩
      rw [← hc] at this
      exact this
theorem own_pn0 : plainName "com/example/version_parser/versionparser/SemVerReader" = true := by first | (simp [plainName, overriddenIn]; done) | decide +kernel
theorem own_d2_0 : decode prog_17_method_21_code 0 = .ok (.iload_n 0, 1) := by decide +kernel
theorem own_d2_1 : decode prog_17_method_21_code 1 = .ok (.bipush 48, 2) := by decide +kernel
theorem own_d2_3 : decode prog_17_method_21_code 3 = .ok (.if_icmp .lt 13, 3) := by decide +kernel
theorem own_d2_6 : decode prog_17_method_21_code 6 = .ok (.iload_n 0, 1) := by decide +kernel
theorem own_d2_7 : decode prog_17_method_21_code 7 = .ok (.bipush 57, 2) := by decide +kernel
theorem own_d2_9 : decode prog_17_method_21_code 9 = .ok (.if_icmp .gt 7, 3) := by decide +kernel
theorem own_d2_12 : decode prog_17_method_21_code 12 = .ok (.iconst 1, 1) := by decide +kernel
theorem own_d2_13 : decode prog_17_method_21_code 13 = .ok (.goto 4, 3) := by decide +kernel
theorem own_d2_16 : decode prog_17_method_21_code 16 = .ok (.iconst 0, 1) := by decide +kernel
theorem own_d2_17 : decode prog_17_method_21_code 17 = .ok (.ireturn, 1) := by decide +kernel
def own_Q_dig (Z : State) (p1 : Int32) (h0 : Heap) (n0 : Nat) (v : Option Value) (h : Heap) (L : List Loc) : Prop := v = some (.int (own_dig p1)) ∧ Fr n0 L ∧ h = h0
set_option maxRecDepth 65536 in
set_option maxHeartbeats 40000000 in
theorem own_m_dig (l : Launch) (Z : State) (a0 : Array Value) (hw : ∀ d ∈ tables_1, d.before a0 Z = true) (ws : List Jvm.Cond) (p1 : Int32) (h0 : Heap) (n0 : Nat) (Z0 : n0 ≤ h0.size)  :
    MetFree l (⟨"com/example/version_parser/versionparser/SemVerReader", "isDigit", "(I)Z"⟩ : MethodName) (head1 (Jvm.Cond.code (⟨"com/example/version_parser/versionparser/SemVerReader", "isDigit", "(I)Z"⟩ : MethodName) prog_17_method_21_code 1 (some .boolean) :: ws) ({ frames := 0, cells := 0, slots := 0, locals := 0 } : Room)) (fun a U => a = #[(.int p1)] ∧ Z.Warmed39 U.vm ∧ U.heap = h0) (fun _ _ _ _ _ => True) (fun _ U o U' => ∃ v L, o = .returned v ∧ own_Q_dig Z p1 h0 n0 v U'.heap L ∧ FrameEnd U o U' L ({ frames := 0, cells := 0, slots := 0, locals := 0 } : Room).cells ({ frames := 0, cells := 0, slots := 0, locals := 0 } : Room).slots) := by
  refine MetFree.of_bodySF (plainFor_of_name own_pn0) hisR ?_
  intro p e s m args below meth c s₁ Bd hml0 hP hK
  obtain ⟨rfl, hZ, hh⟩ := hP
  have hx := Bd.exec
  have hby := Bd.bytes
  have hml : c.maxLocals = 1 := hml0
  have hown : s.vm.findClass "com/example/version_parser/versionparser/SemVerReader" = some m.cls := findClass_of_methodNamed Bd.named
  have hnm := (name_of_methodNamed Bd.named Bd.method).1
  have X0 : Stand p l e ({ frames := 0, cells := 0, slots := 0, locals := 0 } : Room) s m #[(.int p1)] below meth c s₁ [] 0 0 := Stand.of_body Bd
  have e0 : s₁.heap = h0 := by rw [← hh, Bd.state]; rfl
  have N0 := Fr.nil n0
  have K0 : Keep h0 h0 [] := Keep.refl _ _
  show own_Go p e below s ({ frames := 0, cells := 0, slots := 0, locals := 0 } : Room).cells ({ frames := 0, cells := 0, slots := 0, locals := 0 } : Room).slots (own_Q_dig Z p1 h0 n0) (s₁.setTop (entryFrame m #[(.int p1)] 1))
  have ef : entryFrame m #[(.int p1)] 1 = (mkF m 0 #[.val (.int p1)] []) := by first | rfl | (simp [entryFrame, mkF, argsToLocals, Value.category, maxLocals]; done)
  rw [ef]
  show own_Go p e below s _ _ _ (s₁.setTop (mkF m 0 #[.val (.int p1)] []))
  refine own_step (U' := (s₁.setTop (mkF m 1 #[.val (.int p1)] [(.int p1)]))) (fun t ht => XS.iloadN X0.here hx rfl (hb hby own_d2_0) rfl ht) ?_
  refine own_step (U' := (s₁.setTop (mkF m 3 #[.val (.int p1)] [(.int (48 : Int32)), (.int p1)]))) (fun t ht => XS.bipush X0.here hx rfl (hb hby own_d2_1) ht) ?_
  by_cases hc3_1 : p1 < (48 : Int32)
  ·
    refine own_step (U' := (s₁.setTop (mkF m 16 #[.val (.int p1)] []))) (fun t ht => XS.icmpYes X0.here hx rfl (pc0 := 3) (pc' := 16) rfl (hb hby own_d2_3) rfl (XT.ii_lt_t hc3_1) (by decide) (by decide) ht) ?_
    refine own_step (U' := (s₁.setTop (mkF m 17 #[.val (.int p1)] [(.int (0 : Int32))]))) (fun t ht => XS.iconst X0.here hx rfl (hb hby own_d2_16) ht) ?_
    refine own_ret X0 (v := (some (.int (nar .boolean (0 : Int32))))) (fun h => by rw [Bd.returns] at h; cases h) Bd.notSynchronized (by decide) (by decide) ?_ (fun fs hr => retN X0 hx (t := .boolean) Bd.returns (by simp) (hb hby own_d2_17) hr)
    show own_Q_dig Z p1 h0 n0 _ s₁.heap _
    rw [e0]
    refine ⟨?_, N0, rfl⟩
    simp [own_dig, nar, hc3_1]
  ·
    refine own_step (U' := (s₁.setTop (mkF m 6 #[.val (.int p1)] []))) (fun t ht => XS.icmpNo X0.here hx rfl (hb hby own_d2_3) rfl (XT.ii_lt_f hc3_1) ht) ?_
    refine own_step (U' := (s₁.setTop (mkF m 7 #[.val (.int p1)] [(.int p1)]))) (fun t ht => XS.iloadN X0.here hx rfl (hb hby own_d2_6) rfl ht) ?_
    refine own_step (U' := (s₁.setTop (mkF m 9 #[.val (.int p1)] [(.int (57 : Int32)), (.int p1)]))) (fun t ht => XS.bipush X0.here hx rfl (hb hby own_d2_7) ht) ?_
    by_cases hc9_2 : (57 : Int32) < p1
    ·
      refine own_step (U' := (s₁.setTop (mkF m 16 #[.val (.int p1)] []))) (fun t ht => XS.icmpYes X0.here hx rfl (pc0 := 9) (pc' := 16) rfl (hb hby own_d2_9) rfl (XT.ii_gt_t hc9_2) (by decide) (by decide) ht) ?_
      refine own_step (U' := (s₁.setTop (mkF m 17 #[.val (.int p1)] [(.int (0 : Int32))]))) (fun t ht => XS.iconst X0.here hx rfl (hb hby own_d2_16) ht) ?_
      refine own_ret X0 (v := (some (.int (nar .boolean (0 : Int32))))) (fun h => by rw [Bd.returns] at h; cases h) Bd.notSynchronized (by decide) (by decide) ?_ (fun fs hr => retN X0 hx (t := .boolean) Bd.returns (by simp) (hb hby own_d2_17) hr)
      show own_Q_dig Z p1 h0 n0 _ s₁.heap _
      rw [e0]
      refine ⟨?_, N0, rfl⟩
      simp [own_dig, nar, hc3_1, hc9_2]
    ·
      refine own_step (U' := (s₁.setTop (mkF m 12 #[.val (.int p1)] []))) (fun t ht => XS.icmpNo X0.here hx rfl (hb hby own_d2_9) rfl (XT.ii_gt_f hc9_2) ht) ?_
      refine own_step (U' := (s₁.setTop (mkF m 13 #[.val (.int p1)] [(.int (1 : Int32))]))) (fun t ht => XS.iconst X0.here hx rfl (hb hby own_d2_12) ht) ?_
      refine own_step (U' := (s₁.setTop (mkF m 17 #[.val (.int p1)] [(.int (1 : Int32))]))) (fun t ht => XS.goto X0.here hx rfl (pc0 := 13) (pc' := 17) rfl (hb hby own_d2_13) (by decide) (by decide) ht) ?_
      refine own_ret X0 (v := (some (.int (nar .boolean (1 : Int32))))) (fun h => by rw [Bd.returns] at h; cases h) Bd.notSynchronized (by decide) (by decide) ?_ (fun fs hr => retN X0 hx (t := .boolean) Bd.returns (by simp) (hb hby own_d2_17) hr)
      show own_Q_dig Z p1 h0 n0 _ s₁.heap _
      rw [e0]
      refine ⟨?_, N0, rfl⟩
      simp [own_dig, nar, hc3_1, hc9_2]
theorem own_pd0 : parseMethodDescriptor "(I)Z" = some ⟨[.int], some .boolean⟩ := by decide +kernel
theorem own_d1_0 : decode prog_17_method_22_code 0 = .ok (.iload_n 0, 1) := by decide +kernel
theorem own_d1_1 : decode prog_17_method_22_code 1 = .ok (.invokestatic 47, 3) := by decide +kernel
theorem own_d1_4 : decode prog_17_method_22_code 4 = .ok (.ifCond .ne 33, 3) := by decide +kernel
theorem own_d1_7 : decode prog_17_method_22_code 7 = .ok (.iload_n 0, 1) := by decide +kernel
theorem own_d1_8 : decode prog_17_method_22_code 8 = .ok (.bipush 97, 2) := by decide +kernel
theorem own_d1_10 : decode prog_17_method_22_code 10 = .ok (.if_icmp .lt 9, 3) := by decide +kernel
theorem own_d1_13 : decode prog_17_method_22_code 13 = .ok (.iload_n 0, 1) := by decide +kernel
theorem own_d1_14 : decode prog_17_method_22_code 14 = .ok (.bipush 122, 2) := by decide +kernel
theorem own_d1_16 : decode prog_17_method_22_code 16 = .ok (.if_icmp .le 21, 3) := by decide +kernel
theorem own_d1_19 : decode prog_17_method_22_code 19 = .ok (.iload_n 0, 1) := by decide +kernel
theorem own_d1_20 : decode prog_17_method_22_code 20 = .ok (.bipush 65, 2) := by decide +kernel
theorem own_d1_22 : decode prog_17_method_22_code 22 = .ok (.if_icmp .lt 9, 3) := by decide +kernel
theorem own_d1_25 : decode prog_17_method_22_code 25 = .ok (.iload_n 0, 1) := by decide +kernel
theorem own_d1_26 : decode prog_17_method_22_code 26 = .ok (.bipush 90, 2) := by decide +kernel
theorem own_d1_28 : decode prog_17_method_22_code 28 = .ok (.if_icmp .le 9, 3) := by decide +kernel
theorem own_d1_31 : decode prog_17_method_22_code 31 = .ok (.iload_n 0, 1) := by decide +kernel
theorem own_d1_32 : decode prog_17_method_22_code 32 = .ok (.bipush 45, 2) := by decide +kernel
theorem own_d1_34 : decode prog_17_method_22_code 34 = .ok (.if_icmp .ne 7, 3) := by decide +kernel
theorem own_d1_37 : decode prog_17_method_22_code 37 = .ok (.iconst 1, 1) := by decide +kernel
theorem own_d1_38 : decode prog_17_method_22_code 38 = .ok (.goto 4, 3) := by decide +kernel
theorem own_d1_41 : decode prog_17_method_22_code 41 = .ok (.iconst 0, 1) := by decide +kernel
theorem own_d1_42 : decode prog_17_method_22_code 42 = .ok (.ireturn, 1) := by decide +kernel
def own_Q_idc (Z : State) (p1 : Int32) (h0 : Heap) (n0 : Nat) (v : Option Value) (h : Heap) (L : List Loc) : Prop := v = some (.int (own_idc p1)) ∧ Fr n0 L ∧ h = h0
set_option maxRecDepth 65536 in
set_option maxHeartbeats 40000000 in
theorem own_m_idc (l : Launch) (Z : State) (a0 : Array Value) (hw : ∀ d ∈ tables_1, d.before a0 Z = true) (ws : List Jvm.Cond) (p1 : Int32) (h0 : Heap) (n0 : Nat) (Z0 : n0 ≤ h0.size)  :
    MetFree l (⟨"com/example/version_parser/versionparser/SemVerReader", "isIdentifierCharacter", "(I)Z"⟩ : MethodName) (head1 (Jvm.Cond.code (⟨"com/example/version_parser/versionparser/SemVerReader", "isIdentifierCharacter", "(I)Z"⟩ : MethodName) prog_17_method_22_code 1 (some .boolean) :: ws) ({ frames := 1, cells := 0, slots := 0, locals := 12 } : Room)) (fun a U => a = #[(.int p1)] ∧ Z.Warmed39 U.vm ∧ U.heap = h0) (fun _ _ _ _ _ => True) (fun _ U o U' => ∃ v L, o = .returned v ∧ own_Q_idc Z p1 h0 n0 v U'.heap L ∧ FrameEnd U o U' L ({ frames := 1, cells := 0, slots := 0, locals := 12 } : Room).cells ({ frames := 1, cells := 0, slots := 0, locals := 12 } : Room).slots) := by
  refine MetFree.of_bodySF (plainFor_of_name own_pn0) hisR ?_
  intro p e s m args below meth c s₁ Bd hml0 hP hK
  obtain ⟨rfl, hZ, hh⟩ := hP
  have hx := Bd.exec
  have hby := Bd.bytes
  have hml : c.maxLocals = 1 := hml0
  have hown : s.vm.findClass "com/example/version_parser/versionparser/SemVerReader" = some m.cls := findClass_of_methodNamed Bd.named
  have hnm := (name_of_methodNamed Bd.named Bd.method).1
  have X0 : Stand p l e ({ frames := 1, cells := 0, slots := 0, locals := 12 } : Room) s m #[(.int p1)] below meth c s₁ [] 0 0 := Stand.of_body Bd
  have e0 : s₁.heap = h0 := by rw [← hh, Bd.state]; rfl
  have N0 := Fr.nil n0
  have K0 : Keep h0 h0 [] := Keep.refl _ _
  show own_Go p e below s ({ frames := 1, cells := 0, slots := 0, locals := 12 } : Room).cells ({ frames := 1, cells := 0, slots := 0, locals := 12 } : Room).slots (own_Q_idc Z p1 h0 n0) (s₁.setTop (entryFrame m #[(.int p1)] 1))
  have ef : entryFrame m #[(.int p1)] 1 = (mkF m 0 #[.val (.int p1)] []) := by first | rfl | (simp [entryFrame, mkF, argsToLocals, Value.category, maxLocals]; done)
  rw [ef]
  show own_Go p e below s _ _ _ (s₁.setTop (mkF m 0 #[.val (.int p1)] []))
  refine own_step (U' := (s₁.setTop (mkF m 1 #[.val (.int p1)] [(.int p1)]))) (fun t ht => XS.iloadN X0.here hx rfl (hb hby own_d1_0) rfl ht) ?_
  obtain ⟨_, _, ⟨T3, L3, k3, n3⟩, -, X3, ⟨Lc3, hQ3, l3, y3, z3⟩, st3⟩ := Jvm.LawKit.callS X0 hx (y := (⟨"com/example/version_parser/versionparser/SemVerReader", "isDigit", "(I)Z"⟩ : MethodName)) hown (mvT hZ (hw _ (List.mem_of_getElem? (i := 4) rfl))) (mvT hZ (hw _ (List.mem_of_getElem? (i := 5) rfl))) (mvT hZ (hw _ (List.mem_of_getElem? (i := 2) rfl))) (mvT hZ (hw _ (List.mem_of_getElem? (i := 6) rfl))) (by decide) (backOf (W := 0) (own_m_dig l Z a0 hw [] (p1) h0 n0 Z0 ) hZ (hw _ (List.mem_of_getElem? (i := 6) rfl)) (hw _ (List.mem_of_getElem? (i := 2) rfl)) (by decide) (by decide)) (g := (mkF m 1 #[.val (.int p1)] [(.int p1)])) rfl (by rw [hml]; rfl) (argsL := [(.int p1)]) (rest := []) (lenOf own_pd0 rfl) rfl (by show 2 * 0 + _ ≤ _; exact Nat.le_of_eq rfl) (hb hby own_d1_1) (fun _ _ => ⟨rfl, e0, (by decide : 0 + 0 ≤ _), (by decide : 0 + 0 ≤ _)⟩)
  dsimp only [Pt.U, Pt.locs, Pt.cells, Pt.slots] at X3 l3 y3 z3 st3 hQ3
  subst l3 y3 z3
  obtain ⟨rfl, Nq3, Kq3⟩ := hQ3
  have N3 := Fr.app N0 Nq3
  have e3 : T3.heap = h0 := Kq3
  refine own_step (U' := (T3.setTop (mkF m 4 #[.val (.int p1)] [(.int (own_dig p1))]))) (fun t ht => st3 _ ht) ?_
  by_cases hc4_4 : (own_dig p1) = 0
  ·
    refine own_step (U' := (T3.setTop (mkF m 7 #[.val (.int p1)] []))) (fun t ht => XS.ifNo X3.here hx rfl (hb hby own_d1_4) rfl (XT.i0_ne_f hc4_4) ht) ?_
    refine own_step (U' := (T3.setTop (mkF m 8 #[.val (.int p1)] [(.int p1)]))) (fun t ht => XS.iloadN X3.here hx rfl (hb hby own_d1_7) rfl ht) ?_
    refine own_step (U' := (T3.setTop (mkF m 10 #[.val (.int p1)] [(.int (97 : Int32)), (.int p1)]))) (fun t ht => XS.bipush X3.here hx rfl (hb hby own_d1_8) ht) ?_
    by_cases hc10_5 : p1 < (97 : Int32)
    ·
      refine own_step (U' := (T3.setTop (mkF m 19 #[.val (.int p1)] []))) (fun t ht => XS.icmpYes X3.here hx rfl (pc0 := 10) (pc' := 19) rfl (hb hby own_d1_10) rfl (XT.ii_lt_t hc10_5) (by decide) (by decide) ht) ?_
      refine own_step (U' := (T3.setTop (mkF m 20 #[.val (.int p1)] [(.int p1)]))) (fun t ht => XS.iloadN X3.here hx rfl (hb hby own_d1_19) rfl ht) ?_
      refine own_step (U' := (T3.setTop (mkF m 22 #[.val (.int p1)] [(.int (65 : Int32)), (.int p1)]))) (fun t ht => XS.bipush X3.here hx rfl (hb hby own_d1_20) ht) ?_
      by_cases hc22_6 : p1 < (65 : Int32)
      ·
        refine own_step (U' := (T3.setTop (mkF m 31 #[.val (.int p1)] []))) (fun t ht => XS.icmpYes X3.here hx rfl (pc0 := 22) (pc' := 31) rfl (hb hby own_d1_22) rfl (XT.ii_lt_t hc22_6) (by decide) (by decide) ht) ?_
        refine own_step (U' := (T3.setTop (mkF m 32 #[.val (.int p1)] [(.int p1)]))) (fun t ht => XS.iloadN X3.here hx rfl (hb hby own_d1_31) rfl ht) ?_
        refine own_step (U' := (T3.setTop (mkF m 34 #[.val (.int p1)] [(.int (45 : Int32)), (.int p1)]))) (fun t ht => XS.bipush X3.here hx rfl (hb hby own_d1_32) ht) ?_
        by_cases hc34_7 : p1 = (45 : Int32)
        ·
          refine own_step (U' := (T3.setTop (mkF m 37 #[.val (.int p1)] []))) (fun t ht => XS.icmpNo X3.here hx rfl (hb hby own_d1_34) rfl (XT.ii_ne_f hc34_7) ht) ?_
          refine own_step (U' := (T3.setTop (mkF m 38 #[.val (.int p1)] [(.int (1 : Int32))]))) (fun t ht => XS.iconst X3.here hx rfl (hb hby own_d1_37) ht) ?_
          refine own_step (U' := (T3.setTop (mkF m 42 #[.val (.int p1)] [(.int (1 : Int32))]))) (fun t ht => XS.goto X3.here hx rfl (pc0 := 38) (pc' := 42) rfl (hb hby own_d1_38) (by decide) (by decide) ht) ?_
          refine own_ret X3 (v := (some (.int (nar .boolean (1 : Int32))))) (fun h => by rw [Bd.returns] at h; cases h) Bd.notSynchronized (by decide) (by decide) ?_ (fun fs hr => retN X3 hx (t := .boolean) Bd.returns (by simp) (hb hby own_d1_42) hr)
          show own_Q_idc Z p1 h0 n0 _ T3.heap _
          rw [e3]
          refine ⟨?_, N3, rfl⟩
          simp [own_idc, nar, hc4_4, hc10_5, hc22_6, hc34_7]
        ·
          refine own_step (U' := (T3.setTop (mkF m 41 #[.val (.int p1)] []))) (fun t ht => XS.icmpYes X3.here hx rfl (pc0 := 34) (pc' := 41) rfl (hb hby own_d1_34) rfl (XT.ii_ne_t hc34_7) (by decide) (by decide) ht) ?_
          refine own_step (U' := (T3.setTop (mkF m 42 #[.val (.int p1)] [(.int (0 : Int32))]))) (fun t ht => XS.iconst X3.here hx rfl (hb hby own_d1_41) ht) ?_
          refine own_ret X3 (v := (some (.int (nar .boolean (0 : Int32))))) (fun h => by rw [Bd.returns] at h; cases h) Bd.notSynchronized (by decide) (by decide) ?_ (fun fs hr => retN X3 hx (t := .boolean) Bd.returns (by simp) (hb hby own_d1_42) hr)
          show own_Q_idc Z p1 h0 n0 _ T3.heap _
          rw [e3]
          refine ⟨?_, N3, rfl⟩
          simp [own_idc, nar, hc4_4, hc10_5, hc22_6, hc34_7]
      ·
        refine own_step (U' := (T3.setTop (mkF m 25 #[.val (.int p1)] []))) (fun t ht => XS.icmpNo X3.here hx rfl (hb hby own_d1_22) rfl (XT.ii_lt_f hc22_6) ht) ?_
        refine own_step (U' := (T3.setTop (mkF m 26 #[.val (.int p1)] [(.int p1)]))) (fun t ht => XS.iloadN X3.here hx rfl (hb hby own_d1_25) rfl ht) ?_
        refine own_step (U' := (T3.setTop (mkF m 28 #[.val (.int p1)] [(.int (90 : Int32)), (.int p1)]))) (fun t ht => XS.bipush X3.here hx rfl (hb hby own_d1_26) ht) ?_
        by_cases hc28_8 : (90 : Int32) < p1
        ·
          refine own_step (U' := (T3.setTop (mkF m 31 #[.val (.int p1)] []))) (fun t ht => XS.icmpNo X3.here hx rfl (hb hby own_d1_28) rfl (XT.ii_le_f hc28_8) ht) ?_
          refine own_step (U' := (T3.setTop (mkF m 32 #[.val (.int p1)] [(.int p1)]))) (fun t ht => XS.iloadN X3.here hx rfl (hb hby own_d1_31) rfl ht) ?_
          refine own_step (U' := (T3.setTop (mkF m 34 #[.val (.int p1)] [(.int (45 : Int32)), (.int p1)]))) (fun t ht => XS.bipush X3.here hx rfl (hb hby own_d1_32) ht) ?_
          by_cases hc34_9 : p1 = (45 : Int32)
          ·
            refine own_step (U' := (T3.setTop (mkF m 37 #[.val (.int p1)] []))) (fun t ht => XS.icmpNo X3.here hx rfl (hb hby own_d1_34) rfl (XT.ii_ne_f hc34_9) ht) ?_
            refine own_step (U' := (T3.setTop (mkF m 38 #[.val (.int p1)] [(.int (1 : Int32))]))) (fun t ht => XS.iconst X3.here hx rfl (hb hby own_d1_37) ht) ?_
            refine own_step (U' := (T3.setTop (mkF m 42 #[.val (.int p1)] [(.int (1 : Int32))]))) (fun t ht => XS.goto X3.here hx rfl (pc0 := 38) (pc' := 42) rfl (hb hby own_d1_38) (by decide) (by decide) ht) ?_
            refine own_ret X3 (v := (some (.int (nar .boolean (1 : Int32))))) (fun h => by rw [Bd.returns] at h; cases h) Bd.notSynchronized (by decide) (by decide) ?_ (fun fs hr => retN X3 hx (t := .boolean) Bd.returns (by simp) (hb hby own_d1_42) hr)
            show own_Q_idc Z p1 h0 n0 _ T3.heap _
            rw [e3]
            refine ⟨?_, N3, rfl⟩
            simp [own_idc, nar, hc4_4, hc10_5, hc22_6, hc28_8, hc34_9]
          ·
            refine own_step (U' := (T3.setTop (mkF m 41 #[.val (.int p1)] []))) (fun t ht => XS.icmpYes X3.here hx rfl (pc0 := 34) (pc' := 41) rfl (hb hby own_d1_34) rfl (XT.ii_ne_t hc34_9) (by decide) (by decide) ht) ?_
            refine own_step (U' := (T3.setTop (mkF m 42 #[.val (.int p1)] [(.int (0 : Int32))]))) (fun t ht => XS.iconst X3.here hx rfl (hb hby own_d1_41) ht) ?_
            refine own_ret X3 (v := (some (.int (nar .boolean (0 : Int32))))) (fun h => by rw [Bd.returns] at h; cases h) Bd.notSynchronized (by decide) (by decide) ?_ (fun fs hr => retN X3 hx (t := .boolean) Bd.returns (by simp) (hb hby own_d1_42) hr)
            show own_Q_idc Z p1 h0 n0 _ T3.heap _
            rw [e3]
            refine ⟨?_, N3, rfl⟩
            simp [own_idc, nar, hc4_4, hc10_5, hc22_6, hc28_8, hc34_9]
        ·
          refine own_step (U' := (T3.setTop (mkF m 37 #[.val (.int p1)] []))) (fun t ht => XS.icmpYes X3.here hx rfl (pc0 := 28) (pc' := 37) rfl (hb hby own_d1_28) rfl (XT.ii_le_t hc28_8) (by decide) (by decide) ht) ?_
          refine own_step (U' := (T3.setTop (mkF m 38 #[.val (.int p1)] [(.int (1 : Int32))]))) (fun t ht => XS.iconst X3.here hx rfl (hb hby own_d1_37) ht) ?_
          refine own_step (U' := (T3.setTop (mkF m 42 #[.val (.int p1)] [(.int (1 : Int32))]))) (fun t ht => XS.goto X3.here hx rfl (pc0 := 38) (pc' := 42) rfl (hb hby own_d1_38) (by decide) (by decide) ht) ?_
          refine own_ret X3 (v := (some (.int (nar .boolean (1 : Int32))))) (fun h => by rw [Bd.returns] at h; cases h) Bd.notSynchronized (by decide) (by decide) ?_ (fun fs hr => retN X3 hx (t := .boolean) Bd.returns (by simp) (hb hby own_d1_42) hr)
          show own_Q_idc Z p1 h0 n0 _ T3.heap _
          rw [e3]
          refine ⟨?_, N3, rfl⟩
          simp [own_idc, nar, hc4_4, hc10_5, hc22_6, hc28_8]
    ·
      refine own_step (U' := (T3.setTop (mkF m 13 #[.val (.int p1)] []))) (fun t ht => XS.icmpNo X3.here hx rfl (hb hby own_d1_10) rfl (XT.ii_lt_f hc10_5) ht) ?_
      refine own_step (U' := (T3.setTop (mkF m 14 #[.val (.int p1)] [(.int p1)]))) (fun t ht => XS.iloadN X3.here hx rfl (hb hby own_d1_13) rfl ht) ?_
      refine own_step (U' := (T3.setTop (mkF m 16 #[.val (.int p1)] [(.int (122 : Int32)), (.int p1)]))) (fun t ht => XS.bipush X3.here hx rfl (hb hby own_d1_14) ht) ?_
      by_cases hc16_10 : (122 : Int32) < p1
      ·
        refine own_step (U' := (T3.setTop (mkF m 19 #[.val (.int p1)] []))) (fun t ht => XS.icmpNo X3.here hx rfl (hb hby own_d1_16) rfl (XT.ii_le_f hc16_10) ht) ?_
        refine own_step (U' := (T3.setTop (mkF m 20 #[.val (.int p1)] [(.int p1)]))) (fun t ht => XS.iloadN X3.here hx rfl (hb hby own_d1_19) rfl ht) ?_
        refine own_step (U' := (T3.setTop (mkF m 22 #[.val (.int p1)] [(.int (65 : Int32)), (.int p1)]))) (fun t ht => XS.bipush X3.here hx rfl (hb hby own_d1_20) ht) ?_
        by_cases hc22_11 : p1 < (65 : Int32)
        ·
          refine own_step (U' := (T3.setTop (mkF m 31 #[.val (.int p1)] []))) (fun t ht => XS.icmpYes X3.here hx rfl (pc0 := 22) (pc' := 31) rfl (hb hby own_d1_22) rfl (XT.ii_lt_t hc22_11) (by decide) (by decide) ht) ?_
          refine own_step (U' := (T3.setTop (mkF m 32 #[.val (.int p1)] [(.int p1)]))) (fun t ht => XS.iloadN X3.here hx rfl (hb hby own_d1_31) rfl ht) ?_
          refine own_step (U' := (T3.setTop (mkF m 34 #[.val (.int p1)] [(.int (45 : Int32)), (.int p1)]))) (fun t ht => XS.bipush X3.here hx rfl (hb hby own_d1_32) ht) ?_
          by_cases hc34_12 : p1 = (45 : Int32)
          ·
            refine own_step (U' := (T3.setTop (mkF m 37 #[.val (.int p1)] []))) (fun t ht => XS.icmpNo X3.here hx rfl (hb hby own_d1_34) rfl (XT.ii_ne_f hc34_12) ht) ?_
            refine own_step (U' := (T3.setTop (mkF m 38 #[.val (.int p1)] [(.int (1 : Int32))]))) (fun t ht => XS.iconst X3.here hx rfl (hb hby own_d1_37) ht) ?_
            refine own_step (U' := (T3.setTop (mkF m 42 #[.val (.int p1)] [(.int (1 : Int32))]))) (fun t ht => XS.goto X3.here hx rfl (pc0 := 38) (pc' := 42) rfl (hb hby own_d1_38) (by decide) (by decide) ht) ?_
            refine own_ret X3 (v := (some (.int (nar .boolean (1 : Int32))))) (fun h => by rw [Bd.returns] at h; cases h) Bd.notSynchronized (by decide) (by decide) ?_ (fun fs hr => retN X3 hx (t := .boolean) Bd.returns (by simp) (hb hby own_d1_42) hr)
            show own_Q_idc Z p1 h0 n0 _ T3.heap _
            rw [e3]
            refine ⟨?_, N3, rfl⟩
            simp [own_idc, nar, hc4_4, hc10_5, hc16_10, hc22_11, hc34_12]
          ·
            refine own_step (U' := (T3.setTop (mkF m 41 #[.val (.int p1)] []))) (fun t ht => XS.icmpYes X3.here hx rfl (pc0 := 34) (pc' := 41) rfl (hb hby own_d1_34) rfl (XT.ii_ne_t hc34_12) (by decide) (by decide) ht) ?_
            refine own_step (U' := (T3.setTop (mkF m 42 #[.val (.int p1)] [(.int (0 : Int32))]))) (fun t ht => XS.iconst X3.here hx rfl (hb hby own_d1_41) ht) ?_
            refine own_ret X3 (v := (some (.int (nar .boolean (0 : Int32))))) (fun h => by rw [Bd.returns] at h; cases h) Bd.notSynchronized (by decide) (by decide) ?_ (fun fs hr => retN X3 hx (t := .boolean) Bd.returns (by simp) (hb hby own_d1_42) hr)
            show own_Q_idc Z p1 h0 n0 _ T3.heap _
            rw [e3]
            refine ⟨?_, N3, rfl⟩
            simp [own_idc, nar, hc4_4, hc10_5, hc16_10, hc22_11, hc34_12]
        ·
          refine own_step (U' := (T3.setTop (mkF m 25 #[.val (.int p1)] []))) (fun t ht => XS.icmpNo X3.here hx rfl (hb hby own_d1_22) rfl (XT.ii_lt_f hc22_11) ht) ?_
          refine own_step (U' := (T3.setTop (mkF m 26 #[.val (.int p1)] [(.int p1)]))) (fun t ht => XS.iloadN X3.here hx rfl (hb hby own_d1_25) rfl ht) ?_
          refine own_step (U' := (T3.setTop (mkF m 28 #[.val (.int p1)] [(.int (90 : Int32)), (.int p1)]))) (fun t ht => XS.bipush X3.here hx rfl (hb hby own_d1_26) ht) ?_
          by_cases hc28_13 : (90 : Int32) < p1
          ·
            refine own_step (U' := (T3.setTop (mkF m 31 #[.val (.int p1)] []))) (fun t ht => XS.icmpNo X3.here hx rfl (hb hby own_d1_28) rfl (XT.ii_le_f hc28_13) ht) ?_
            refine own_step (U' := (T3.setTop (mkF m 32 #[.val (.int p1)] [(.int p1)]))) (fun t ht => XS.iloadN X3.here hx rfl (hb hby own_d1_31) rfl ht) ?_
            refine own_step (U' := (T3.setTop (mkF m 34 #[.val (.int p1)] [(.int (45 : Int32)), (.int p1)]))) (fun t ht => XS.bipush X3.here hx rfl (hb hby own_d1_32) ht) ?_
            by_cases hc34_14 : p1 = (45 : Int32)
            ·
              refine own_step (U' := (T3.setTop (mkF m 37 #[.val (.int p1)] []))) (fun t ht => XS.icmpNo X3.here hx rfl (hb hby own_d1_34) rfl (XT.ii_ne_f hc34_14) ht) ?_
              refine own_step (U' := (T3.setTop (mkF m 38 #[.val (.int p1)] [(.int (1 : Int32))]))) (fun t ht => XS.iconst X3.here hx rfl (hb hby own_d1_37) ht) ?_
              refine own_step (U' := (T3.setTop (mkF m 42 #[.val (.int p1)] [(.int (1 : Int32))]))) (fun t ht => XS.goto X3.here hx rfl (pc0 := 38) (pc' := 42) rfl (hb hby own_d1_38) (by decide) (by decide) ht) ?_
              refine own_ret X3 (v := (some (.int (nar .boolean (1 : Int32))))) (fun h => by rw [Bd.returns] at h; cases h) Bd.notSynchronized (by decide) (by decide) ?_ (fun fs hr => retN X3 hx (t := .boolean) Bd.returns (by simp) (hb hby own_d1_42) hr)
              show own_Q_idc Z p1 h0 n0 _ T3.heap _
              rw [e3]
              refine ⟨?_, N3, rfl⟩
              simp [own_idc, nar, hc4_4, hc10_5, hc16_10, hc22_11, hc28_13, hc34_14]
            ·
              refine own_step (U' := (T3.setTop (mkF m 41 #[.val (.int p1)] []))) (fun t ht => XS.icmpYes X3.here hx rfl (pc0 := 34) (pc' := 41) rfl (hb hby own_d1_34) rfl (XT.ii_ne_t hc34_14) (by decide) (by decide) ht) ?_
              refine own_step (U' := (T3.setTop (mkF m 42 #[.val (.int p1)] [(.int (0 : Int32))]))) (fun t ht => XS.iconst X3.here hx rfl (hb hby own_d1_41) ht) ?_
              refine own_ret X3 (v := (some (.int (nar .boolean (0 : Int32))))) (fun h => by rw [Bd.returns] at h; cases h) Bd.notSynchronized (by decide) (by decide) ?_ (fun fs hr => retN X3 hx (t := .boolean) Bd.returns (by simp) (hb hby own_d1_42) hr)
              show own_Q_idc Z p1 h0 n0 _ T3.heap _
              rw [e3]
              refine ⟨?_, N3, rfl⟩
              simp [own_idc, nar, hc4_4, hc10_5, hc16_10, hc22_11, hc28_13, hc34_14]
          ·
            refine own_step (U' := (T3.setTop (mkF m 37 #[.val (.int p1)] []))) (fun t ht => XS.icmpYes X3.here hx rfl (pc0 := 28) (pc' := 37) rfl (hb hby own_d1_28) rfl (XT.ii_le_t hc28_13) (by decide) (by decide) ht) ?_
            refine own_step (U' := (T3.setTop (mkF m 38 #[.val (.int p1)] [(.int (1 : Int32))]))) (fun t ht => XS.iconst X3.here hx rfl (hb hby own_d1_37) ht) ?_
            refine own_step (U' := (T3.setTop (mkF m 42 #[.val (.int p1)] [(.int (1 : Int32))]))) (fun t ht => XS.goto X3.here hx rfl (pc0 := 38) (pc' := 42) rfl (hb hby own_d1_38) (by decide) (by decide) ht) ?_
            refine own_ret X3 (v := (some (.int (nar .boolean (1 : Int32))))) (fun h => by rw [Bd.returns] at h; cases h) Bd.notSynchronized (by decide) (by decide) ?_ (fun fs hr => retN X3 hx (t := .boolean) Bd.returns (by simp) (hb hby own_d1_42) hr)
            show own_Q_idc Z p1 h0 n0 _ T3.heap _
            rw [e3]
            refine ⟨?_, N3, rfl⟩
            simp [own_idc, nar, hc4_4, hc10_5, hc16_10, hc22_11, hc28_13]
      ·
        refine own_step (U' := (T3.setTop (mkF m 37 #[.val (.int p1)] []))) (fun t ht => XS.icmpYes X3.here hx rfl (pc0 := 16) (pc' := 37) rfl (hb hby own_d1_16) rfl (XT.ii_le_t hc16_10) (by decide) (by decide) ht) ?_
        refine own_step (U' := (T3.setTop (mkF m 38 #[.val (.int p1)] [(.int (1 : Int32))]))) (fun t ht => XS.iconst X3.here hx rfl (hb hby own_d1_37) ht) ?_
        refine own_step (U' := (T3.setTop (mkF m 42 #[.val (.int p1)] [(.int (1 : Int32))]))) (fun t ht => XS.goto X3.here hx rfl (pc0 := 38) (pc' := 42) rfl (hb hby own_d1_38) (by decide) (by decide) ht) ?_
        refine own_ret X3 (v := (some (.int (nar .boolean (1 : Int32))))) (fun h => by rw [Bd.returns] at h; cases h) Bd.notSynchronized (by decide) (by decide) ?_ (fun fs hr => retN X3 hx (t := .boolean) Bd.returns (by simp) (hb hby own_d1_42) hr)
        show own_Q_idc Z p1 h0 n0 _ T3.heap _
        rw [e3]
        refine ⟨?_, N3, rfl⟩
        simp [own_idc, nar, hc4_4, hc10_5, hc16_10]
  ·
    refine own_step (U' := (T3.setTop (mkF m 37 #[.val (.int p1)] []))) (fun t ht => XS.ifYes X3.here hx rfl (pc0 := 4) (pc' := 37) rfl (hb hby own_d1_4) rfl (XT.i0_ne_t hc4_4) (by decide) (by decide) ht) ?_
    refine own_step (U' := (T3.setTop (mkF m 38 #[.val (.int p1)] [(.int (1 : Int32))]))) (fun t ht => XS.iconst X3.here hx rfl (hb hby own_d1_37) ht) ?_
    refine own_step (U' := (T3.setTop (mkF m 42 #[.val (.int p1)] [(.int (1 : Int32))]))) (fun t ht => XS.goto X3.here hx rfl (pc0 := 38) (pc' := 42) rfl (hb hby own_d1_38) (by decide) (by decide) ht) ?_
    refine own_ret X3 (v := (some (.int (nar .boolean (1 : Int32))))) (fun h => by rw [Bd.returns] at h; cases h) Bd.notSynchronized (by decide) (by decide) ?_ (fun fs hr => retN X3 hx (t := .boolean) Bd.returns (by simp) (hb hby own_d1_42) hr)
    show own_Q_idc Z p1 h0 n0 _ T3.heap _
    rw [e3]
    refine ⟨?_, N3, rfl⟩
    simp [own_idc, nar, hc4_4]
theorem own_pn1 : plainName "com/example/version_parser/versionparser/SemVerReaderIsIdentifierCharacterPinLaw" = true := by first | (simp [plainName, overriddenIn]; done) | decide +kernel
theorem own_d3_0 : decode method_2_code 0 = .ok (.iload_n 0, 1) := by decide +kernel
theorem own_d3_1 : decode method_2_code 1 = .ok (.bipush 48, 2) := by decide +kernel
theorem own_d3_3 : decode method_2_code 3 = .ok (.if_icmp .lt 13, 3) := by decide +kernel
theorem own_d3_6 : decode method_2_code 6 = .ok (.iload_n 0, 1) := by decide +kernel
theorem own_d3_7 : decode method_2_code 7 = .ok (.bipush 58, 2) := by decide +kernel
theorem own_d3_9 : decode method_2_code 9 = .ok (.if_icmp .ge 7, 3) := by decide +kernel
theorem own_d3_12 : decode method_2_code 12 = .ok (.iconst 1, 1) := by decide +kernel
theorem own_d3_13 : decode method_2_code 13 = .ok (.goto 4, 3) := by decide +kernel
theorem own_d3_16 : decode method_2_code 16 = .ok (.iconst 0, 1) := by decide +kernel
theorem own_d3_17 : decode method_2_code 17 = .ok (.istore_n 1, 1) := by decide +kernel
theorem own_d3_18 : decode method_2_code 18 = .ok (.iload_n 0, 1) := by decide +kernel
theorem own_d3_19 : decode method_2_code 19 = .ok (.bipush 32, 2) := by decide +kernel
theorem own_d3_21 : decode method_2_code 21 = .ok (.ior, 1) := by decide +kernel
theorem own_d3_22 : decode method_2_code 22 = .ok (.istore_n 2, 1) := by decide +kernel
theorem own_d3_23 : decode method_2_code 23 = .ok (.iload_n 2, 1) := by decide +kernel
theorem own_d3_24 : decode method_2_code 24 = .ok (.bipush 97, 2) := by decide +kernel
theorem own_d3_26 : decode method_2_code 26 = .ok (.if_icmp .lt 13, 3) := by decide +kernel
theorem own_d3_29 : decode method_2_code 29 = .ok (.iload_n 2, 1) := by decide +kernel
theorem own_d3_30 : decode method_2_code 30 = .ok (.bipush 123, 2) := by decide +kernel
theorem own_d3_32 : decode method_2_code 32 = .ok (.if_icmp .ge 7, 3) := by decide +kernel
theorem own_d3_35 : decode method_2_code 35 = .ok (.iconst 1, 1) := by decide +kernel
theorem own_d3_36 : decode method_2_code 36 = .ok (.goto 4, 3) := by decide +kernel
theorem own_d3_39 : decode method_2_code 39 = .ok (.iconst 0, 1) := by decide +kernel
theorem own_d3_40 : decode method_2_code 40 = .ok (.istore_n 3, 1) := by decide +kernel
theorem own_d3_41 : decode method_2_code 41 = .ok (.iload_n 0, 1) := by decide +kernel
theorem own_d3_42 : decode method_2_code 42 = .ok (.bipush 45, 2) := by decide +kernel
theorem own_d3_44 : decode method_2_code 44 = .ok (.if_icmp .ne 7, 3) := by decide +kernel
theorem own_d3_47 : decode method_2_code 47 = .ok (.iconst 1, 1) := by decide +kernel
theorem own_d3_48 : decode method_2_code 48 = .ok (.goto 4, 3) := by decide +kernel
theorem own_d3_51 : decode method_2_code 51 = .ok (.iconst 0, 1) := by decide +kernel
theorem own_d3_52 : decode method_2_code 52 = .ok (.istore 4, 2) := by decide +kernel
theorem own_d3_54 : decode method_2_code 54 = .ok (.iload_n 1, 1) := by decide +kernel
theorem own_d3_55 : decode method_2_code 55 = .ok (.ifCond .ne 12, 3) := by decide +kernel
theorem own_d3_58 : decode method_2_code 58 = .ok (.iload_n 3, 1) := by decide +kernel
theorem own_d3_59 : decode method_2_code 59 = .ok (.ifCond .ne 8, 3) := by decide +kernel
theorem own_d3_62 : decode method_2_code 62 = .ok (.iload 4, 2) := by decide +kernel
theorem own_d3_64 : decode method_2_code 64 = .ok (.ifCond .eq 7, 3) := by decide +kernel
theorem own_d3_67 : decode method_2_code 67 = .ok (.iconst 1, 1) := by decide +kernel
theorem own_d3_68 : decode method_2_code 68 = .ok (.goto 4, 3) := by decide +kernel
theorem own_d3_71 : decode method_2_code 71 = .ok (.iconst 0, 1) := by decide +kernel
theorem own_d3_72 : decode method_2_code 72 = .ok (.ireturn, 1) := by decide +kernel
def own_Q_exp (Z : State) (p1 : Int32) (h0 : Heap) (n0 : Nat) (v : Option Value) (h : Heap) (L : List Loc) : Prop := v = some (.int (own_exp p1)) ∧ Fr n0 L ∧ h = h0
set_option maxRecDepth 65536 in
set_option maxHeartbeats 40000000 in
theorem own_m_exp (l : Launch) (Z : State) (a0 : Array Value) (hw : ∀ d ∈ tables_1, d.before a0 Z = true) (ws : List Jvm.Cond) (p1 : Int32) (h0 : Heap) (n0 : Nat) (Z0 : n0 ≤ h0.size)  :
    MetFree l (⟨"com/example/version_parser/versionparser/SemVerReaderIsIdentifierCharacterPinLaw", "expected", "(I)Z"⟩ : MethodName) (head1 (Jvm.Cond.code (⟨"com/example/version_parser/versionparser/SemVerReaderIsIdentifierCharacterPinLaw", "expected", "(I)Z"⟩ : MethodName) method_2_code 5 (some .boolean) :: ws) ({ frames := 0, cells := 0, slots := 0, locals := 0 } : Room)) (fun a U => a = #[(.int p1)] ∧ Z.Warmed39 U.vm ∧ U.heap = h0) (fun _ _ _ _ _ => True) (fun _ U o U' => ∃ v L, o = .returned v ∧ own_Q_exp Z p1 h0 n0 v U'.heap L ∧ FrameEnd U o U' L ({ frames := 0, cells := 0, slots := 0, locals := 0 } : Room).cells ({ frames := 0, cells := 0, slots := 0, locals := 0 } : Room).slots) := by
  refine MetFree.of_bodySF (plainFor_of_name own_pn1) hisR ?_
  intro p e s m args below meth c s₁ Bd hml0 hP hK
  obtain ⟨rfl, hZ, hh⟩ := hP
  have hx := Bd.exec
  have hby := Bd.bytes
  have hml : c.maxLocals = 5 := hml0
  have hown : s.vm.findClass "com/example/version_parser/versionparser/SemVerReaderIsIdentifierCharacterPinLaw" = some m.cls := findClass_of_methodNamed Bd.named
  have hnm := (name_of_methodNamed Bd.named Bd.method).1
  have X0 : Stand p l e ({ frames := 0, cells := 0, slots := 0, locals := 0 } : Room) s m #[(.int p1)] below meth c s₁ [] 0 0 := Stand.of_body Bd
  have e0 : s₁.heap = h0 := by rw [← hh, Bd.state]; rfl
  have N0 := Fr.nil n0
  have K0 : Keep h0 h0 [] := Keep.refl _ _
  show own_Go p e below s ({ frames := 0, cells := 0, slots := 0, locals := 0 } : Room).cells ({ frames := 0, cells := 0, slots := 0, locals := 0 } : Room).slots (own_Q_exp Z p1 h0 n0) (s₁.setTop (entryFrame m #[(.int p1)] 5))
  have ef : entryFrame m #[(.int p1)] 5 = (mkF m 0 #[.val (.int p1), .unset, .unset, .unset, .unset] []) := by first | rfl | (simp [entryFrame, mkF, argsToLocals, Value.category, maxLocals]; done)
  rw [ef]
  show own_Go p e below s _ _ _ (s₁.setTop (mkF m 0 #[.val (.int p1), .unset, .unset, .unset, .unset] []))
  refine own_step (U' := (s₁.setTop (mkF m 1 #[.val (.int p1), .unset, .unset, .unset, .unset] [(.int p1)]))) (fun t ht => XS.iloadN X0.here hx rfl (hb hby own_d3_0) rfl ht) ?_
  refine own_step (U' := (s₁.setTop (mkF m 3 #[.val (.int p1), .unset, .unset, .unset, .unset] [(.int (48 : Int32)), (.int p1)]))) (fun t ht => XS.bipush X0.here hx rfl (hb hby own_d3_1) ht) ?_
  by_cases hc3_15 : p1 < (48 : Int32)
  ·
    refine own_step (U' := (s₁.setTop (mkF m 16 #[.val (.int p1), .unset, .unset, .unset, .unset] []))) (fun t ht => XS.icmpYes X0.here hx rfl (pc0 := 3) (pc' := 16) rfl (hb hby own_d3_3) rfl (XT.ii_lt_t hc3_15) (by decide) (by decide) ht) ?_
    refine own_step (U' := (s₁.setTop (mkF m 17 #[.val (.int p1), .unset, .unset, .unset, .unset] [(.int (0 : Int32))]))) (fun t ht => XS.iconst X0.here hx rfl (hb hby own_d3_16) ht) ?_
    refine own_step (U' := (s₁.setTop (mkF m 18 #[.val (.int p1), .val (.int (0 : Int32)), .unset, .unset, .unset] []))) (fun t ht => XS.istoreN X0.here hx rfl (hb hby own_d3_17) rfl (l' := #[.val (.int p1), .val (.int (0 : Int32)), .unset, .unset, .unset]) rfl ht) ?_
    refine own_step (U' := (s₁.setTop (mkF m 19 #[.val (.int p1), .val (.int (0 : Int32)), .unset, .unset, .unset] [(.int p1)]))) (fun t ht => XS.iloadN X0.here hx rfl (hb hby own_d3_18) rfl ht) ?_
    refine own_step (U' := (s₁.setTop (mkF m 21 #[.val (.int p1), .val (.int (0 : Int32)), .unset, .unset, .unset] [(.int (32 : Int32)), (.int p1)]))) (fun t ht => XS.bipush X0.here hx rfl (hb hby own_d3_19) ht) ?_
    refine own_step (U' := (s₁.setTop (mkF m 22 #[.val (.int p1), .val (.int (0 : Int32)), .unset, .unset, .unset] [(.int (p1 ||| (32 : Int32)))]))) (fun t ht => XT.ior X0.here hx rfl (hb hby own_d3_21) rfl ht) ?_
    refine own_step (U' := (s₁.setTop (mkF m 23 #[.val (.int p1), .val (.int (0 : Int32)), .val (.int (p1 ||| (32 : Int32))), .unset, .unset] []))) (fun t ht => XS.istoreN X0.here hx rfl (hb hby own_d3_22) rfl (l' := #[.val (.int p1), .val (.int (0 : Int32)), .val (.int (p1 ||| (32 : Int32))), .unset, .unset]) rfl ht) ?_
    refine own_step (U' := (s₁.setTop (mkF m 24 #[.val (.int p1), .val (.int (0 : Int32)), .val (.int (p1 ||| (32 : Int32))), .unset, .unset] [(.int (p1 ||| (32 : Int32)))]))) (fun t ht => XS.iloadN X0.here hx rfl (hb hby own_d3_23) rfl ht) ?_
    refine own_step (U' := (s₁.setTop (mkF m 26 #[.val (.int p1), .val (.int (0 : Int32)), .val (.int (p1 ||| (32 : Int32))), .unset, .unset] [(.int (97 : Int32)), (.int (p1 ||| (32 : Int32)))]))) (fun t ht => XS.bipush X0.here hx rfl (hb hby own_d3_24) ht) ?_
    by_cases hc26_16 : (p1 ||| (32 : Int32)) < (97 : Int32)
    ·
      refine own_step (U' := (s₁.setTop (mkF m 39 #[.val (.int p1), .val (.int (0 : Int32)), .val (.int (p1 ||| (32 : Int32))), .unset, .unset] []))) (fun t ht => XS.icmpYes X0.here hx rfl (pc0 := 26) (pc' := 39) rfl (hb hby own_d3_26) rfl (XT.ii_lt_t hc26_16) (by decide) (by decide) ht) ?_
      refine own_step (U' := (s₁.setTop (mkF m 40 #[.val (.int p1), .val (.int (0 : Int32)), .val (.int (p1 ||| (32 : Int32))), .unset, .unset] [(.int (0 : Int32))]))) (fun t ht => XS.iconst X0.here hx rfl (hb hby own_d3_39) ht) ?_
      refine own_step (U' := (s₁.setTop (mkF m 41 #[.val (.int p1), .val (.int (0 : Int32)), .val (.int (p1 ||| (32 : Int32))), .val (.int (0 : Int32)), .unset] []))) (fun t ht => XS.istoreN X0.here hx rfl (hb hby own_d3_40) rfl (l' := #[.val (.int p1), .val (.int (0 : Int32)), .val (.int (p1 ||| (32 : Int32))), .val (.int (0 : Int32)), .unset]) rfl ht) ?_
      refine own_step (U' := (s₁.setTop (mkF m 42 #[.val (.int p1), .val (.int (0 : Int32)), .val (.int (p1 ||| (32 : Int32))), .val (.int (0 : Int32)), .unset] [(.int p1)]))) (fun t ht => XS.iloadN X0.here hx rfl (hb hby own_d3_41) rfl ht) ?_
      refine own_step (U' := (s₁.setTop (mkF m 44 #[.val (.int p1), .val (.int (0 : Int32)), .val (.int (p1 ||| (32 : Int32))), .val (.int (0 : Int32)), .unset] [(.int (45 : Int32)), (.int p1)]))) (fun t ht => XS.bipush X0.here hx rfl (hb hby own_d3_42) ht) ?_
      by_cases hc44_17 : p1 = (45 : Int32)
      ·
        refine own_step (U' := (s₁.setTop (mkF m 47 #[.val (.int p1), .val (.int (0 : Int32)), .val (.int (p1 ||| (32 : Int32))), .val (.int (0 : Int32)), .unset] []))) (fun t ht => XS.icmpNo X0.here hx rfl (hb hby own_d3_44) rfl (XT.ii_ne_f hc44_17) ht) ?_
        refine own_step (U' := (s₁.setTop (mkF m 48 #[.val (.int p1), .val (.int (0 : Int32)), .val (.int (p1 ||| (32 : Int32))), .val (.int (0 : Int32)), .unset] [(.int (1 : Int32))]))) (fun t ht => XS.iconst X0.here hx rfl (hb hby own_d3_47) ht) ?_
        refine own_step (U' := (s₁.setTop (mkF m 52 #[.val (.int p1), .val (.int (0 : Int32)), .val (.int (p1 ||| (32 : Int32))), .val (.int (0 : Int32)), .unset] [(.int (1 : Int32))]))) (fun t ht => XS.goto X0.here hx rfl (pc0 := 48) (pc' := 52) rfl (hb hby own_d3_48) (by decide) (by decide) ht) ?_
        refine own_step (U' := (s₁.setTop (mkF m 54 #[.val (.int p1), .val (.int (0 : Int32)), .val (.int (p1 ||| (32 : Int32))), .val (.int (0 : Int32)), .val (.int (1 : Int32))] []))) (fun t ht => XS.istore X0.here hx rfl (hb hby own_d3_52) rfl (l' := #[.val (.int p1), .val (.int (0 : Int32)), .val (.int (p1 ||| (32 : Int32))), .val (.int (0 : Int32)), .val (.int (1 : Int32))]) rfl ht) ?_
        refine own_step (U' := (s₁.setTop (mkF m 55 #[.val (.int p1), .val (.int (0 : Int32)), .val (.int (p1 ||| (32 : Int32))), .val (.int (0 : Int32)), .val (.int (1 : Int32))] [(.int (0 : Int32))]))) (fun t ht => XS.iloadN X0.here hx rfl (hb hby own_d3_54) rfl ht) ?_
        refine own_step (U' := (s₁.setTop (mkF m 58 #[.val (.int p1), .val (.int (0 : Int32)), .val (.int (p1 ||| (32 : Int32))), .val (.int (0 : Int32)), .val (.int (1 : Int32))] []))) (fun t ht => XS.ifNo X0.here hx rfl (hb hby own_d3_55) rfl (XT.i0_ne_f ((by decide) : (0 : Int32) = 0)) ht) ?_
        refine own_step (U' := (s₁.setTop (mkF m 59 #[.val (.int p1), .val (.int (0 : Int32)), .val (.int (p1 ||| (32 : Int32))), .val (.int (0 : Int32)), .val (.int (1 : Int32))] [(.int (0 : Int32))]))) (fun t ht => XS.iloadN X0.here hx rfl (hb hby own_d3_58) rfl ht) ?_
        refine own_step (U' := (s₁.setTop (mkF m 62 #[.val (.int p1), .val (.int (0 : Int32)), .val (.int (p1 ||| (32 : Int32))), .val (.int (0 : Int32)), .val (.int (1 : Int32))] []))) (fun t ht => XS.ifNo X0.here hx rfl (hb hby own_d3_59) rfl (XT.i0_ne_f ((by decide) : (0 : Int32) = 0)) ht) ?_
        refine own_step (U' := (s₁.setTop (mkF m 64 #[.val (.int p1), .val (.int (0 : Int32)), .val (.int (p1 ||| (32 : Int32))), .val (.int (0 : Int32)), .val (.int (1 : Int32))] [(.int (1 : Int32))]))) (fun t ht => XS.iload X0.here hx rfl (hb hby own_d3_62) rfl ht) ?_
        refine own_step (U' := (s₁.setTop (mkF m 67 #[.val (.int p1), .val (.int (0 : Int32)), .val (.int (p1 ||| (32 : Int32))), .val (.int (0 : Int32)), .val (.int (1 : Int32))] []))) (fun t ht => XS.ifNo X0.here hx rfl (hb hby own_d3_64) rfl (XT.i0_eq_f ((by decide) : ¬ ((1 : Int32) = 0))) ht) ?_
        refine own_step (U' := (s₁.setTop (mkF m 68 #[.val (.int p1), .val (.int (0 : Int32)), .val (.int (p1 ||| (32 : Int32))), .val (.int (0 : Int32)), .val (.int (1 : Int32))] [(.int (1 : Int32))]))) (fun t ht => XS.iconst X0.here hx rfl (hb hby own_d3_67) ht) ?_
        refine own_step (U' := (s₁.setTop (mkF m 72 #[.val (.int p1), .val (.int (0 : Int32)), .val (.int (p1 ||| (32 : Int32))), .val (.int (0 : Int32)), .val (.int (1 : Int32))] [(.int (1 : Int32))]))) (fun t ht => XS.goto X0.here hx rfl (pc0 := 68) (pc' := 72) rfl (hb hby own_d3_68) (by decide) (by decide) ht) ?_
        refine own_ret X0 (v := (some (.int (nar .boolean (1 : Int32))))) (fun h => by rw [Bd.returns] at h; cases h) Bd.notSynchronized (by decide) (by decide) ?_ (fun fs hr => retN X0 hx (t := .boolean) Bd.returns (by simp) (hb hby own_d3_72) hr)
        show own_Q_exp Z p1 h0 n0 _ s₁.heap _
        rw [e0]
        refine ⟨?_, N0, rfl⟩
        simp [own_exp, nar, hc3_15, hc26_16, hc44_17]
      ·
        refine own_step (U' := (s₁.setTop (mkF m 51 #[.val (.int p1), .val (.int (0 : Int32)), .val (.int (p1 ||| (32 : Int32))), .val (.int (0 : Int32)), .unset] []))) (fun t ht => XS.icmpYes X0.here hx rfl (pc0 := 44) (pc' := 51) rfl (hb hby own_d3_44) rfl (XT.ii_ne_t hc44_17) (by decide) (by decide) ht) ?_
        refine own_step (U' := (s₁.setTop (mkF m 52 #[.val (.int p1), .val (.int (0 : Int32)), .val (.int (p1 ||| (32 : Int32))), .val (.int (0 : Int32)), .unset] [(.int (0 : Int32))]))) (fun t ht => XS.iconst X0.here hx rfl (hb hby own_d3_51) ht) ?_
        refine own_step (U' := (s₁.setTop (mkF m 54 #[.val (.int p1), .val (.int (0 : Int32)), .val (.int (p1 ||| (32 : Int32))), .val (.int (0 : Int32)), .val (.int (0 : Int32))] []))) (fun t ht => XS.istore X0.here hx rfl (hb hby own_d3_52) rfl (l' := #[.val (.int p1), .val (.int (0 : Int32)), .val (.int (p1 ||| (32 : Int32))), .val (.int (0 : Int32)), .val (.int (0 : Int32))]) rfl ht) ?_
        refine own_step (U' := (s₁.setTop (mkF m 55 #[.val (.int p1), .val (.int (0 : Int32)), .val (.int (p1 ||| (32 : Int32))), .val (.int (0 : Int32)), .val (.int (0 : Int32))] [(.int (0 : Int32))]))) (fun t ht => XS.iloadN X0.here hx rfl (hb hby own_d3_54) rfl ht) ?_
        refine own_step (U' := (s₁.setTop (mkF m 58 #[.val (.int p1), .val (.int (0 : Int32)), .val (.int (p1 ||| (32 : Int32))), .val (.int (0 : Int32)), .val (.int (0 : Int32))] []))) (fun t ht => XS.ifNo X0.here hx rfl (hb hby own_d3_55) rfl (XT.i0_ne_f ((by decide) : (0 : Int32) = 0)) ht) ?_
        refine own_step (U' := (s₁.setTop (mkF m 59 #[.val (.int p1), .val (.int (0 : Int32)), .val (.int (p1 ||| (32 : Int32))), .val (.int (0 : Int32)), .val (.int (0 : Int32))] [(.int (0 : Int32))]))) (fun t ht => XS.iloadN X0.here hx rfl (hb hby own_d3_58) rfl ht) ?_
        refine own_step (U' := (s₁.setTop (mkF m 62 #[.val (.int p1), .val (.int (0 : Int32)), .val (.int (p1 ||| (32 : Int32))), .val (.int (0 : Int32)), .val (.int (0 : Int32))] []))) (fun t ht => XS.ifNo X0.here hx rfl (hb hby own_d3_59) rfl (XT.i0_ne_f ((by decide) : (0 : Int32) = 0)) ht) ?_
        refine own_step (U' := (s₁.setTop (mkF m 64 #[.val (.int p1), .val (.int (0 : Int32)), .val (.int (p1 ||| (32 : Int32))), .val (.int (0 : Int32)), .val (.int (0 : Int32))] [(.int (0 : Int32))]))) (fun t ht => XS.iload X0.here hx rfl (hb hby own_d3_62) rfl ht) ?_
        refine own_step (U' := (s₁.setTop (mkF m 71 #[.val (.int p1), .val (.int (0 : Int32)), .val (.int (p1 ||| (32 : Int32))), .val (.int (0 : Int32)), .val (.int (0 : Int32))] []))) (fun t ht => XS.ifYes X0.here hx rfl (pc0 := 64) (pc' := 71) rfl (hb hby own_d3_64) rfl (XT.i0_eq_t ((by decide) : (0 : Int32) = 0)) (by decide) (by decide) ht) ?_
        refine own_step (U' := (s₁.setTop (mkF m 72 #[.val (.int p1), .val (.int (0 : Int32)), .val (.int (p1 ||| (32 : Int32))), .val (.int (0 : Int32)), .val (.int (0 : Int32))] [(.int (0 : Int32))]))) (fun t ht => XS.iconst X0.here hx rfl (hb hby own_d3_71) ht) ?_
        refine own_ret X0 (v := (some (.int (nar .boolean (0 : Int32))))) (fun h => by rw [Bd.returns] at h; cases h) Bd.notSynchronized (by decide) (by decide) ?_ (fun fs hr => retN X0 hx (t := .boolean) Bd.returns (by simp) (hb hby own_d3_72) hr)
        show own_Q_exp Z p1 h0 n0 _ s₁.heap _
        rw [e0]
        refine ⟨?_, N0, rfl⟩
        simp [own_exp, nar, hc3_15, hc26_16, hc44_17]
    ·
      refine own_step (U' := (s₁.setTop (mkF m 29 #[.val (.int p1), .val (.int (0 : Int32)), .val (.int (p1 ||| (32 : Int32))), .unset, .unset] []))) (fun t ht => XS.icmpNo X0.here hx rfl (hb hby own_d3_26) rfl (XT.ii_lt_f hc26_16) ht) ?_
      refine own_step (U' := (s₁.setTop (mkF m 30 #[.val (.int p1), .val (.int (0 : Int32)), .val (.int (p1 ||| (32 : Int32))), .unset, .unset] [(.int (p1 ||| (32 : Int32)))]))) (fun t ht => XS.iloadN X0.here hx rfl (hb hby own_d3_29) rfl ht) ?_
      refine own_step (U' := (s₁.setTop (mkF m 32 #[.val (.int p1), .val (.int (0 : Int32)), .val (.int (p1 ||| (32 : Int32))), .unset, .unset] [(.int (123 : Int32)), (.int (p1 ||| (32 : Int32)))]))) (fun t ht => XS.bipush X0.here hx rfl (hb hby own_d3_30) ht) ?_
      by_cases hc32_18 : (p1 ||| (32 : Int32)) < (123 : Int32)
      ·
        refine own_step (U' := (s₁.setTop (mkF m 35 #[.val (.int p1), .val (.int (0 : Int32)), .val (.int (p1 ||| (32 : Int32))), .unset, .unset] []))) (fun t ht => XS.icmpNo X0.here hx rfl (hb hby own_d3_32) rfl (XT.ii_ge_f hc32_18) ht) ?_
        refine own_step (U' := (s₁.setTop (mkF m 36 #[.val (.int p1), .val (.int (0 : Int32)), .val (.int (p1 ||| (32 : Int32))), .unset, .unset] [(.int (1 : Int32))]))) (fun t ht => XS.iconst X0.here hx rfl (hb hby own_d3_35) ht) ?_
        refine own_step (U' := (s₁.setTop (mkF m 40 #[.val (.int p1), .val (.int (0 : Int32)), .val (.int (p1 ||| (32 : Int32))), .unset, .unset] [(.int (1 : Int32))]))) (fun t ht => XS.goto X0.here hx rfl (pc0 := 36) (pc' := 40) rfl (hb hby own_d3_36) (by decide) (by decide) ht) ?_
        refine own_step (U' := (s₁.setTop (mkF m 41 #[.val (.int p1), .val (.int (0 : Int32)), .val (.int (p1 ||| (32 : Int32))), .val (.int (1 : Int32)), .unset] []))) (fun t ht => XS.istoreN X0.here hx rfl (hb hby own_d3_40) rfl (l' := #[.val (.int p1), .val (.int (0 : Int32)), .val (.int (p1 ||| (32 : Int32))), .val (.int (1 : Int32)), .unset]) rfl ht) ?_
        refine own_step (U' := (s₁.setTop (mkF m 42 #[.val (.int p1), .val (.int (0 : Int32)), .val (.int (p1 ||| (32 : Int32))), .val (.int (1 : Int32)), .unset] [(.int p1)]))) (fun t ht => XS.iloadN X0.here hx rfl (hb hby own_d3_41) rfl ht) ?_
        refine own_step (U' := (s₁.setTop (mkF m 44 #[.val (.int p1), .val (.int (0 : Int32)), .val (.int (p1 ||| (32 : Int32))), .val (.int (1 : Int32)), .unset] [(.int (45 : Int32)), (.int p1)]))) (fun t ht => XS.bipush X0.here hx rfl (hb hby own_d3_42) ht) ?_
        by_cases hc44_19 : p1 = (45 : Int32)
        ·
          refine own_step (U' := (s₁.setTop (mkF m 47 #[.val (.int p1), .val (.int (0 : Int32)), .val (.int (p1 ||| (32 : Int32))), .val (.int (1 : Int32)), .unset] []))) (fun t ht => XS.icmpNo X0.here hx rfl (hb hby own_d3_44) rfl (XT.ii_ne_f hc44_19) ht) ?_
          refine own_step (U' := (s₁.setTop (mkF m 48 #[.val (.int p1), .val (.int (0 : Int32)), .val (.int (p1 ||| (32 : Int32))), .val (.int (1 : Int32)), .unset] [(.int (1 : Int32))]))) (fun t ht => XS.iconst X0.here hx rfl (hb hby own_d3_47) ht) ?_
          refine own_step (U' := (s₁.setTop (mkF m 52 #[.val (.int p1), .val (.int (0 : Int32)), .val (.int (p1 ||| (32 : Int32))), .val (.int (1 : Int32)), .unset] [(.int (1 : Int32))]))) (fun t ht => XS.goto X0.here hx rfl (pc0 := 48) (pc' := 52) rfl (hb hby own_d3_48) (by decide) (by decide) ht) ?_
          refine own_step (U' := (s₁.setTop (mkF m 54 #[.val (.int p1), .val (.int (0 : Int32)), .val (.int (p1 ||| (32 : Int32))), .val (.int (1 : Int32)), .val (.int (1 : Int32))] []))) (fun t ht => XS.istore X0.here hx rfl (hb hby own_d3_52) rfl (l' := #[.val (.int p1), .val (.int (0 : Int32)), .val (.int (p1 ||| (32 : Int32))), .val (.int (1 : Int32)), .val (.int (1 : Int32))]) rfl ht) ?_
          refine own_step (U' := (s₁.setTop (mkF m 55 #[.val (.int p1), .val (.int (0 : Int32)), .val (.int (p1 ||| (32 : Int32))), .val (.int (1 : Int32)), .val (.int (1 : Int32))] [(.int (0 : Int32))]))) (fun t ht => XS.iloadN X0.here hx rfl (hb hby own_d3_54) rfl ht) ?_
          refine own_step (U' := (s₁.setTop (mkF m 58 #[.val (.int p1), .val (.int (0 : Int32)), .val (.int (p1 ||| (32 : Int32))), .val (.int (1 : Int32)), .val (.int (1 : Int32))] []))) (fun t ht => XS.ifNo X0.here hx rfl (hb hby own_d3_55) rfl (XT.i0_ne_f ((by decide) : (0 : Int32) = 0)) ht) ?_
          refine own_step (U' := (s₁.setTop (mkF m 59 #[.val (.int p1), .val (.int (0 : Int32)), .val (.int (p1 ||| (32 : Int32))), .val (.int (1 : Int32)), .val (.int (1 : Int32))] [(.int (1 : Int32))]))) (fun t ht => XS.iloadN X0.here hx rfl (hb hby own_d3_58) rfl ht) ?_
          refine own_step (U' := (s₁.setTop (mkF m 67 #[.val (.int p1), .val (.int (0 : Int32)), .val (.int (p1 ||| (32 : Int32))), .val (.int (1 : Int32)), .val (.int (1 : Int32))] []))) (fun t ht => XS.ifYes X0.here hx rfl (pc0 := 59) (pc' := 67) rfl (hb hby own_d3_59) rfl (XT.i0_ne_t ((by decide) : ¬ ((1 : Int32) = 0))) (by decide) (by decide) ht) ?_
          refine own_step (U' := (s₁.setTop (mkF m 68 #[.val (.int p1), .val (.int (0 : Int32)), .val (.int (p1 ||| (32 : Int32))), .val (.int (1 : Int32)), .val (.int (1 : Int32))] [(.int (1 : Int32))]))) (fun t ht => XS.iconst X0.here hx rfl (hb hby own_d3_67) ht) ?_
          refine own_step (U' := (s₁.setTop (mkF m 72 #[.val (.int p1), .val (.int (0 : Int32)), .val (.int (p1 ||| (32 : Int32))), .val (.int (1 : Int32)), .val (.int (1 : Int32))] [(.int (1 : Int32))]))) (fun t ht => XS.goto X0.here hx rfl (pc0 := 68) (pc' := 72) rfl (hb hby own_d3_68) (by decide) (by decide) ht) ?_
          refine own_ret X0 (v := (some (.int (nar .boolean (1 : Int32))))) (fun h => by rw [Bd.returns] at h; cases h) Bd.notSynchronized (by decide) (by decide) ?_ (fun fs hr => retN X0 hx (t := .boolean) Bd.returns (by simp) (hb hby own_d3_72) hr)
          show own_Q_exp Z p1 h0 n0 _ s₁.heap _
          rw [e0]
          refine ⟨?_, N0, rfl⟩
          simp [own_exp, nar, hc3_15, hc26_16, hc32_18, hc44_19]
        ·
          refine own_step (U' := (s₁.setTop (mkF m 51 #[.val (.int p1), .val (.int (0 : Int32)), .val (.int (p1 ||| (32 : Int32))), .val (.int (1 : Int32)), .unset] []))) (fun t ht => XS.icmpYes X0.here hx rfl (pc0 := 44) (pc' := 51) rfl (hb hby own_d3_44) rfl (XT.ii_ne_t hc44_19) (by decide) (by decide) ht) ?_
          refine own_step (U' := (s₁.setTop (mkF m 52 #[.val (.int p1), .val (.int (0 : Int32)), .val (.int (p1 ||| (32 : Int32))), .val (.int (1 : Int32)), .unset] [(.int (0 : Int32))]))) (fun t ht => XS.iconst X0.here hx rfl (hb hby own_d3_51) ht) ?_
          refine own_step (U' := (s₁.setTop (mkF m 54 #[.val (.int p1), .val (.int (0 : Int32)), .val (.int (p1 ||| (32 : Int32))), .val (.int (1 : Int32)), .val (.int (0 : Int32))] []))) (fun t ht => XS.istore X0.here hx rfl (hb hby own_d3_52) rfl (l' := #[.val (.int p1), .val (.int (0 : Int32)), .val (.int (p1 ||| (32 : Int32))), .val (.int (1 : Int32)), .val (.int (0 : Int32))]) rfl ht) ?_
          refine own_step (U' := (s₁.setTop (mkF m 55 #[.val (.int p1), .val (.int (0 : Int32)), .val (.int (p1 ||| (32 : Int32))), .val (.int (1 : Int32)), .val (.int (0 : Int32))] [(.int (0 : Int32))]))) (fun t ht => XS.iloadN X0.here hx rfl (hb hby own_d3_54) rfl ht) ?_
          refine own_step (U' := (s₁.setTop (mkF m 58 #[.val (.int p1), .val (.int (0 : Int32)), .val (.int (p1 ||| (32 : Int32))), .val (.int (1 : Int32)), .val (.int (0 : Int32))] []))) (fun t ht => XS.ifNo X0.here hx rfl (hb hby own_d3_55) rfl (XT.i0_ne_f ((by decide) : (0 : Int32) = 0)) ht) ?_
          refine own_step (U' := (s₁.setTop (mkF m 59 #[.val (.int p1), .val (.int (0 : Int32)), .val (.int (p1 ||| (32 : Int32))), .val (.int (1 : Int32)), .val (.int (0 : Int32))] [(.int (1 : Int32))]))) (fun t ht => XS.iloadN X0.here hx rfl (hb hby own_d3_58) rfl ht) ?_
          refine own_step (U' := (s₁.setTop (mkF m 67 #[.val (.int p1), .val (.int (0 : Int32)), .val (.int (p1 ||| (32 : Int32))), .val (.int (1 : Int32)), .val (.int (0 : Int32))] []))) (fun t ht => XS.ifYes X0.here hx rfl (pc0 := 59) (pc' := 67) rfl (hb hby own_d3_59) rfl (XT.i0_ne_t ((by decide) : ¬ ((1 : Int32) = 0))) (by decide) (by decide) ht) ?_
          refine own_step (U' := (s₁.setTop (mkF m 68 #[.val (.int p1), .val (.int (0 : Int32)), .val (.int (p1 ||| (32 : Int32))), .val (.int (1 : Int32)), .val (.int (0 : Int32))] [(.int (1 : Int32))]))) (fun t ht => XS.iconst X0.here hx rfl (hb hby own_d3_67) ht) ?_
          refine own_step (U' := (s₁.setTop (mkF m 72 #[.val (.int p1), .val (.int (0 : Int32)), .val (.int (p1 ||| (32 : Int32))), .val (.int (1 : Int32)), .val (.int (0 : Int32))] [(.int (1 : Int32))]))) (fun t ht => XS.goto X0.here hx rfl (pc0 := 68) (pc' := 72) rfl (hb hby own_d3_68) (by decide) (by decide) ht) ?_
          refine own_ret X0 (v := (some (.int (nar .boolean (1 : Int32))))) (fun h => by rw [Bd.returns] at h; cases h) Bd.notSynchronized (by decide) (by decide) ?_ (fun fs hr => retN X0 hx (t := .boolean) Bd.returns (by simp) (hb hby own_d3_72) hr)
          show own_Q_exp Z p1 h0 n0 _ s₁.heap _
          rw [e0]
          refine ⟨?_, N0, rfl⟩
          simp [own_exp, nar, hc3_15, hc26_16, hc32_18, hc44_19]
      ·
        refine own_step (U' := (s₁.setTop (mkF m 39 #[.val (.int p1), .val (.int (0 : Int32)), .val (.int (p1 ||| (32 : Int32))), .unset, .unset] []))) (fun t ht => XS.icmpYes X0.here hx rfl (pc0 := 32) (pc' := 39) rfl (hb hby own_d3_32) rfl (XT.ii_ge_t hc32_18) (by decide) (by decide) ht) ?_
        refine own_step (U' := (s₁.setTop (mkF m 40 #[.val (.int p1), .val (.int (0 : Int32)), .val (.int (p1 ||| (32 : Int32))), .unset, .unset] [(.int (0 : Int32))]))) (fun t ht => XS.iconst X0.here hx rfl (hb hby own_d3_39) ht) ?_
        refine own_step (U' := (s₁.setTop (mkF m 41 #[.val (.int p1), .val (.int (0 : Int32)), .val (.int (p1 ||| (32 : Int32))), .val (.int (0 : Int32)), .unset] []))) (fun t ht => XS.istoreN X0.here hx rfl (hb hby own_d3_40) rfl (l' := #[.val (.int p1), .val (.int (0 : Int32)), .val (.int (p1 ||| (32 : Int32))), .val (.int (0 : Int32)), .unset]) rfl ht) ?_
        refine own_step (U' := (s₁.setTop (mkF m 42 #[.val (.int p1), .val (.int (0 : Int32)), .val (.int (p1 ||| (32 : Int32))), .val (.int (0 : Int32)), .unset] [(.int p1)]))) (fun t ht => XS.iloadN X0.here hx rfl (hb hby own_d3_41) rfl ht) ?_
        refine own_step (U' := (s₁.setTop (mkF m 44 #[.val (.int p1), .val (.int (0 : Int32)), .val (.int (p1 ||| (32 : Int32))), .val (.int (0 : Int32)), .unset] [(.int (45 : Int32)), (.int p1)]))) (fun t ht => XS.bipush X0.here hx rfl (hb hby own_d3_42) ht) ?_
        by_cases hc44_20 : p1 = (45 : Int32)
        ·
          refine own_step (U' := (s₁.setTop (mkF m 47 #[.val (.int p1), .val (.int (0 : Int32)), .val (.int (p1 ||| (32 : Int32))), .val (.int (0 : Int32)), .unset] []))) (fun t ht => XS.icmpNo X0.here hx rfl (hb hby own_d3_44) rfl (XT.ii_ne_f hc44_20) ht) ?_
          refine own_step (U' := (s₁.setTop (mkF m 48 #[.val (.int p1), .val (.int (0 : Int32)), .val (.int (p1 ||| (32 : Int32))), .val (.int (0 : Int32)), .unset] [(.int (1 : Int32))]))) (fun t ht => XS.iconst X0.here hx rfl (hb hby own_d3_47) ht) ?_
          refine own_step (U' := (s₁.setTop (mkF m 52 #[.val (.int p1), .val (.int (0 : Int32)), .val (.int (p1 ||| (32 : Int32))), .val (.int (0 : Int32)), .unset] [(.int (1 : Int32))]))) (fun t ht => XS.goto X0.here hx rfl (pc0 := 48) (pc' := 52) rfl (hb hby own_d3_48) (by decide) (by decide) ht) ?_
          refine own_step (U' := (s₁.setTop (mkF m 54 #[.val (.int p1), .val (.int (0 : Int32)), .val (.int (p1 ||| (32 : Int32))), .val (.int (0 : Int32)), .val (.int (1 : Int32))] []))) (fun t ht => XS.istore X0.here hx rfl (hb hby own_d3_52) rfl (l' := #[.val (.int p1), .val (.int (0 : Int32)), .val (.int (p1 ||| (32 : Int32))), .val (.int (0 : Int32)), .val (.int (1 : Int32))]) rfl ht) ?_
          refine own_step (U' := (s₁.setTop (mkF m 55 #[.val (.int p1), .val (.int (0 : Int32)), .val (.int (p1 ||| (32 : Int32))), .val (.int (0 : Int32)), .val (.int (1 : Int32))] [(.int (0 : Int32))]))) (fun t ht => XS.iloadN X0.here hx rfl (hb hby own_d3_54) rfl ht) ?_
          refine own_step (U' := (s₁.setTop (mkF m 58 #[.val (.int p1), .val (.int (0 : Int32)), .val (.int (p1 ||| (32 : Int32))), .val (.int (0 : Int32)), .val (.int (1 : Int32))] []))) (fun t ht => XS.ifNo X0.here hx rfl (hb hby own_d3_55) rfl (XT.i0_ne_f ((by decide) : (0 : Int32) = 0)) ht) ?_
          refine own_step (U' := (s₁.setTop (mkF m 59 #[.val (.int p1), .val (.int (0 : Int32)), .val (.int (p1 ||| (32 : Int32))), .val (.int (0 : Int32)), .val (.int (1 : Int32))] [(.int (0 : Int32))]))) (fun t ht => XS.iloadN X0.here hx rfl (hb hby own_d3_58) rfl ht) ?_
          refine own_step (U' := (s₁.setTop (mkF m 62 #[.val (.int p1), .val (.int (0 : Int32)), .val (.int (p1 ||| (32 : Int32))), .val (.int (0 : Int32)), .val (.int (1 : Int32))] []))) (fun t ht => XS.ifNo X0.here hx rfl (hb hby own_d3_59) rfl (XT.i0_ne_f ((by decide) : (0 : Int32) = 0)) ht) ?_
          refine own_step (U' := (s₁.setTop (mkF m 64 #[.val (.int p1), .val (.int (0 : Int32)), .val (.int (p1 ||| (32 : Int32))), .val (.int (0 : Int32)), .val (.int (1 : Int32))] [(.int (1 : Int32))]))) (fun t ht => XS.iload X0.here hx rfl (hb hby own_d3_62) rfl ht) ?_
          refine own_step (U' := (s₁.setTop (mkF m 67 #[.val (.int p1), .val (.int (0 : Int32)), .val (.int (p1 ||| (32 : Int32))), .val (.int (0 : Int32)), .val (.int (1 : Int32))] []))) (fun t ht => XS.ifNo X0.here hx rfl (hb hby own_d3_64) rfl (XT.i0_eq_f ((by decide) : ¬ ((1 : Int32) = 0))) ht) ?_
          refine own_step (U' := (s₁.setTop (mkF m 68 #[.val (.int p1), .val (.int (0 : Int32)), .val (.int (p1 ||| (32 : Int32))), .val (.int (0 : Int32)), .val (.int (1 : Int32))] [(.int (1 : Int32))]))) (fun t ht => XS.iconst X0.here hx rfl (hb hby own_d3_67) ht) ?_
          refine own_step (U' := (s₁.setTop (mkF m 72 #[.val (.int p1), .val (.int (0 : Int32)), .val (.int (p1 ||| (32 : Int32))), .val (.int (0 : Int32)), .val (.int (1 : Int32))] [(.int (1 : Int32))]))) (fun t ht => XS.goto X0.here hx rfl (pc0 := 68) (pc' := 72) rfl (hb hby own_d3_68) (by decide) (by decide) ht) ?_
          refine own_ret X0 (v := (some (.int (nar .boolean (1 : Int32))))) (fun h => by rw [Bd.returns] at h; cases h) Bd.notSynchronized (by decide) (by decide) ?_ (fun fs hr => retN X0 hx (t := .boolean) Bd.returns (by simp) (hb hby own_d3_72) hr)
          show own_Q_exp Z p1 h0 n0 _ s₁.heap _
          rw [e0]
          refine ⟨?_, N0, rfl⟩
          simp [own_exp, nar, hc3_15, hc26_16, hc32_18, hc44_20]
        ·
          refine own_step (U' := (s₁.setTop (mkF m 51 #[.val (.int p1), .val (.int (0 : Int32)), .val (.int (p1 ||| (32 : Int32))), .val (.int (0 : Int32)), .unset] []))) (fun t ht => XS.icmpYes X0.here hx rfl (pc0 := 44) (pc' := 51) rfl (hb hby own_d3_44) rfl (XT.ii_ne_t hc44_20) (by decide) (by decide) ht) ?_
          refine own_step (U' := (s₁.setTop (mkF m 52 #[.val (.int p1), .val (.int (0 : Int32)), .val (.int (p1 ||| (32 : Int32))), .val (.int (0 : Int32)), .unset] [(.int (0 : Int32))]))) (fun t ht => XS.iconst X0.here hx rfl (hb hby own_d3_51) ht) ?_
          refine own_step (U' := (s₁.setTop (mkF m 54 #[.val (.int p1), .val (.int (0 : Int32)), .val (.int (p1 ||| (32 : Int32))), .val (.int (0 : Int32)), .val (.int (0 : Int32))] []))) (fun t ht => XS.istore X0.here hx rfl (hb hby own_d3_52) rfl (l' := #[.val (.int p1), .val (.int (0 : Int32)), .val (.int (p1 ||| (32 : Int32))), .val (.int (0 : Int32)), .val (.int (0 : Int32))]) rfl ht) ?_
          refine own_step (U' := (s₁.setTop (mkF m 55 #[.val (.int p1), .val (.int (0 : Int32)), .val (.int (p1 ||| (32 : Int32))), .val (.int (0 : Int32)), .val (.int (0 : Int32))] [(.int (0 : Int32))]))) (fun t ht => XS.iloadN X0.here hx rfl (hb hby own_d3_54) rfl ht) ?_
          refine own_step (U' := (s₁.setTop (mkF m 58 #[.val (.int p1), .val (.int (0 : Int32)), .val (.int (p1 ||| (32 : Int32))), .val (.int (0 : Int32)), .val (.int (0 : Int32))] []))) (fun t ht => XS.ifNo X0.here hx rfl (hb hby own_d3_55) rfl (XT.i0_ne_f ((by decide) : (0 : Int32) = 0)) ht) ?_
          refine own_step (U' := (s₁.setTop (mkF m 59 #[.val (.int p1), .val (.int (0 : Int32)), .val (.int (p1 ||| (32 : Int32))), .val (.int (0 : Int32)), .val (.int (0 : Int32))] [(.int (0 : Int32))]))) (fun t ht => XS.iloadN X0.here hx rfl (hb hby own_d3_58) rfl ht) ?_
          refine own_step (U' := (s₁.setTop (mkF m 62 #[.val (.int p1), .val (.int (0 : Int32)), .val (.int (p1 ||| (32 : Int32))), .val (.int (0 : Int32)), .val (.int (0 : Int32))] []))) (fun t ht => XS.ifNo X0.here hx rfl (hb hby own_d3_59) rfl (XT.i0_ne_f ((by decide) : (0 : Int32) = 0)) ht) ?_
          refine own_step (U' := (s₁.setTop (mkF m 64 #[.val (.int p1), .val (.int (0 : Int32)), .val (.int (p1 ||| (32 : Int32))), .val (.int (0 : Int32)), .val (.int (0 : Int32))] [(.int (0 : Int32))]))) (fun t ht => XS.iload X0.here hx rfl (hb hby own_d3_62) rfl ht) ?_
          refine own_step (U' := (s₁.setTop (mkF m 71 #[.val (.int p1), .val (.int (0 : Int32)), .val (.int (p1 ||| (32 : Int32))), .val (.int (0 : Int32)), .val (.int (0 : Int32))] []))) (fun t ht => XS.ifYes X0.here hx rfl (pc0 := 64) (pc' := 71) rfl (hb hby own_d3_64) rfl (XT.i0_eq_t ((by decide) : (0 : Int32) = 0)) (by decide) (by decide) ht) ?_
          refine own_step (U' := (s₁.setTop (mkF m 72 #[.val (.int p1), .val (.int (0 : Int32)), .val (.int (p1 ||| (32 : Int32))), .val (.int (0 : Int32)), .val (.int (0 : Int32))] [(.int (0 : Int32))]))) (fun t ht => XS.iconst X0.here hx rfl (hb hby own_d3_71) ht) ?_
          refine own_ret X0 (v := (some (.int (nar .boolean (0 : Int32))))) (fun h => by rw [Bd.returns] at h; cases h) Bd.notSynchronized (by decide) (by decide) ?_ (fun fs hr => retN X0 hx (t := .boolean) Bd.returns (by simp) (hb hby own_d3_72) hr)
          show own_Q_exp Z p1 h0 n0 _ s₁.heap _
          rw [e0]
          refine ⟨?_, N0, rfl⟩
          simp [own_exp, nar, hc3_15, hc26_16, hc32_18, hc44_20]
  ·
    refine own_step (U' := (s₁.setTop (mkF m 6 #[.val (.int p1), .unset, .unset, .unset, .unset] []))) (fun t ht => XS.icmpNo X0.here hx rfl (hb hby own_d3_3) rfl (XT.ii_lt_f hc3_15) ht) ?_
    refine own_step (U' := (s₁.setTop (mkF m 7 #[.val (.int p1), .unset, .unset, .unset, .unset] [(.int p1)]))) (fun t ht => XS.iloadN X0.here hx rfl (hb hby own_d3_6) rfl ht) ?_
    refine own_step (U' := (s₁.setTop (mkF m 9 #[.val (.int p1), .unset, .unset, .unset, .unset] [(.int (58 : Int32)), (.int p1)]))) (fun t ht => XS.bipush X0.here hx rfl (hb hby own_d3_7) ht) ?_
    by_cases hc9_21 : p1 < (58 : Int32)
    ·
      refine own_step (U' := (s₁.setTop (mkF m 12 #[.val (.int p1), .unset, .unset, .unset, .unset] []))) (fun t ht => XS.icmpNo X0.here hx rfl (hb hby own_d3_9) rfl (XT.ii_ge_f hc9_21) ht) ?_
      refine own_step (U' := (s₁.setTop (mkF m 13 #[.val (.int p1), .unset, .unset, .unset, .unset] [(.int (1 : Int32))]))) (fun t ht => XS.iconst X0.here hx rfl (hb hby own_d3_12) ht) ?_
      refine own_step (U' := (s₁.setTop (mkF m 17 #[.val (.int p1), .unset, .unset, .unset, .unset] [(.int (1 : Int32))]))) (fun t ht => XS.goto X0.here hx rfl (pc0 := 13) (pc' := 17) rfl (hb hby own_d3_13) (by decide) (by decide) ht) ?_
      refine own_step (U' := (s₁.setTop (mkF m 18 #[.val (.int p1), .val (.int (1 : Int32)), .unset, .unset, .unset] []))) (fun t ht => XS.istoreN X0.here hx rfl (hb hby own_d3_17) rfl (l' := #[.val (.int p1), .val (.int (1 : Int32)), .unset, .unset, .unset]) rfl ht) ?_
      refine own_step (U' := (s₁.setTop (mkF m 19 #[.val (.int p1), .val (.int (1 : Int32)), .unset, .unset, .unset] [(.int p1)]))) (fun t ht => XS.iloadN X0.here hx rfl (hb hby own_d3_18) rfl ht) ?_
      refine own_step (U' := (s₁.setTop (mkF m 21 #[.val (.int p1), .val (.int (1 : Int32)), .unset, .unset, .unset] [(.int (32 : Int32)), (.int p1)]))) (fun t ht => XS.bipush X0.here hx rfl (hb hby own_d3_19) ht) ?_
      refine own_step (U' := (s₁.setTop (mkF m 22 #[.val (.int p1), .val (.int (1 : Int32)), .unset, .unset, .unset] [(.int (p1 ||| (32 : Int32)))]))) (fun t ht => XT.ior X0.here hx rfl (hb hby own_d3_21) rfl ht) ?_
      refine own_step (U' := (s₁.setTop (mkF m 23 #[.val (.int p1), .val (.int (1 : Int32)), .val (.int (p1 ||| (32 : Int32))), .unset, .unset] []))) (fun t ht => XS.istoreN X0.here hx rfl (hb hby own_d3_22) rfl (l' := #[.val (.int p1), .val (.int (1 : Int32)), .val (.int (p1 ||| (32 : Int32))), .unset, .unset]) rfl ht) ?_
      refine own_step (U' := (s₁.setTop (mkF m 24 #[.val (.int p1), .val (.int (1 : Int32)), .val (.int (p1 ||| (32 : Int32))), .unset, .unset] [(.int (p1 ||| (32 : Int32)))]))) (fun t ht => XS.iloadN X0.here hx rfl (hb hby own_d3_23) rfl ht) ?_
      refine own_step (U' := (s₁.setTop (mkF m 26 #[.val (.int p1), .val (.int (1 : Int32)), .val (.int (p1 ||| (32 : Int32))), .unset, .unset] [(.int (97 : Int32)), (.int (p1 ||| (32 : Int32)))]))) (fun t ht => XS.bipush X0.here hx rfl (hb hby own_d3_24) ht) ?_
      by_cases hc26_22 : (p1 ||| (32 : Int32)) < (97 : Int32)
      ·
        refine own_step (U' := (s₁.setTop (mkF m 39 #[.val (.int p1), .val (.int (1 : Int32)), .val (.int (p1 ||| (32 : Int32))), .unset, .unset] []))) (fun t ht => XS.icmpYes X0.here hx rfl (pc0 := 26) (pc' := 39) rfl (hb hby own_d3_26) rfl (XT.ii_lt_t hc26_22) (by decide) (by decide) ht) ?_
        refine own_step (U' := (s₁.setTop (mkF m 40 #[.val (.int p1), .val (.int (1 : Int32)), .val (.int (p1 ||| (32 : Int32))), .unset, .unset] [(.int (0 : Int32))]))) (fun t ht => XS.iconst X0.here hx rfl (hb hby own_d3_39) ht) ?_
        refine own_step (U' := (s₁.setTop (mkF m 41 #[.val (.int p1), .val (.int (1 : Int32)), .val (.int (p1 ||| (32 : Int32))), .val (.int (0 : Int32)), .unset] []))) (fun t ht => XS.istoreN X0.here hx rfl (hb hby own_d3_40) rfl (l' := #[.val (.int p1), .val (.int (1 : Int32)), .val (.int (p1 ||| (32 : Int32))), .val (.int (0 : Int32)), .unset]) rfl ht) ?_
        refine own_step (U' := (s₁.setTop (mkF m 42 #[.val (.int p1), .val (.int (1 : Int32)), .val (.int (p1 ||| (32 : Int32))), .val (.int (0 : Int32)), .unset] [(.int p1)]))) (fun t ht => XS.iloadN X0.here hx rfl (hb hby own_d3_41) rfl ht) ?_
        refine own_step (U' := (s₁.setTop (mkF m 44 #[.val (.int p1), .val (.int (1 : Int32)), .val (.int (p1 ||| (32 : Int32))), .val (.int (0 : Int32)), .unset] [(.int (45 : Int32)), (.int p1)]))) (fun t ht => XS.bipush X0.here hx rfl (hb hby own_d3_42) ht) ?_
        by_cases hc44_23 : p1 = (45 : Int32)
        ·
          refine own_step (U' := (s₁.setTop (mkF m 47 #[.val (.int p1), .val (.int (1 : Int32)), .val (.int (p1 ||| (32 : Int32))), .val (.int (0 : Int32)), .unset] []))) (fun t ht => XS.icmpNo X0.here hx rfl (hb hby own_d3_44) rfl (XT.ii_ne_f hc44_23) ht) ?_
          refine own_step (U' := (s₁.setTop (mkF m 48 #[.val (.int p1), .val (.int (1 : Int32)), .val (.int (p1 ||| (32 : Int32))), .val (.int (0 : Int32)), .unset] [(.int (1 : Int32))]))) (fun t ht => XS.iconst X0.here hx rfl (hb hby own_d3_47) ht) ?_
          refine own_step (U' := (s₁.setTop (mkF m 52 #[.val (.int p1), .val (.int (1 : Int32)), .val (.int (p1 ||| (32 : Int32))), .val (.int (0 : Int32)), .unset] [(.int (1 : Int32))]))) (fun t ht => XS.goto X0.here hx rfl (pc0 := 48) (pc' := 52) rfl (hb hby own_d3_48) (by decide) (by decide) ht) ?_
          refine own_step (U' := (s₁.setTop (mkF m 54 #[.val (.int p1), .val (.int (1 : Int32)), .val (.int (p1 ||| (32 : Int32))), .val (.int (0 : Int32)), .val (.int (1 : Int32))] []))) (fun t ht => XS.istore X0.here hx rfl (hb hby own_d3_52) rfl (l' := #[.val (.int p1), .val (.int (1 : Int32)), .val (.int (p1 ||| (32 : Int32))), .val (.int (0 : Int32)), .val (.int (1 : Int32))]) rfl ht) ?_
          refine own_step (U' := (s₁.setTop (mkF m 55 #[.val (.int p1), .val (.int (1 : Int32)), .val (.int (p1 ||| (32 : Int32))), .val (.int (0 : Int32)), .val (.int (1 : Int32))] [(.int (1 : Int32))]))) (fun t ht => XS.iloadN X0.here hx rfl (hb hby own_d3_54) rfl ht) ?_
          refine own_step (U' := (s₁.setTop (mkF m 67 #[.val (.int p1), .val (.int (1 : Int32)), .val (.int (p1 ||| (32 : Int32))), .val (.int (0 : Int32)), .val (.int (1 : Int32))] []))) (fun t ht => XS.ifYes X0.here hx rfl (pc0 := 55) (pc' := 67) rfl (hb hby own_d3_55) rfl (XT.i0_ne_t ((by decide) : ¬ ((1 : Int32) = 0))) (by decide) (by decide) ht) ?_
          refine own_step (U' := (s₁.setTop (mkF m 68 #[.val (.int p1), .val (.int (1 : Int32)), .val (.int (p1 ||| (32 : Int32))), .val (.int (0 : Int32)), .val (.int (1 : Int32))] [(.int (1 : Int32))]))) (fun t ht => XS.iconst X0.here hx rfl (hb hby own_d3_67) ht) ?_
          refine own_step (U' := (s₁.setTop (mkF m 72 #[.val (.int p1), .val (.int (1 : Int32)), .val (.int (p1 ||| (32 : Int32))), .val (.int (0 : Int32)), .val (.int (1 : Int32))] [(.int (1 : Int32))]))) (fun t ht => XS.goto X0.here hx rfl (pc0 := 68) (pc' := 72) rfl (hb hby own_d3_68) (by decide) (by decide) ht) ?_
          refine own_ret X0 (v := (some (.int (nar .boolean (1 : Int32))))) (fun h => by rw [Bd.returns] at h; cases h) Bd.notSynchronized (by decide) (by decide) ?_ (fun fs hr => retN X0 hx (t := .boolean) Bd.returns (by simp) (hb hby own_d3_72) hr)
          show own_Q_exp Z p1 h0 n0 _ s₁.heap _
          rw [e0]
          refine ⟨?_, N0, rfl⟩
          simp [own_exp, nar, hc3_15, hc9_21, hc26_22, hc44_23]
        ·
          refine own_step (U' := (s₁.setTop (mkF m 51 #[.val (.int p1), .val (.int (1 : Int32)), .val (.int (p1 ||| (32 : Int32))), .val (.int (0 : Int32)), .unset] []))) (fun t ht => XS.icmpYes X0.here hx rfl (pc0 := 44) (pc' := 51) rfl (hb hby own_d3_44) rfl (XT.ii_ne_t hc44_23) (by decide) (by decide) ht) ?_
          refine own_step (U' := (s₁.setTop (mkF m 52 #[.val (.int p1), .val (.int (1 : Int32)), .val (.int (p1 ||| (32 : Int32))), .val (.int (0 : Int32)), .unset] [(.int (0 : Int32))]))) (fun t ht => XS.iconst X0.here hx rfl (hb hby own_d3_51) ht) ?_
          refine own_step (U' := (s₁.setTop (mkF m 54 #[.val (.int p1), .val (.int (1 : Int32)), .val (.int (p1 ||| (32 : Int32))), .val (.int (0 : Int32)), .val (.int (0 : Int32))] []))) (fun t ht => XS.istore X0.here hx rfl (hb hby own_d3_52) rfl (l' := #[.val (.int p1), .val (.int (1 : Int32)), .val (.int (p1 ||| (32 : Int32))), .val (.int (0 : Int32)), .val (.int (0 : Int32))]) rfl ht) ?_
          refine own_step (U' := (s₁.setTop (mkF m 55 #[.val (.int p1), .val (.int (1 : Int32)), .val (.int (p1 ||| (32 : Int32))), .val (.int (0 : Int32)), .val (.int (0 : Int32))] [(.int (1 : Int32))]))) (fun t ht => XS.iloadN X0.here hx rfl (hb hby own_d3_54) rfl ht) ?_
          refine own_step (U' := (s₁.setTop (mkF m 67 #[.val (.int p1), .val (.int (1 : Int32)), .val (.int (p1 ||| (32 : Int32))), .val (.int (0 : Int32)), .val (.int (0 : Int32))] []))) (fun t ht => XS.ifYes X0.here hx rfl (pc0 := 55) (pc' := 67) rfl (hb hby own_d3_55) rfl (XT.i0_ne_t ((by decide) : ¬ ((1 : Int32) = 0))) (by decide) (by decide) ht) ?_
          refine own_step (U' := (s₁.setTop (mkF m 68 #[.val (.int p1), .val (.int (1 : Int32)), .val (.int (p1 ||| (32 : Int32))), .val (.int (0 : Int32)), .val (.int (0 : Int32))] [(.int (1 : Int32))]))) (fun t ht => XS.iconst X0.here hx rfl (hb hby own_d3_67) ht) ?_
          refine own_step (U' := (s₁.setTop (mkF m 72 #[.val (.int p1), .val (.int (1 : Int32)), .val (.int (p1 ||| (32 : Int32))), .val (.int (0 : Int32)), .val (.int (0 : Int32))] [(.int (1 : Int32))]))) (fun t ht => XS.goto X0.here hx rfl (pc0 := 68) (pc' := 72) rfl (hb hby own_d3_68) (by decide) (by decide) ht) ?_
          refine own_ret X0 (v := (some (.int (nar .boolean (1 : Int32))))) (fun h => by rw [Bd.returns] at h; cases h) Bd.notSynchronized (by decide) (by decide) ?_ (fun fs hr => retN X0 hx (t := .boolean) Bd.returns (by simp) (hb hby own_d3_72) hr)
          show own_Q_exp Z p1 h0 n0 _ s₁.heap _
          rw [e0]
          refine ⟨?_, N0, rfl⟩
          simp [own_exp, nar, hc3_15, hc9_21, hc26_22, hc44_23]
      ·
        refine own_step (U' := (s₁.setTop (mkF m 29 #[.val (.int p1), .val (.int (1 : Int32)), .val (.int (p1 ||| (32 : Int32))), .unset, .unset] []))) (fun t ht => XS.icmpNo X0.here hx rfl (hb hby own_d3_26) rfl (XT.ii_lt_f hc26_22) ht) ?_
        refine own_step (U' := (s₁.setTop (mkF m 30 #[.val (.int p1), .val (.int (1 : Int32)), .val (.int (p1 ||| (32 : Int32))), .unset, .unset] [(.int (p1 ||| (32 : Int32)))]))) (fun t ht => XS.iloadN X0.here hx rfl (hb hby own_d3_29) rfl ht) ?_
        refine own_step (U' := (s₁.setTop (mkF m 32 #[.val (.int p1), .val (.int (1 : Int32)), .val (.int (p1 ||| (32 : Int32))), .unset, .unset] [(.int (123 : Int32)), (.int (p1 ||| (32 : Int32)))]))) (fun t ht => XS.bipush X0.here hx rfl (hb hby own_d3_30) ht) ?_
        by_cases hc32_24 : (p1 ||| (32 : Int32)) < (123 : Int32)
        ·
          refine own_step (U' := (s₁.setTop (mkF m 35 #[.val (.int p1), .val (.int (1 : Int32)), .val (.int (p1 ||| (32 : Int32))), .unset, .unset] []))) (fun t ht => XS.icmpNo X0.here hx rfl (hb hby own_d3_32) rfl (XT.ii_ge_f hc32_24) ht) ?_
          refine own_step (U' := (s₁.setTop (mkF m 36 #[.val (.int p1), .val (.int (1 : Int32)), .val (.int (p1 ||| (32 : Int32))), .unset, .unset] [(.int (1 : Int32))]))) (fun t ht => XS.iconst X0.here hx rfl (hb hby own_d3_35) ht) ?_
          refine own_step (U' := (s₁.setTop (mkF m 40 #[.val (.int p1), .val (.int (1 : Int32)), .val (.int (p1 ||| (32 : Int32))), .unset, .unset] [(.int (1 : Int32))]))) (fun t ht => XS.goto X0.here hx rfl (pc0 := 36) (pc' := 40) rfl (hb hby own_d3_36) (by decide) (by decide) ht) ?_
          refine own_step (U' := (s₁.setTop (mkF m 41 #[.val (.int p1), .val (.int (1 : Int32)), .val (.int (p1 ||| (32 : Int32))), .val (.int (1 : Int32)), .unset] []))) (fun t ht => XS.istoreN X0.here hx rfl (hb hby own_d3_40) rfl (l' := #[.val (.int p1), .val (.int (1 : Int32)), .val (.int (p1 ||| (32 : Int32))), .val (.int (1 : Int32)), .unset]) rfl ht) ?_
          refine own_step (U' := (s₁.setTop (mkF m 42 #[.val (.int p1), .val (.int (1 : Int32)), .val (.int (p1 ||| (32 : Int32))), .val (.int (1 : Int32)), .unset] [(.int p1)]))) (fun t ht => XS.iloadN X0.here hx rfl (hb hby own_d3_41) rfl ht) ?_
          refine own_step (U' := (s₁.setTop (mkF m 44 #[.val (.int p1), .val (.int (1 : Int32)), .val (.int (p1 ||| (32 : Int32))), .val (.int (1 : Int32)), .unset] [(.int (45 : Int32)), (.int p1)]))) (fun t ht => XS.bipush X0.here hx rfl (hb hby own_d3_42) ht) ?_
          by_cases hc44_25 : p1 = (45 : Int32)
          ·
            refine own_step (U' := (s₁.setTop (mkF m 47 #[.val (.int p1), .val (.int (1 : Int32)), .val (.int (p1 ||| (32 : Int32))), .val (.int (1 : Int32)), .unset] []))) (fun t ht => XS.icmpNo X0.here hx rfl (hb hby own_d3_44) rfl (XT.ii_ne_f hc44_25) ht) ?_
            refine own_step (U' := (s₁.setTop (mkF m 48 #[.val (.int p1), .val (.int (1 : Int32)), .val (.int (p1 ||| (32 : Int32))), .val (.int (1 : Int32)), .unset] [(.int (1 : Int32))]))) (fun t ht => XS.iconst X0.here hx rfl (hb hby own_d3_47) ht) ?_
            refine own_step (U' := (s₁.setTop (mkF m 52 #[.val (.int p1), .val (.int (1 : Int32)), .val (.int (p1 ||| (32 : Int32))), .val (.int (1 : Int32)), .unset] [(.int (1 : Int32))]))) (fun t ht => XS.goto X0.here hx rfl (pc0 := 48) (pc' := 52) rfl (hb hby own_d3_48) (by decide) (by decide) ht) ?_
            refine own_step (U' := (s₁.setTop (mkF m 54 #[.val (.int p1), .val (.int (1 : Int32)), .val (.int (p1 ||| (32 : Int32))), .val (.int (1 : Int32)), .val (.int (1 : Int32))] []))) (fun t ht => XS.istore X0.here hx rfl (hb hby own_d3_52) rfl (l' := #[.val (.int p1), .val (.int (1 : Int32)), .val (.int (p1 ||| (32 : Int32))), .val (.int (1 : Int32)), .val (.int (1 : Int32))]) rfl ht) ?_
            refine own_step (U' := (s₁.setTop (mkF m 55 #[.val (.int p1), .val (.int (1 : Int32)), .val (.int (p1 ||| (32 : Int32))), .val (.int (1 : Int32)), .val (.int (1 : Int32))] [(.int (1 : Int32))]))) (fun t ht => XS.iloadN X0.here hx rfl (hb hby own_d3_54) rfl ht) ?_
            refine own_step (U' := (s₁.setTop (mkF m 67 #[.val (.int p1), .val (.int (1 : Int32)), .val (.int (p1 ||| (32 : Int32))), .val (.int (1 : Int32)), .val (.int (1 : Int32))] []))) (fun t ht => XS.ifYes X0.here hx rfl (pc0 := 55) (pc' := 67) rfl (hb hby own_d3_55) rfl (XT.i0_ne_t ((by decide) : ¬ ((1 : Int32) = 0))) (by decide) (by decide) ht) ?_
            refine own_step (U' := (s₁.setTop (mkF m 68 #[.val (.int p1), .val (.int (1 : Int32)), .val (.int (p1 ||| (32 : Int32))), .val (.int (1 : Int32)), .val (.int (1 : Int32))] [(.int (1 : Int32))]))) (fun t ht => XS.iconst X0.here hx rfl (hb hby own_d3_67) ht) ?_
            refine own_step (U' := (s₁.setTop (mkF m 72 #[.val (.int p1), .val (.int (1 : Int32)), .val (.int (p1 ||| (32 : Int32))), .val (.int (1 : Int32)), .val (.int (1 : Int32))] [(.int (1 : Int32))]))) (fun t ht => XS.goto X0.here hx rfl (pc0 := 68) (pc' := 72) rfl (hb hby own_d3_68) (by decide) (by decide) ht) ?_
            refine own_ret X0 (v := (some (.int (nar .boolean (1 : Int32))))) (fun h => by rw [Bd.returns] at h; cases h) Bd.notSynchronized (by decide) (by decide) ?_ (fun fs hr => retN X0 hx (t := .boolean) Bd.returns (by simp) (hb hby own_d3_72) hr)
            show own_Q_exp Z p1 h0 n0 _ s₁.heap _
            rw [e0]
            refine ⟨?_, N0, rfl⟩
            simp [own_exp, nar, hc3_15, hc9_21, hc26_22, hc32_24, hc44_25]
          ·
            refine own_step (U' := (s₁.setTop (mkF m 51 #[.val (.int p1), .val (.int (1 : Int32)), .val (.int (p1 ||| (32 : Int32))), .val (.int (1 : Int32)), .unset] []))) (fun t ht => XS.icmpYes X0.here hx rfl (pc0 := 44) (pc' := 51) rfl (hb hby own_d3_44) rfl (XT.ii_ne_t hc44_25) (by decide) (by decide) ht) ?_
            refine own_step (U' := (s₁.setTop (mkF m 52 #[.val (.int p1), .val (.int (1 : Int32)), .val (.int (p1 ||| (32 : Int32))), .val (.int (1 : Int32)), .unset] [(.int (0 : Int32))]))) (fun t ht => XS.iconst X0.here hx rfl (hb hby own_d3_51) ht) ?_
            refine own_step (U' := (s₁.setTop (mkF m 54 #[.val (.int p1), .val (.int (1 : Int32)), .val (.int (p1 ||| (32 : Int32))), .val (.int (1 : Int32)), .val (.int (0 : Int32))] []))) (fun t ht => XS.istore X0.here hx rfl (hb hby own_d3_52) rfl (l' := #[.val (.int p1), .val (.int (1 : Int32)), .val (.int (p1 ||| (32 : Int32))), .val (.int (1 : Int32)), .val (.int (0 : Int32))]) rfl ht) ?_
            refine own_step (U' := (s₁.setTop (mkF m 55 #[.val (.int p1), .val (.int (1 : Int32)), .val (.int (p1 ||| (32 : Int32))), .val (.int (1 : Int32)), .val (.int (0 : Int32))] [(.int (1 : Int32))]))) (fun t ht => XS.iloadN X0.here hx rfl (hb hby own_d3_54) rfl ht) ?_
            refine own_step (U' := (s₁.setTop (mkF m 67 #[.val (.int p1), .val (.int (1 : Int32)), .val (.int (p1 ||| (32 : Int32))), .val (.int (1 : Int32)), .val (.int (0 : Int32))] []))) (fun t ht => XS.ifYes X0.here hx rfl (pc0 := 55) (pc' := 67) rfl (hb hby own_d3_55) rfl (XT.i0_ne_t ((by decide) : ¬ ((1 : Int32) = 0))) (by decide) (by decide) ht) ?_
            refine own_step (U' := (s₁.setTop (mkF m 68 #[.val (.int p1), .val (.int (1 : Int32)), .val (.int (p1 ||| (32 : Int32))), .val (.int (1 : Int32)), .val (.int (0 : Int32))] [(.int (1 : Int32))]))) (fun t ht => XS.iconst X0.here hx rfl (hb hby own_d3_67) ht) ?_
            refine own_step (U' := (s₁.setTop (mkF m 72 #[.val (.int p1), .val (.int (1 : Int32)), .val (.int (p1 ||| (32 : Int32))), .val (.int (1 : Int32)), .val (.int (0 : Int32))] [(.int (1 : Int32))]))) (fun t ht => XS.goto X0.here hx rfl (pc0 := 68) (pc' := 72) rfl (hb hby own_d3_68) (by decide) (by decide) ht) ?_
            refine own_ret X0 (v := (some (.int (nar .boolean (1 : Int32))))) (fun h => by rw [Bd.returns] at h; cases h) Bd.notSynchronized (by decide) (by decide) ?_ (fun fs hr => retN X0 hx (t := .boolean) Bd.returns (by simp) (hb hby own_d3_72) hr)
            show own_Q_exp Z p1 h0 n0 _ s₁.heap _
            rw [e0]
            refine ⟨?_, N0, rfl⟩
            simp [own_exp, nar, hc3_15, hc9_21, hc26_22, hc32_24, hc44_25]
        ·
          refine own_step (U' := (s₁.setTop (mkF m 39 #[.val (.int p1), .val (.int (1 : Int32)), .val (.int (p1 ||| (32 : Int32))), .unset, .unset] []))) (fun t ht => XS.icmpYes X0.here hx rfl (pc0 := 32) (pc' := 39) rfl (hb hby own_d3_32) rfl (XT.ii_ge_t hc32_24) (by decide) (by decide) ht) ?_
          refine own_step (U' := (s₁.setTop (mkF m 40 #[.val (.int p1), .val (.int (1 : Int32)), .val (.int (p1 ||| (32 : Int32))), .unset, .unset] [(.int (0 : Int32))]))) (fun t ht => XS.iconst X0.here hx rfl (hb hby own_d3_39) ht) ?_
          refine own_step (U' := (s₁.setTop (mkF m 41 #[.val (.int p1), .val (.int (1 : Int32)), .val (.int (p1 ||| (32 : Int32))), .val (.int (0 : Int32)), .unset] []))) (fun t ht => XS.istoreN X0.here hx rfl (hb hby own_d3_40) rfl (l' := #[.val (.int p1), .val (.int (1 : Int32)), .val (.int (p1 ||| (32 : Int32))), .val (.int (0 : Int32)), .unset]) rfl ht) ?_
          refine own_step (U' := (s₁.setTop (mkF m 42 #[.val (.int p1), .val (.int (1 : Int32)), .val (.int (p1 ||| (32 : Int32))), .val (.int (0 : Int32)), .unset] [(.int p1)]))) (fun t ht => XS.iloadN X0.here hx rfl (hb hby own_d3_41) rfl ht) ?_
          refine own_step (U' := (s₁.setTop (mkF m 44 #[.val (.int p1), .val (.int (1 : Int32)), .val (.int (p1 ||| (32 : Int32))), .val (.int (0 : Int32)), .unset] [(.int (45 : Int32)), (.int p1)]))) (fun t ht => XS.bipush X0.here hx rfl (hb hby own_d3_42) ht) ?_
          by_cases hc44_26 : p1 = (45 : Int32)
          ·
            refine own_step (U' := (s₁.setTop (mkF m 47 #[.val (.int p1), .val (.int (1 : Int32)), .val (.int (p1 ||| (32 : Int32))), .val (.int (0 : Int32)), .unset] []))) (fun t ht => XS.icmpNo X0.here hx rfl (hb hby own_d3_44) rfl (XT.ii_ne_f hc44_26) ht) ?_
            refine own_step (U' := (s₁.setTop (mkF m 48 #[.val (.int p1), .val (.int (1 : Int32)), .val (.int (p1 ||| (32 : Int32))), .val (.int (0 : Int32)), .unset] [(.int (1 : Int32))]))) (fun t ht => XS.iconst X0.here hx rfl (hb hby own_d3_47) ht) ?_
            refine own_step (U' := (s₁.setTop (mkF m 52 #[.val (.int p1), .val (.int (1 : Int32)), .val (.int (p1 ||| (32 : Int32))), .val (.int (0 : Int32)), .unset] [(.int (1 : Int32))]))) (fun t ht => XS.goto X0.here hx rfl (pc0 := 48) (pc' := 52) rfl (hb hby own_d3_48) (by decide) (by decide) ht) ?_
            refine own_step (U' := (s₁.setTop (mkF m 54 #[.val (.int p1), .val (.int (1 : Int32)), .val (.int (p1 ||| (32 : Int32))), .val (.int (0 : Int32)), .val (.int (1 : Int32))] []))) (fun t ht => XS.istore X0.here hx rfl (hb hby own_d3_52) rfl (l' := #[.val (.int p1), .val (.int (1 : Int32)), .val (.int (p1 ||| (32 : Int32))), .val (.int (0 : Int32)), .val (.int (1 : Int32))]) rfl ht) ?_
            refine own_step (U' := (s₁.setTop (mkF m 55 #[.val (.int p1), .val (.int (1 : Int32)), .val (.int (p1 ||| (32 : Int32))), .val (.int (0 : Int32)), .val (.int (1 : Int32))] [(.int (1 : Int32))]))) (fun t ht => XS.iloadN X0.here hx rfl (hb hby own_d3_54) rfl ht) ?_
            refine own_step (U' := (s₁.setTop (mkF m 67 #[.val (.int p1), .val (.int (1 : Int32)), .val (.int (p1 ||| (32 : Int32))), .val (.int (0 : Int32)), .val (.int (1 : Int32))] []))) (fun t ht => XS.ifYes X0.here hx rfl (pc0 := 55) (pc' := 67) rfl (hb hby own_d3_55) rfl (XT.i0_ne_t ((by decide) : ¬ ((1 : Int32) = 0))) (by decide) (by decide) ht) ?_
            refine own_step (U' := (s₁.setTop (mkF m 68 #[.val (.int p1), .val (.int (1 : Int32)), .val (.int (p1 ||| (32 : Int32))), .val (.int (0 : Int32)), .val (.int (1 : Int32))] [(.int (1 : Int32))]))) (fun t ht => XS.iconst X0.here hx rfl (hb hby own_d3_67) ht) ?_
            refine own_step (U' := (s₁.setTop (mkF m 72 #[.val (.int p1), .val (.int (1 : Int32)), .val (.int (p1 ||| (32 : Int32))), .val (.int (0 : Int32)), .val (.int (1 : Int32))] [(.int (1 : Int32))]))) (fun t ht => XS.goto X0.here hx rfl (pc0 := 68) (pc' := 72) rfl (hb hby own_d3_68) (by decide) (by decide) ht) ?_
            refine own_ret X0 (v := (some (.int (nar .boolean (1 : Int32))))) (fun h => by rw [Bd.returns] at h; cases h) Bd.notSynchronized (by decide) (by decide) ?_ (fun fs hr => retN X0 hx (t := .boolean) Bd.returns (by simp) (hb hby own_d3_72) hr)
            show own_Q_exp Z p1 h0 n0 _ s₁.heap _
            rw [e0]
            refine ⟨?_, N0, rfl⟩
            simp [own_exp, nar, hc3_15, hc9_21, hc26_22, hc32_24, hc44_26]
          ·
            refine own_step (U' := (s₁.setTop (mkF m 51 #[.val (.int p1), .val (.int (1 : Int32)), .val (.int (p1 ||| (32 : Int32))), .val (.int (0 : Int32)), .unset] []))) (fun t ht => XS.icmpYes X0.here hx rfl (pc0 := 44) (pc' := 51) rfl (hb hby own_d3_44) rfl (XT.ii_ne_t hc44_26) (by decide) (by decide) ht) ?_
            refine own_step (U' := (s₁.setTop (mkF m 52 #[.val (.int p1), .val (.int (1 : Int32)), .val (.int (p1 ||| (32 : Int32))), .val (.int (0 : Int32)), .unset] [(.int (0 : Int32))]))) (fun t ht => XS.iconst X0.here hx rfl (hb hby own_d3_51) ht) ?_
            refine own_step (U' := (s₁.setTop (mkF m 54 #[.val (.int p1), .val (.int (1 : Int32)), .val (.int (p1 ||| (32 : Int32))), .val (.int (0 : Int32)), .val (.int (0 : Int32))] []))) (fun t ht => XS.istore X0.here hx rfl (hb hby own_d3_52) rfl (l' := #[.val (.int p1), .val (.int (1 : Int32)), .val (.int (p1 ||| (32 : Int32))), .val (.int (0 : Int32)), .val (.int (0 : Int32))]) rfl ht) ?_
            refine own_step (U' := (s₁.setTop (mkF m 55 #[.val (.int p1), .val (.int (1 : Int32)), .val (.int (p1 ||| (32 : Int32))), .val (.int (0 : Int32)), .val (.int (0 : Int32))] [(.int (1 : Int32))]))) (fun t ht => XS.iloadN X0.here hx rfl (hb hby own_d3_54) rfl ht) ?_
            refine own_step (U' := (s₁.setTop (mkF m 67 #[.val (.int p1), .val (.int (1 : Int32)), .val (.int (p1 ||| (32 : Int32))), .val (.int (0 : Int32)), .val (.int (0 : Int32))] []))) (fun t ht => XS.ifYes X0.here hx rfl (pc0 := 55) (pc' := 67) rfl (hb hby own_d3_55) rfl (XT.i0_ne_t ((by decide) : ¬ ((1 : Int32) = 0))) (by decide) (by decide) ht) ?_
            refine own_step (U' := (s₁.setTop (mkF m 68 #[.val (.int p1), .val (.int (1 : Int32)), .val (.int (p1 ||| (32 : Int32))), .val (.int (0 : Int32)), .val (.int (0 : Int32))] [(.int (1 : Int32))]))) (fun t ht => XS.iconst X0.here hx rfl (hb hby own_d3_67) ht) ?_
            refine own_step (U' := (s₁.setTop (mkF m 72 #[.val (.int p1), .val (.int (1 : Int32)), .val (.int (p1 ||| (32 : Int32))), .val (.int (0 : Int32)), .val (.int (0 : Int32))] [(.int (1 : Int32))]))) (fun t ht => XS.goto X0.here hx rfl (pc0 := 68) (pc' := 72) rfl (hb hby own_d3_68) (by decide) (by decide) ht) ?_
            refine own_ret X0 (v := (some (.int (nar .boolean (1 : Int32))))) (fun h => by rw [Bd.returns] at h; cases h) Bd.notSynchronized (by decide) (by decide) ?_ (fun fs hr => retN X0 hx (t := .boolean) Bd.returns (by simp) (hb hby own_d3_72) hr)
            show own_Q_exp Z p1 h0 n0 _ s₁.heap _
            rw [e0]
            refine ⟨?_, N0, rfl⟩
            simp [own_exp, nar, hc3_15, hc9_21, hc26_22, hc32_24, hc44_26]
    ·
      refine own_step (U' := (s₁.setTop (mkF m 16 #[.val (.int p1), .unset, .unset, .unset, .unset] []))) (fun t ht => XS.icmpYes X0.here hx rfl (pc0 := 9) (pc' := 16) rfl (hb hby own_d3_9) rfl (XT.ii_ge_t hc9_21) (by decide) (by decide) ht) ?_
      refine own_step (U' := (s₁.setTop (mkF m 17 #[.val (.int p1), .unset, .unset, .unset, .unset] [(.int (0 : Int32))]))) (fun t ht => XS.iconst X0.here hx rfl (hb hby own_d3_16) ht) ?_
      refine own_step (U' := (s₁.setTop (mkF m 18 #[.val (.int p1), .val (.int (0 : Int32)), .unset, .unset, .unset] []))) (fun t ht => XS.istoreN X0.here hx rfl (hb hby own_d3_17) rfl (l' := #[.val (.int p1), .val (.int (0 : Int32)), .unset, .unset, .unset]) rfl ht) ?_
      refine own_step (U' := (s₁.setTop (mkF m 19 #[.val (.int p1), .val (.int (0 : Int32)), .unset, .unset, .unset] [(.int p1)]))) (fun t ht => XS.iloadN X0.here hx rfl (hb hby own_d3_18) rfl ht) ?_
      refine own_step (U' := (s₁.setTop (mkF m 21 #[.val (.int p1), .val (.int (0 : Int32)), .unset, .unset, .unset] [(.int (32 : Int32)), (.int p1)]))) (fun t ht => XS.bipush X0.here hx rfl (hb hby own_d3_19) ht) ?_
      refine own_step (U' := (s₁.setTop (mkF m 22 #[.val (.int p1), .val (.int (0 : Int32)), .unset, .unset, .unset] [(.int (p1 ||| (32 : Int32)))]))) (fun t ht => XT.ior X0.here hx rfl (hb hby own_d3_21) rfl ht) ?_
      refine own_step (U' := (s₁.setTop (mkF m 23 #[.val (.int p1), .val (.int (0 : Int32)), .val (.int (p1 ||| (32 : Int32))), .unset, .unset] []))) (fun t ht => XS.istoreN X0.here hx rfl (hb hby own_d3_22) rfl (l' := #[.val (.int p1), .val (.int (0 : Int32)), .val (.int (p1 ||| (32 : Int32))), .unset, .unset]) rfl ht) ?_
      refine own_step (U' := (s₁.setTop (mkF m 24 #[.val (.int p1), .val (.int (0 : Int32)), .val (.int (p1 ||| (32 : Int32))), .unset, .unset] [(.int (p1 ||| (32 : Int32)))]))) (fun t ht => XS.iloadN X0.here hx rfl (hb hby own_d3_23) rfl ht) ?_
      refine own_step (U' := (s₁.setTop (mkF m 26 #[.val (.int p1), .val (.int (0 : Int32)), .val (.int (p1 ||| (32 : Int32))), .unset, .unset] [(.int (97 : Int32)), (.int (p1 ||| (32 : Int32)))]))) (fun t ht => XS.bipush X0.here hx rfl (hb hby own_d3_24) ht) ?_
      by_cases hc26_27 : (p1 ||| (32 : Int32)) < (97 : Int32)
      ·
        refine own_step (U' := (s₁.setTop (mkF m 39 #[.val (.int p1), .val (.int (0 : Int32)), .val (.int (p1 ||| (32 : Int32))), .unset, .unset] []))) (fun t ht => XS.icmpYes X0.here hx rfl (pc0 := 26) (pc' := 39) rfl (hb hby own_d3_26) rfl (XT.ii_lt_t hc26_27) (by decide) (by decide) ht) ?_
        refine own_step (U' := (s₁.setTop (mkF m 40 #[.val (.int p1), .val (.int (0 : Int32)), .val (.int (p1 ||| (32 : Int32))), .unset, .unset] [(.int (0 : Int32))]))) (fun t ht => XS.iconst X0.here hx rfl (hb hby own_d3_39) ht) ?_
        refine own_step (U' := (s₁.setTop (mkF m 41 #[.val (.int p1), .val (.int (0 : Int32)), .val (.int (p1 ||| (32 : Int32))), .val (.int (0 : Int32)), .unset] []))) (fun t ht => XS.istoreN X0.here hx rfl (hb hby own_d3_40) rfl (l' := #[.val (.int p1), .val (.int (0 : Int32)), .val (.int (p1 ||| (32 : Int32))), .val (.int (0 : Int32)), .unset]) rfl ht) ?_
        refine own_step (U' := (s₁.setTop (mkF m 42 #[.val (.int p1), .val (.int (0 : Int32)), .val (.int (p1 ||| (32 : Int32))), .val (.int (0 : Int32)), .unset] [(.int p1)]))) (fun t ht => XS.iloadN X0.here hx rfl (hb hby own_d3_41) rfl ht) ?_
        refine own_step (U' := (s₁.setTop (mkF m 44 #[.val (.int p1), .val (.int (0 : Int32)), .val (.int (p1 ||| (32 : Int32))), .val (.int (0 : Int32)), .unset] [(.int (45 : Int32)), (.int p1)]))) (fun t ht => XS.bipush X0.here hx rfl (hb hby own_d3_42) ht) ?_
        by_cases hc44_28 : p1 = (45 : Int32)
        ·
          refine own_step (U' := (s₁.setTop (mkF m 47 #[.val (.int p1), .val (.int (0 : Int32)), .val (.int (p1 ||| (32 : Int32))), .val (.int (0 : Int32)), .unset] []))) (fun t ht => XS.icmpNo X0.here hx rfl (hb hby own_d3_44) rfl (XT.ii_ne_f hc44_28) ht) ?_
          refine own_step (U' := (s₁.setTop (mkF m 48 #[.val (.int p1), .val (.int (0 : Int32)), .val (.int (p1 ||| (32 : Int32))), .val (.int (0 : Int32)), .unset] [(.int (1 : Int32))]))) (fun t ht => XS.iconst X0.here hx rfl (hb hby own_d3_47) ht) ?_
          refine own_step (U' := (s₁.setTop (mkF m 52 #[.val (.int p1), .val (.int (0 : Int32)), .val (.int (p1 ||| (32 : Int32))), .val (.int (0 : Int32)), .unset] [(.int (1 : Int32))]))) (fun t ht => XS.goto X0.here hx rfl (pc0 := 48) (pc' := 52) rfl (hb hby own_d3_48) (by decide) (by decide) ht) ?_
          refine own_step (U' := (s₁.setTop (mkF m 54 #[.val (.int p1), .val (.int (0 : Int32)), .val (.int (p1 ||| (32 : Int32))), .val (.int (0 : Int32)), .val (.int (1 : Int32))] []))) (fun t ht => XS.istore X0.here hx rfl (hb hby own_d3_52) rfl (l' := #[.val (.int p1), .val (.int (0 : Int32)), .val (.int (p1 ||| (32 : Int32))), .val (.int (0 : Int32)), .val (.int (1 : Int32))]) rfl ht) ?_
          refine own_step (U' := (s₁.setTop (mkF m 55 #[.val (.int p1), .val (.int (0 : Int32)), .val (.int (p1 ||| (32 : Int32))), .val (.int (0 : Int32)), .val (.int (1 : Int32))] [(.int (0 : Int32))]))) (fun t ht => XS.iloadN X0.here hx rfl (hb hby own_d3_54) rfl ht) ?_
          refine own_step (U' := (s₁.setTop (mkF m 58 #[.val (.int p1), .val (.int (0 : Int32)), .val (.int (p1 ||| (32 : Int32))), .val (.int (0 : Int32)), .val (.int (1 : Int32))] []))) (fun t ht => XS.ifNo X0.here hx rfl (hb hby own_d3_55) rfl (XT.i0_ne_f ((by decide) : (0 : Int32) = 0)) ht) ?_
          refine own_step (U' := (s₁.setTop (mkF m 59 #[.val (.int p1), .val (.int (0 : Int32)), .val (.int (p1 ||| (32 : Int32))), .val (.int (0 : Int32)), .val (.int (1 : Int32))] [(.int (0 : Int32))]))) (fun t ht => XS.iloadN X0.here hx rfl (hb hby own_d3_58) rfl ht) ?_
          refine own_step (U' := (s₁.setTop (mkF m 62 #[.val (.int p1), .val (.int (0 : Int32)), .val (.int (p1 ||| (32 : Int32))), .val (.int (0 : Int32)), .val (.int (1 : Int32))] []))) (fun t ht => XS.ifNo X0.here hx rfl (hb hby own_d3_59) rfl (XT.i0_ne_f ((by decide) : (0 : Int32) = 0)) ht) ?_
          refine own_step (U' := (s₁.setTop (mkF m 64 #[.val (.int p1), .val (.int (0 : Int32)), .val (.int (p1 ||| (32 : Int32))), .val (.int (0 : Int32)), .val (.int (1 : Int32))] [(.int (1 : Int32))]))) (fun t ht => XS.iload X0.here hx rfl (hb hby own_d3_62) rfl ht) ?_
          refine own_step (U' := (s₁.setTop (mkF m 67 #[.val (.int p1), .val (.int (0 : Int32)), .val (.int (p1 ||| (32 : Int32))), .val (.int (0 : Int32)), .val (.int (1 : Int32))] []))) (fun t ht => XS.ifNo X0.here hx rfl (hb hby own_d3_64) rfl (XT.i0_eq_f ((by decide) : ¬ ((1 : Int32) = 0))) ht) ?_
          refine own_step (U' := (s₁.setTop (mkF m 68 #[.val (.int p1), .val (.int (0 : Int32)), .val (.int (p1 ||| (32 : Int32))), .val (.int (0 : Int32)), .val (.int (1 : Int32))] [(.int (1 : Int32))]))) (fun t ht => XS.iconst X0.here hx rfl (hb hby own_d3_67) ht) ?_
          refine own_step (U' := (s₁.setTop (mkF m 72 #[.val (.int p1), .val (.int (0 : Int32)), .val (.int (p1 ||| (32 : Int32))), .val (.int (0 : Int32)), .val (.int (1 : Int32))] [(.int (1 : Int32))]))) (fun t ht => XS.goto X0.here hx rfl (pc0 := 68) (pc' := 72) rfl (hb hby own_d3_68) (by decide) (by decide) ht) ?_
          refine own_ret X0 (v := (some (.int (nar .boolean (1 : Int32))))) (fun h => by rw [Bd.returns] at h; cases h) Bd.notSynchronized (by decide) (by decide) ?_ (fun fs hr => retN X0 hx (t := .boolean) Bd.returns (by simp) (hb hby own_d3_72) hr)
          show own_Q_exp Z p1 h0 n0 _ s₁.heap _
          rw [e0]
          refine ⟨?_, N0, rfl⟩
          simp [own_exp, nar, hc3_15, hc9_21, hc26_27, hc44_28]
        ·
          refine own_step (U' := (s₁.setTop (mkF m 51 #[.val (.int p1), .val (.int (0 : Int32)), .val (.int (p1 ||| (32 : Int32))), .val (.int (0 : Int32)), .unset] []))) (fun t ht => XS.icmpYes X0.here hx rfl (pc0 := 44) (pc' := 51) rfl (hb hby own_d3_44) rfl (XT.ii_ne_t hc44_28) (by decide) (by decide) ht) ?_
          refine own_step (U' := (s₁.setTop (mkF m 52 #[.val (.int p1), .val (.int (0 : Int32)), .val (.int (p1 ||| (32 : Int32))), .val (.int (0 : Int32)), .unset] [(.int (0 : Int32))]))) (fun t ht => XS.iconst X0.here hx rfl (hb hby own_d3_51) ht) ?_
          refine own_step (U' := (s₁.setTop (mkF m 54 #[.val (.int p1), .val (.int (0 : Int32)), .val (.int (p1 ||| (32 : Int32))), .val (.int (0 : Int32)), .val (.int (0 : Int32))] []))) (fun t ht => XS.istore X0.here hx rfl (hb hby own_d3_52) rfl (l' := #[.val (.int p1), .val (.int (0 : Int32)), .val (.int (p1 ||| (32 : Int32))), .val (.int (0 : Int32)), .val (.int (0 : Int32))]) rfl ht) ?_
          refine own_step (U' := (s₁.setTop (mkF m 55 #[.val (.int p1), .val (.int (0 : Int32)), .val (.int (p1 ||| (32 : Int32))), .val (.int (0 : Int32)), .val (.int (0 : Int32))] [(.int (0 : Int32))]))) (fun t ht => XS.iloadN X0.here hx rfl (hb hby own_d3_54) rfl ht) ?_
          refine own_step (U' := (s₁.setTop (mkF m 58 #[.val (.int p1), .val (.int (0 : Int32)), .val (.int (p1 ||| (32 : Int32))), .val (.int (0 : Int32)), .val (.int (0 : Int32))] []))) (fun t ht => XS.ifNo X0.here hx rfl (hb hby own_d3_55) rfl (XT.i0_ne_f ((by decide) : (0 : Int32) = 0)) ht) ?_
          refine own_step (U' := (s₁.setTop (mkF m 59 #[.val (.int p1), .val (.int (0 : Int32)), .val (.int (p1 ||| (32 : Int32))), .val (.int (0 : Int32)), .val (.int (0 : Int32))] [(.int (0 : Int32))]))) (fun t ht => XS.iloadN X0.here hx rfl (hb hby own_d3_58) rfl ht) ?_
          refine own_step (U' := (s₁.setTop (mkF m 62 #[.val (.int p1), .val (.int (0 : Int32)), .val (.int (p1 ||| (32 : Int32))), .val (.int (0 : Int32)), .val (.int (0 : Int32))] []))) (fun t ht => XS.ifNo X0.here hx rfl (hb hby own_d3_59) rfl (XT.i0_ne_f ((by decide) : (0 : Int32) = 0)) ht) ?_
          refine own_step (U' := (s₁.setTop (mkF m 64 #[.val (.int p1), .val (.int (0 : Int32)), .val (.int (p1 ||| (32 : Int32))), .val (.int (0 : Int32)), .val (.int (0 : Int32))] [(.int (0 : Int32))]))) (fun t ht => XS.iload X0.here hx rfl (hb hby own_d3_62) rfl ht) ?_
          refine own_step (U' := (s₁.setTop (mkF m 71 #[.val (.int p1), .val (.int (0 : Int32)), .val (.int (p1 ||| (32 : Int32))), .val (.int (0 : Int32)), .val (.int (0 : Int32))] []))) (fun t ht => XS.ifYes X0.here hx rfl (pc0 := 64) (pc' := 71) rfl (hb hby own_d3_64) rfl (XT.i0_eq_t ((by decide) : (0 : Int32) = 0)) (by decide) (by decide) ht) ?_
          refine own_step (U' := (s₁.setTop (mkF m 72 #[.val (.int p1), .val (.int (0 : Int32)), .val (.int (p1 ||| (32 : Int32))), .val (.int (0 : Int32)), .val (.int (0 : Int32))] [(.int (0 : Int32))]))) (fun t ht => XS.iconst X0.here hx rfl (hb hby own_d3_71) ht) ?_
          refine own_ret X0 (v := (some (.int (nar .boolean (0 : Int32))))) (fun h => by rw [Bd.returns] at h; cases h) Bd.notSynchronized (by decide) (by decide) ?_ (fun fs hr => retN X0 hx (t := .boolean) Bd.returns (by simp) (hb hby own_d3_72) hr)
          show own_Q_exp Z p1 h0 n0 _ s₁.heap _
          rw [e0]
          refine ⟨?_, N0, rfl⟩
          simp [own_exp, nar, hc3_15, hc9_21, hc26_27, hc44_28]
      ·
        refine own_step (U' := (s₁.setTop (mkF m 29 #[.val (.int p1), .val (.int (0 : Int32)), .val (.int (p1 ||| (32 : Int32))), .unset, .unset] []))) (fun t ht => XS.icmpNo X0.here hx rfl (hb hby own_d3_26) rfl (XT.ii_lt_f hc26_27) ht) ?_
        refine own_step (U' := (s₁.setTop (mkF m 30 #[.val (.int p1), .val (.int (0 : Int32)), .val (.int (p1 ||| (32 : Int32))), .unset, .unset] [(.int (p1 ||| (32 : Int32)))]))) (fun t ht => XS.iloadN X0.here hx rfl (hb hby own_d3_29) rfl ht) ?_
        refine own_step (U' := (s₁.setTop (mkF m 32 #[.val (.int p1), .val (.int (0 : Int32)), .val (.int (p1 ||| (32 : Int32))), .unset, .unset] [(.int (123 : Int32)), (.int (p1 ||| (32 : Int32)))]))) (fun t ht => XS.bipush X0.here hx rfl (hb hby own_d3_30) ht) ?_
        by_cases hc32_29 : (p1 ||| (32 : Int32)) < (123 : Int32)
        ·
          refine own_step (U' := (s₁.setTop (mkF m 35 #[.val (.int p1), .val (.int (0 : Int32)), .val (.int (p1 ||| (32 : Int32))), .unset, .unset] []))) (fun t ht => XS.icmpNo X0.here hx rfl (hb hby own_d3_32) rfl (XT.ii_ge_f hc32_29) ht) ?_
          refine own_step (U' := (s₁.setTop (mkF m 36 #[.val (.int p1), .val (.int (0 : Int32)), .val (.int (p1 ||| (32 : Int32))), .unset, .unset] [(.int (1 : Int32))]))) (fun t ht => XS.iconst X0.here hx rfl (hb hby own_d3_35) ht) ?_
          refine own_step (U' := (s₁.setTop (mkF m 40 #[.val (.int p1), .val (.int (0 : Int32)), .val (.int (p1 ||| (32 : Int32))), .unset, .unset] [(.int (1 : Int32))]))) (fun t ht => XS.goto X0.here hx rfl (pc0 := 36) (pc' := 40) rfl (hb hby own_d3_36) (by decide) (by decide) ht) ?_
          refine own_step (U' := (s₁.setTop (mkF m 41 #[.val (.int p1), .val (.int (0 : Int32)), .val (.int (p1 ||| (32 : Int32))), .val (.int (1 : Int32)), .unset] []))) (fun t ht => XS.istoreN X0.here hx rfl (hb hby own_d3_40) rfl (l' := #[.val (.int p1), .val (.int (0 : Int32)), .val (.int (p1 ||| (32 : Int32))), .val (.int (1 : Int32)), .unset]) rfl ht) ?_
          refine own_step (U' := (s₁.setTop (mkF m 42 #[.val (.int p1), .val (.int (0 : Int32)), .val (.int (p1 ||| (32 : Int32))), .val (.int (1 : Int32)), .unset] [(.int p1)]))) (fun t ht => XS.iloadN X0.here hx rfl (hb hby own_d3_41) rfl ht) ?_
          refine own_step (U' := (s₁.setTop (mkF m 44 #[.val (.int p1), .val (.int (0 : Int32)), .val (.int (p1 ||| (32 : Int32))), .val (.int (1 : Int32)), .unset] [(.int (45 : Int32)), (.int p1)]))) (fun t ht => XS.bipush X0.here hx rfl (hb hby own_d3_42) ht) ?_
          by_cases hc44_30 : p1 = (45 : Int32)
          ·
            refine own_step (U' := (s₁.setTop (mkF m 47 #[.val (.int p1), .val (.int (0 : Int32)), .val (.int (p1 ||| (32 : Int32))), .val (.int (1 : Int32)), .unset] []))) (fun t ht => XS.icmpNo X0.here hx rfl (hb hby own_d3_44) rfl (XT.ii_ne_f hc44_30) ht) ?_
            refine own_step (U' := (s₁.setTop (mkF m 48 #[.val (.int p1), .val (.int (0 : Int32)), .val (.int (p1 ||| (32 : Int32))), .val (.int (1 : Int32)), .unset] [(.int (1 : Int32))]))) (fun t ht => XS.iconst X0.here hx rfl (hb hby own_d3_47) ht) ?_
            refine own_step (U' := (s₁.setTop (mkF m 52 #[.val (.int p1), .val (.int (0 : Int32)), .val (.int (p1 ||| (32 : Int32))), .val (.int (1 : Int32)), .unset] [(.int (1 : Int32))]))) (fun t ht => XS.goto X0.here hx rfl (pc0 := 48) (pc' := 52) rfl (hb hby own_d3_48) (by decide) (by decide) ht) ?_
            refine own_step (U' := (s₁.setTop (mkF m 54 #[.val (.int p1), .val (.int (0 : Int32)), .val (.int (p1 ||| (32 : Int32))), .val (.int (1 : Int32)), .val (.int (1 : Int32))] []))) (fun t ht => XS.istore X0.here hx rfl (hb hby own_d3_52) rfl (l' := #[.val (.int p1), .val (.int (0 : Int32)), .val (.int (p1 ||| (32 : Int32))), .val (.int (1 : Int32)), .val (.int (1 : Int32))]) rfl ht) ?_
            refine own_step (U' := (s₁.setTop (mkF m 55 #[.val (.int p1), .val (.int (0 : Int32)), .val (.int (p1 ||| (32 : Int32))), .val (.int (1 : Int32)), .val (.int (1 : Int32))] [(.int (0 : Int32))]))) (fun t ht => XS.iloadN X0.here hx rfl (hb hby own_d3_54) rfl ht) ?_
            refine own_step (U' := (s₁.setTop (mkF m 58 #[.val (.int p1), .val (.int (0 : Int32)), .val (.int (p1 ||| (32 : Int32))), .val (.int (1 : Int32)), .val (.int (1 : Int32))] []))) (fun t ht => XS.ifNo X0.here hx rfl (hb hby own_d3_55) rfl (XT.i0_ne_f ((by decide) : (0 : Int32) = 0)) ht) ?_
            refine own_step (U' := (s₁.setTop (mkF m 59 #[.val (.int p1), .val (.int (0 : Int32)), .val (.int (p1 ||| (32 : Int32))), .val (.int (1 : Int32)), .val (.int (1 : Int32))] [(.int (1 : Int32))]))) (fun t ht => XS.iloadN X0.here hx rfl (hb hby own_d3_58) rfl ht) ?_
            refine own_step (U' := (s₁.setTop (mkF m 67 #[.val (.int p1), .val (.int (0 : Int32)), .val (.int (p1 ||| (32 : Int32))), .val (.int (1 : Int32)), .val (.int (1 : Int32))] []))) (fun t ht => XS.ifYes X0.here hx rfl (pc0 := 59) (pc' := 67) rfl (hb hby own_d3_59) rfl (XT.i0_ne_t ((by decide) : ¬ ((1 : Int32) = 0))) (by decide) (by decide) ht) ?_
            refine own_step (U' := (s₁.setTop (mkF m 68 #[.val (.int p1), .val (.int (0 : Int32)), .val (.int (p1 ||| (32 : Int32))), .val (.int (1 : Int32)), .val (.int (1 : Int32))] [(.int (1 : Int32))]))) (fun t ht => XS.iconst X0.here hx rfl (hb hby own_d3_67) ht) ?_
            refine own_step (U' := (s₁.setTop (mkF m 72 #[.val (.int p1), .val (.int (0 : Int32)), .val (.int (p1 ||| (32 : Int32))), .val (.int (1 : Int32)), .val (.int (1 : Int32))] [(.int (1 : Int32))]))) (fun t ht => XS.goto X0.here hx rfl (pc0 := 68) (pc' := 72) rfl (hb hby own_d3_68) (by decide) (by decide) ht) ?_
            refine own_ret X0 (v := (some (.int (nar .boolean (1 : Int32))))) (fun h => by rw [Bd.returns] at h; cases h) Bd.notSynchronized (by decide) (by decide) ?_ (fun fs hr => retN X0 hx (t := .boolean) Bd.returns (by simp) (hb hby own_d3_72) hr)
            show own_Q_exp Z p1 h0 n0 _ s₁.heap _
            rw [e0]
            refine ⟨?_, N0, rfl⟩
            simp [own_exp, nar, hc3_15, hc9_21, hc26_27, hc32_29, hc44_30]
          ·
            refine own_step (U' := (s₁.setTop (mkF m 51 #[.val (.int p1), .val (.int (0 : Int32)), .val (.int (p1 ||| (32 : Int32))), .val (.int (1 : Int32)), .unset] []))) (fun t ht => XS.icmpYes X0.here hx rfl (pc0 := 44) (pc' := 51) rfl (hb hby own_d3_44) rfl (XT.ii_ne_t hc44_30) (by decide) (by decide) ht) ?_
            refine own_step (U' := (s₁.setTop (mkF m 52 #[.val (.int p1), .val (.int (0 : Int32)), .val (.int (p1 ||| (32 : Int32))), .val (.int (1 : Int32)), .unset] [(.int (0 : Int32))]))) (fun t ht => XS.iconst X0.here hx rfl (hb hby own_d3_51) ht) ?_
            refine own_step (U' := (s₁.setTop (mkF m 54 #[.val (.int p1), .val (.int (0 : Int32)), .val (.int (p1 ||| (32 : Int32))), .val (.int (1 : Int32)), .val (.int (0 : Int32))] []))) (fun t ht => XS.istore X0.here hx rfl (hb hby own_d3_52) rfl (l' := #[.val (.int p1), .val (.int (0 : Int32)), .val (.int (p1 ||| (32 : Int32))), .val (.int (1 : Int32)), .val (.int (0 : Int32))]) rfl ht) ?_
            refine own_step (U' := (s₁.setTop (mkF m 55 #[.val (.int p1), .val (.int (0 : Int32)), .val (.int (p1 ||| (32 : Int32))), .val (.int (1 : Int32)), .val (.int (0 : Int32))] [(.int (0 : Int32))]))) (fun t ht => XS.iloadN X0.here hx rfl (hb hby own_d3_54) rfl ht) ?_
            refine own_step (U' := (s₁.setTop (mkF m 58 #[.val (.int p1), .val (.int (0 : Int32)), .val (.int (p1 ||| (32 : Int32))), .val (.int (1 : Int32)), .val (.int (0 : Int32))] []))) (fun t ht => XS.ifNo X0.here hx rfl (hb hby own_d3_55) rfl (XT.i0_ne_f ((by decide) : (0 : Int32) = 0)) ht) ?_
            refine own_step (U' := (s₁.setTop (mkF m 59 #[.val (.int p1), .val (.int (0 : Int32)), .val (.int (p1 ||| (32 : Int32))), .val (.int (1 : Int32)), .val (.int (0 : Int32))] [(.int (1 : Int32))]))) (fun t ht => XS.iloadN X0.here hx rfl (hb hby own_d3_58) rfl ht) ?_
            refine own_step (U' := (s₁.setTop (mkF m 67 #[.val (.int p1), .val (.int (0 : Int32)), .val (.int (p1 ||| (32 : Int32))), .val (.int (1 : Int32)), .val (.int (0 : Int32))] []))) (fun t ht => XS.ifYes X0.here hx rfl (pc0 := 59) (pc' := 67) rfl (hb hby own_d3_59) rfl (XT.i0_ne_t ((by decide) : ¬ ((1 : Int32) = 0))) (by decide) (by decide) ht) ?_
            refine own_step (U' := (s₁.setTop (mkF m 68 #[.val (.int p1), .val (.int (0 : Int32)), .val (.int (p1 ||| (32 : Int32))), .val (.int (1 : Int32)), .val (.int (0 : Int32))] [(.int (1 : Int32))]))) (fun t ht => XS.iconst X0.here hx rfl (hb hby own_d3_67) ht) ?_
            refine own_step (U' := (s₁.setTop (mkF m 72 #[.val (.int p1), .val (.int (0 : Int32)), .val (.int (p1 ||| (32 : Int32))), .val (.int (1 : Int32)), .val (.int (0 : Int32))] [(.int (1 : Int32))]))) (fun t ht => XS.goto X0.here hx rfl (pc0 := 68) (pc' := 72) rfl (hb hby own_d3_68) (by decide) (by decide) ht) ?_
            refine own_ret X0 (v := (some (.int (nar .boolean (1 : Int32))))) (fun h => by rw [Bd.returns] at h; cases h) Bd.notSynchronized (by decide) (by decide) ?_ (fun fs hr => retN X0 hx (t := .boolean) Bd.returns (by simp) (hb hby own_d3_72) hr)
            show own_Q_exp Z p1 h0 n0 _ s₁.heap _
            rw [e0]
            refine ⟨?_, N0, rfl⟩
            simp [own_exp, nar, hc3_15, hc9_21, hc26_27, hc32_29, hc44_30]
        ·
          refine own_step (U' := (s₁.setTop (mkF m 39 #[.val (.int p1), .val (.int (0 : Int32)), .val (.int (p1 ||| (32 : Int32))), .unset, .unset] []))) (fun t ht => XS.icmpYes X0.here hx rfl (pc0 := 32) (pc' := 39) rfl (hb hby own_d3_32) rfl (XT.ii_ge_t hc32_29) (by decide) (by decide) ht) ?_
          refine own_step (U' := (s₁.setTop (mkF m 40 #[.val (.int p1), .val (.int (0 : Int32)), .val (.int (p1 ||| (32 : Int32))), .unset, .unset] [(.int (0 : Int32))]))) (fun t ht => XS.iconst X0.here hx rfl (hb hby own_d3_39) ht) ?_
          refine own_step (U' := (s₁.setTop (mkF m 41 #[.val (.int p1), .val (.int (0 : Int32)), .val (.int (p1 ||| (32 : Int32))), .val (.int (0 : Int32)), .unset] []))) (fun t ht => XS.istoreN X0.here hx rfl (hb hby own_d3_40) rfl (l' := #[.val (.int p1), .val (.int (0 : Int32)), .val (.int (p1 ||| (32 : Int32))), .val (.int (0 : Int32)), .unset]) rfl ht) ?_
          refine own_step (U' := (s₁.setTop (mkF m 42 #[.val (.int p1), .val (.int (0 : Int32)), .val (.int (p1 ||| (32 : Int32))), .val (.int (0 : Int32)), .unset] [(.int p1)]))) (fun t ht => XS.iloadN X0.here hx rfl (hb hby own_d3_41) rfl ht) ?_
          refine own_step (U' := (s₁.setTop (mkF m 44 #[.val (.int p1), .val (.int (0 : Int32)), .val (.int (p1 ||| (32 : Int32))), .val (.int (0 : Int32)), .unset] [(.int (45 : Int32)), (.int p1)]))) (fun t ht => XS.bipush X0.here hx rfl (hb hby own_d3_42) ht) ?_
          by_cases hc44_31 : p1 = (45 : Int32)
          ·
            refine own_step (U' := (s₁.setTop (mkF m 47 #[.val (.int p1), .val (.int (0 : Int32)), .val (.int (p1 ||| (32 : Int32))), .val (.int (0 : Int32)), .unset] []))) (fun t ht => XS.icmpNo X0.here hx rfl (hb hby own_d3_44) rfl (XT.ii_ne_f hc44_31) ht) ?_
            refine own_step (U' := (s₁.setTop (mkF m 48 #[.val (.int p1), .val (.int (0 : Int32)), .val (.int (p1 ||| (32 : Int32))), .val (.int (0 : Int32)), .unset] [(.int (1 : Int32))]))) (fun t ht => XS.iconst X0.here hx rfl (hb hby own_d3_47) ht) ?_
            refine own_step (U' := (s₁.setTop (mkF m 52 #[.val (.int p1), .val (.int (0 : Int32)), .val (.int (p1 ||| (32 : Int32))), .val (.int (0 : Int32)), .unset] [(.int (1 : Int32))]))) (fun t ht => XS.goto X0.here hx rfl (pc0 := 48) (pc' := 52) rfl (hb hby own_d3_48) (by decide) (by decide) ht) ?_
            refine own_step (U' := (s₁.setTop (mkF m 54 #[.val (.int p1), .val (.int (0 : Int32)), .val (.int (p1 ||| (32 : Int32))), .val (.int (0 : Int32)), .val (.int (1 : Int32))] []))) (fun t ht => XS.istore X0.here hx rfl (hb hby own_d3_52) rfl (l' := #[.val (.int p1), .val (.int (0 : Int32)), .val (.int (p1 ||| (32 : Int32))), .val (.int (0 : Int32)), .val (.int (1 : Int32))]) rfl ht) ?_
            refine own_step (U' := (s₁.setTop (mkF m 55 #[.val (.int p1), .val (.int (0 : Int32)), .val (.int (p1 ||| (32 : Int32))), .val (.int (0 : Int32)), .val (.int (1 : Int32))] [(.int (0 : Int32))]))) (fun t ht => XS.iloadN X0.here hx rfl (hb hby own_d3_54) rfl ht) ?_
            refine own_step (U' := (s₁.setTop (mkF m 58 #[.val (.int p1), .val (.int (0 : Int32)), .val (.int (p1 ||| (32 : Int32))), .val (.int (0 : Int32)), .val (.int (1 : Int32))] []))) (fun t ht => XS.ifNo X0.here hx rfl (hb hby own_d3_55) rfl (XT.i0_ne_f ((by decide) : (0 : Int32) = 0)) ht) ?_
            refine own_step (U' := (s₁.setTop (mkF m 59 #[.val (.int p1), .val (.int (0 : Int32)), .val (.int (p1 ||| (32 : Int32))), .val (.int (0 : Int32)), .val (.int (1 : Int32))] [(.int (0 : Int32))]))) (fun t ht => XS.iloadN X0.here hx rfl (hb hby own_d3_58) rfl ht) ?_
            refine own_step (U' := (s₁.setTop (mkF m 62 #[.val (.int p1), .val (.int (0 : Int32)), .val (.int (p1 ||| (32 : Int32))), .val (.int (0 : Int32)), .val (.int (1 : Int32))] []))) (fun t ht => XS.ifNo X0.here hx rfl (hb hby own_d3_59) rfl (XT.i0_ne_f ((by decide) : (0 : Int32) = 0)) ht) ?_
            refine own_step (U' := (s₁.setTop (mkF m 64 #[.val (.int p1), .val (.int (0 : Int32)), .val (.int (p1 ||| (32 : Int32))), .val (.int (0 : Int32)), .val (.int (1 : Int32))] [(.int (1 : Int32))]))) (fun t ht => XS.iload X0.here hx rfl (hb hby own_d3_62) rfl ht) ?_
            refine own_step (U' := (s₁.setTop (mkF m 67 #[.val (.int p1), .val (.int (0 : Int32)), .val (.int (p1 ||| (32 : Int32))), .val (.int (0 : Int32)), .val (.int (1 : Int32))] []))) (fun t ht => XS.ifNo X0.here hx rfl (hb hby own_d3_64) rfl (XT.i0_eq_f ((by decide) : ¬ ((1 : Int32) = 0))) ht) ?_
            refine own_step (U' := (s₁.setTop (mkF m 68 #[.val (.int p1), .val (.int (0 : Int32)), .val (.int (p1 ||| (32 : Int32))), .val (.int (0 : Int32)), .val (.int (1 : Int32))] [(.int (1 : Int32))]))) (fun t ht => XS.iconst X0.here hx rfl (hb hby own_d3_67) ht) ?_
            refine own_step (U' := (s₁.setTop (mkF m 72 #[.val (.int p1), .val (.int (0 : Int32)), .val (.int (p1 ||| (32 : Int32))), .val (.int (0 : Int32)), .val (.int (1 : Int32))] [(.int (1 : Int32))]))) (fun t ht => XS.goto X0.here hx rfl (pc0 := 68) (pc' := 72) rfl (hb hby own_d3_68) (by decide) (by decide) ht) ?_
            refine own_ret X0 (v := (some (.int (nar .boolean (1 : Int32))))) (fun h => by rw [Bd.returns] at h; cases h) Bd.notSynchronized (by decide) (by decide) ?_ (fun fs hr => retN X0 hx (t := .boolean) Bd.returns (by simp) (hb hby own_d3_72) hr)
            show own_Q_exp Z p1 h0 n0 _ s₁.heap _
            rw [e0]
            refine ⟨?_, N0, rfl⟩
            simp [own_exp, nar, hc3_15, hc9_21, hc26_27, hc32_29, hc44_31]
          ·
            refine own_step (U' := (s₁.setTop (mkF m 51 #[.val (.int p1), .val (.int (0 : Int32)), .val (.int (p1 ||| (32 : Int32))), .val (.int (0 : Int32)), .unset] []))) (fun t ht => XS.icmpYes X0.here hx rfl (pc0 := 44) (pc' := 51) rfl (hb hby own_d3_44) rfl (XT.ii_ne_t hc44_31) (by decide) (by decide) ht) ?_
            refine own_step (U' := (s₁.setTop (mkF m 52 #[.val (.int p1), .val (.int (0 : Int32)), .val (.int (p1 ||| (32 : Int32))), .val (.int (0 : Int32)), .unset] [(.int (0 : Int32))]))) (fun t ht => XS.iconst X0.here hx rfl (hb hby own_d3_51) ht) ?_
            refine own_step (U' := (s₁.setTop (mkF m 54 #[.val (.int p1), .val (.int (0 : Int32)), .val (.int (p1 ||| (32 : Int32))), .val (.int (0 : Int32)), .val (.int (0 : Int32))] []))) (fun t ht => XS.istore X0.here hx rfl (hb hby own_d3_52) rfl (l' := #[.val (.int p1), .val (.int (0 : Int32)), .val (.int (p1 ||| (32 : Int32))), .val (.int (0 : Int32)), .val (.int (0 : Int32))]) rfl ht) ?_
            refine own_step (U' := (s₁.setTop (mkF m 55 #[.val (.int p1), .val (.int (0 : Int32)), .val (.int (p1 ||| (32 : Int32))), .val (.int (0 : Int32)), .val (.int (0 : Int32))] [(.int (0 : Int32))]))) (fun t ht => XS.iloadN X0.here hx rfl (hb hby own_d3_54) rfl ht) ?_
            refine own_step (U' := (s₁.setTop (mkF m 58 #[.val (.int p1), .val (.int (0 : Int32)), .val (.int (p1 ||| (32 : Int32))), .val (.int (0 : Int32)), .val (.int (0 : Int32))] []))) (fun t ht => XS.ifNo X0.here hx rfl (hb hby own_d3_55) rfl (XT.i0_ne_f ((by decide) : (0 : Int32) = 0)) ht) ?_
            refine own_step (U' := (s₁.setTop (mkF m 59 #[.val (.int p1), .val (.int (0 : Int32)), .val (.int (p1 ||| (32 : Int32))), .val (.int (0 : Int32)), .val (.int (0 : Int32))] [(.int (0 : Int32))]))) (fun t ht => XS.iloadN X0.here hx rfl (hb hby own_d3_58) rfl ht) ?_
            refine own_step (U' := (s₁.setTop (mkF m 62 #[.val (.int p1), .val (.int (0 : Int32)), .val (.int (p1 ||| (32 : Int32))), .val (.int (0 : Int32)), .val (.int (0 : Int32))] []))) (fun t ht => XS.ifNo X0.here hx rfl (hb hby own_d3_59) rfl (XT.i0_ne_f ((by decide) : (0 : Int32) = 0)) ht) ?_
            refine own_step (U' := (s₁.setTop (mkF m 64 #[.val (.int p1), .val (.int (0 : Int32)), .val (.int (p1 ||| (32 : Int32))), .val (.int (0 : Int32)), .val (.int (0 : Int32))] [(.int (0 : Int32))]))) (fun t ht => XS.iload X0.here hx rfl (hb hby own_d3_62) rfl ht) ?_
            refine own_step (U' := (s₁.setTop (mkF m 71 #[.val (.int p1), .val (.int (0 : Int32)), .val (.int (p1 ||| (32 : Int32))), .val (.int (0 : Int32)), .val (.int (0 : Int32))] []))) (fun t ht => XS.ifYes X0.here hx rfl (pc0 := 64) (pc' := 71) rfl (hb hby own_d3_64) rfl (XT.i0_eq_t ((by decide) : (0 : Int32) = 0)) (by decide) (by decide) ht) ?_
            refine own_step (U' := (s₁.setTop (mkF m 72 #[.val (.int p1), .val (.int (0 : Int32)), .val (.int (p1 ||| (32 : Int32))), .val (.int (0 : Int32)), .val (.int (0 : Int32))] [(.int (0 : Int32))]))) (fun t ht => XS.iconst X0.here hx rfl (hb hby own_d3_71) ht) ?_
            refine own_ret X0 (v := (some (.int (nar .boolean (0 : Int32))))) (fun h => by rw [Bd.returns] at h; cases h) Bd.notSynchronized (by decide) (by decide) ?_ (fun fs hr => retN X0 hx (t := .boolean) Bd.returns (by simp) (hb hby own_d3_72) hr)
            show own_Q_exp Z p1 h0 n0 _ s₁.heap _
            rw [e0]
            refine ⟨?_, N0, rfl⟩
            simp [own_exp, nar, hc3_15, hc9_21, hc26_27, hc32_29, hc44_31]
def own_Q_law (Z : State) (p1 : Int32) (p2 : Int32) (h0 : Heap) (n0 : Nat) (v : Option Value) (h : Heap) (L : List Loc) : Prop := v = some (.int 1) ∧ Fr n0 L
set_option maxRecDepth 65536 in
set_option maxHeartbeats 40000000 in
theorem own_m_law (l : Launch) (Z : State) (a0 : Array Value) (hw : ∀ d ∈ tables_1, d.before a0 Z = true) (ws : List Jvm.Cond) (p1 : Int32) (p2 : Int32) (h0 : Heap) (n0 : Nat) (Z0 : n0 ≤ h0.size)  :
    MetFree l x (head1 (Jvm.Cond.code x code maxLocals ret :: ws) room_1) (fun a U => a = #[(.int p1), (.int p2)] ∧ Z.Warmed39 U.vm ∧ U.heap = h0) (fun _ _ _ _ _ => True) (fun _ U o U' => ∃ v L, o = .returned v ∧ own_Q_law Z p1 p2 h0 n0 v U'.heap L ∧ FrameEnd U o U' L 0 0) := by
  refine MetFree.of_bodySF (plainFor_of_name own_pn1) hisR ?_
  intro p e s m args below meth c s₁ Bd hml0 hP hK
  obtain ⟨rfl, hZ, hh⟩ := hP
  have hx := Bd.exec
  have hby := Bd.bytes
  have hml : c.maxLocals = 4 := hml0
  have hown : s.vm.findClass "com/example/version_parser/versionparser/SemVerReaderIsIdentifierCharacterPinLaw" = some m.cls := findClass_of_methodNamed Bd.named
  have hnm := (name_of_methodNamed Bd.named Bd.method).1
  have X0 : Stand p l e room_1 s m #[(.int p1), (.int p2)] below meth c s₁ [] 0 0 := Stand.of_body Bd
  have e0 : s₁.heap = h0 := by rw [← hh, Bd.state]; rfl
  have N0 := Fr.nil n0
  have K0 : Keep h0 h0 [] := Keep.refl _ _
  show own_Go p e below s 0 0 (own_Q_law Z p1 p2 h0 n0) (s₁.setTop (entryFrame m #[(.int p1), (.int p2)] maxLocals))
  have ef : entryFrame m #[(.int p1), (.int p2)] maxLocals = (mkF m 0 #[.val (.int p1), .val (.int p2), .unset, .unset] []) := by first | rfl | (simp [entryFrame, mkF, argsToLocals, Value.category, maxLocals]; done)
  rw [ef]
  show own_Go p e below s _ _ _ (s₁.setTop (mkF m 0 #[.val (.int p1), .val (.int p2), .unset, .unset] []))
  have tail48 : ∀ (md : Int32) (ch : Int32), own_Go p e below s 0 0 (own_Q_law Z p1 p2 h0 n0) (s₁.setTop (mkF m 48 #[.val (.int p1), .val (.int p2), .val (.int md), .val (.int ch)] [])) := by
    intro md ch
    refine own_step (U' := (s₁.setTop (mkF m 49 #[.val (.int p1), .val (.int p2), .val (.int md), .val (.int ch)] [(.int ch)]))) (fun t ht => XS.iloadN X0.here hx rfl (hb hby at_48) rfl ht) ?_
    obtain ⟨_, _, ⟨T32, L32, k32, n32⟩, -, X32, ⟨Lc32, hQ32, l32, y32, z32⟩, st32⟩ := Jvm.LawKit.callS X0 hx (y := (⟨"com/example/version_parser/versionparser/SemVerReader", "isIdentifierCharacter", "(I)Z"⟩ : MethodName)) hown (mvT hZ (hw _ (List.mem_of_getElem? (i := 0) rfl))) (mvT hZ (hw _ (List.mem_of_getElem? (i := 1) rfl))) (mvT hZ (hw _ (List.mem_of_getElem? (i := 2) rfl))) (mvT hZ (hw _ (List.mem_of_getElem? (i := 3) rfl))) (by decide) (backOf (W := 0) (own_m_idc l Z a0 hw [] (ch) h0 n0 Z0 ) hZ (hw _ (List.mem_of_getElem? (i := 3) rfl)) (hw _ (List.mem_of_getElem? (i := 2) rfl)) (by decide) (by decide)) (g := (mkF m 49 #[.val (.int p1), .val (.int p2), .val (.int md), .val (.int ch)] [(.int ch)])) rfl (by rw [hml]; rfl) (argsL := [(.int ch)]) (rest := []) (lenOf own_pd0 rfl) rfl (by show 2 * 0 + _ ≤ _; exact Nat.le_of_eq rfl) (hb hby at_49) (fun _ _ => ⟨rfl, e0, (by decide : 0 + 0 ≤ _), (by decide : 0 + 0 ≤ _)⟩)
    dsimp only [Pt.U, Pt.locs, Pt.cells, Pt.slots] at X32 l32 y32 z32 st32 hQ32
    subst l32 y32 z32
    obtain ⟨rfl, Nq32, Kq32⟩ := hQ32
    have N32 := Fr.app N0 Nq32
    have e32 : T32.heap = h0 := Kq32
    refine own_step (U' := (T32.setTop (mkF m 52 #[.val (.int p1), .val (.int p2), .val (.int md), .val (.int ch)] [(.int (own_idc ch))]))) (fun t ht => st32 _ ht) ?_
    refine own_step (U' := (T32.setTop (mkF m 53 #[.val (.int p1), .val (.int p2), .val (.int md), .val (.int ch)] [(.int ch), (.int (own_idc ch))]))) (fun t ht => XS.iloadN X32.here hx rfl (hb hby at_52) rfl ht) ?_
    obtain ⟨_, _, ⟨T33, L33, k33, n33⟩, -, X33, ⟨Lc33, hQ33, l33, y33, z33⟩, st33⟩ := Jvm.LawKit.callS X32 hx (y := (⟨"com/example/version_parser/versionparser/SemVerReaderIsIdentifierCharacterPinLaw", "expected", "(I)Z"⟩ : MethodName)) hown (mvT hZ (hw _ (List.mem_of_getElem? (i := 7) rfl))) (mvT hZ (hw _ (List.mem_of_getElem? (i := 8) rfl))) (mvT hZ (hw _ (List.mem_of_getElem? (i := 9) rfl))) (mvT hZ (hw _ (List.mem_of_getElem? (i := 10) rfl))) (by decide) (backOf (W := 1) (own_m_exp l Z a0 hw [] (ch) h0 n0 Z0 ) hZ (hw _ (List.mem_of_getElem? (i := 10) rfl)) (hw _ (List.mem_of_getElem? (i := 9) rfl)) (by decide) (by decide)) (g := (mkF m 53 #[.val (.int p1), .val (.int p2), .val (.int md), .val (.int ch)] [(.int ch), (.int (own_idc ch))])) rfl (by rw [hml]; rfl) (argsL := [(.int ch)]) (rest := [(.int (own_idc ch))]) (lenOf own_pd0 rfl) rfl (by show 2 * 0 + _ ≤ _; exact Nat.le_of_eq rfl) (hb hby at_53) (fun _ _ => ⟨rfl, e32, (by decide : 0 + 0 ≤ _), (by decide : 0 + 0 ≤ _)⟩)
    dsimp only [Pt.U, Pt.locs, Pt.cells, Pt.slots] at X33 l33 y33 z33 st33 hQ33
    subst l33 y33 z33
    obtain ⟨rfl, Nq33, Kq33⟩ := hQ33
    have N33 := Fr.app N32 Nq33
    have e33 : T33.heap = h0 := Kq33
    refine own_step (U' := (T33.setTop (mkF m 56 #[.val (.int p1), .val (.int p2), .val (.int md), .val (.int ch)] [(.int (own_exp ch)), (.int (own_idc ch))]))) (fun t ht => st33 _ ht) ?_
    refine own_step (U' := (T33.setTop (mkF m 59 #[.val (.int p1), .val (.int p2), .val (.int md), .val (.int ch)] []))) (fun t ht => XS.icmpNo X33.here hx rfl (hb hby at_56) rfl (XT.ii_ne_f ((own_idexp ch) : (own_idc ch) = (own_exp ch))) ht) ?_
    refine own_step (U' := (T33.setTop (mkF m 60 #[.val (.int p1), .val (.int p2), .val (.int md), .val (.int ch)] [(.int (1 : Int32))]))) (fun t ht => XS.iconst X33.here hx rfl (hb hby at_59) ht) ?_
    refine own_step (U' := (T33.setTop (mkF m 64 #[.val (.int p1), .val (.int p2), .val (.int md), .val (.int ch)] [(.int (1 : Int32))]))) (fun t ht => XS.goto X33.here hx rfl (pc0 := 60) (pc' := 64) rfl (hb hby at_60) (by decide) (by decide) ht) ?_
    refine own_ret X33 (v := (some (.int (nar .boolean (1 : Int32))))) (fun h => by rw [Bd.returns] at h; cases h) Bd.notSynchronized (by decide) (by decide) ?_ (fun fs hr => retN X33 hx (t := .boolean) Bd.returns (by simp) (hb hby at_64) hr)
    show own_Q_law Z p1 p2 h0 n0 _ T33.heap _
    rw [e33]
    exact ⟨rfl, N33⟩
  refine own_step (U' := (s₁.setTop (mkF m 1 #[.val (.int p1), .val (.int p2), .unset, .unset] [(.int p2)]))) (fun t ht => XS.iloadN X0.here hx rfl (hb hby at_0) rfl ht) ?_
  refine own_step (U' := (s₁.setTop (mkF m 2 #[.val (.int p1), .val (.int p2), .unset, .unset] [(.int (3 : Int32)), (.int p2)]))) (fun t ht => XS.iconst X0.here hx rfl (hb hby at_1) ht) ?_
  refine own_step (U' := (s₁.setTop (mkF m 3 #[.val (.int p1), .val (.int p2), .unset, .unset] [(.int (p2 &&& (3 : Int32)))]))) (fun t ht => XS.iand X0.here hx rfl (hb hby at_2) rfl ht) ?_
  refine own_step (U' := (s₁.setTop (mkF m 4 #[.val (.int p1), .val (.int p2), .val (.int (p2 &&& (3 : Int32))), .unset] []))) (fun t ht => XS.istoreN X0.here hx rfl (hb hby at_3) rfl (l' := #[.val (.int p1), .val (.int p2), .val (.int (p2 &&& (3 : Int32))), .unset]) rfl ht) ?_
  refine own_step (U' := (s₁.setTop (mkF m 5 #[.val (.int p1), .val (.int p2), .val (.int (p2 &&& (3 : Int32))), .unset] [(.int (p2 &&& (3 : Int32)))]))) (fun t ht => XS.iloadN X0.here hx rfl (hb hby at_4) rfl ht) ?_
  by_cases hc5_34 : (p2 &&& (3 : Int32)) = 0
  ·
    refine own_step (U' := (s₁.setTop (mkF m 8 #[.val (.int p1), .val (.int p2), .val (.int (p2 &&& (3 : Int32))), .unset] []))) (fun t ht => XS.ifNo X0.here hx rfl (hb hby at_5) rfl (XT.i0_ne_f hc5_34) ht) ?_
    refine own_step (U' := (s₁.setTop (mkF m 9 #[.val (.int p1), .val (.int p2), .val (.int (p2 &&& (3 : Int32))), .unset] [(.int p1)]))) (fun t ht => XS.iloadN X0.here hx rfl (hb hby at_8) rfl ht) ?_
    refine own_step (U' := (s₁.setTop (mkF m 11 #[.val (.int p1), .val (.int p2), .val (.int (p2 &&& (3 : Int32))), .unset] [(.int (127 : Int32)), (.int p1)]))) (fun t ht => XS.bipush X0.here hx rfl (hb hby at_9) ht) ?_
    refine own_step (U' := (s₁.setTop (mkF m 12 #[.val (.int p1), .val (.int p2), .val (.int (p2 &&& (3 : Int32))), .unset] [(.int (p1 &&& (127 : Int32)))]))) (fun t ht => XS.iand X0.here hx rfl (hb hby at_11) rfl ht) ?_
    refine own_step (U' := (s₁.setTop (mkF m 13 #[.val (.int p1), .val (.int p2), .val (.int (p2 &&& (3 : Int32))), .val (.int (p1 &&& (127 : Int32)))] []))) (fun t ht => XS.istoreN X0.here hx rfl (hb hby at_12) rfl (l' := #[.val (.int p1), .val (.int p2), .val (.int (p2 &&& (3 : Int32))), .val (.int (p1 &&& (127 : Int32)))]) rfl ht) ?_
    refine own_step (U' := (s₁.setTop (mkF m 48 #[.val (.int p1), .val (.int p2), .val (.int (p2 &&& (3 : Int32))), .val (.int (p1 &&& (127 : Int32)))] []))) (fun t ht => XS.goto X0.here hx rfl (pc0 := 13) (pc' := 48) rfl (hb hby at_13) (by decide) (by decide) ht) ?_
    exact tail48 ((p2 &&& (3 : Int32))) ((p1 &&& (127 : Int32))) 
  ·
    refine own_step (U' := (s₁.setTop (mkF m 16 #[.val (.int p1), .val (.int p2), .val (.int (p2 &&& (3 : Int32))), .unset] []))) (fun t ht => XS.ifYes X0.here hx rfl (pc0 := 5) (pc' := 16) rfl (hb hby at_5) rfl (XT.i0_ne_t hc5_34) (by decide) (by decide) ht) ?_
    refine own_step (U' := (s₁.setTop (mkF m 17 #[.val (.int p1), .val (.int p2), .val (.int (p2 &&& (3 : Int32))), .unset] [(.int (p2 &&& (3 : Int32)))]))) (fun t ht => XS.iloadN X0.here hx rfl (hb hby at_16) rfl ht) ?_
    refine own_step (U' := (s₁.setTop (mkF m 18 #[.val (.int p1), .val (.int p2), .val (.int (p2 &&& (3 : Int32))), .unset] [(.int (1 : Int32)), (.int (p2 &&& (3 : Int32)))]))) (fun t ht => XS.iconst X0.here hx rfl (hb hby at_17) ht) ?_
    by_cases hc18_35 : (p2 &&& (3 : Int32)) = (1 : Int32)
    ·
      refine own_step (U' := (s₁.setTop (mkF m 21 #[.val (.int p1), .val (.int p2), .val (.int (p2 &&& (3 : Int32))), .unset] []))) (fun t ht => XS.icmpNo X0.here hx rfl (hb hby at_18) rfl (XT.ii_ne_f hc18_35) ht) ?_
      refine own_step (U' := (s₁.setTop (mkF m 22 #[.val (.int p1), .val (.int p2), .val (.int (p2 &&& (3 : Int32))), .unset] [(.int p1)]))) (fun t ht => XS.iloadN X0.here hx rfl (hb hby at_21) rfl ht) ?_
      refine own_step (U' := (s₁.setTop (mkF m 24 #[.val (.int p1), .val (.int p2), .val (.int (p2 &&& (3 : Int32))), .unset] [(.int (65535 : Int32)), (.int p1)]))) (fun t ht => X0.ldcInt hx hown (mvT hZ (hw _ (List.mem_of_getElem? (i := 11) rfl))) (g := (mkF m 22 #[.val (.int p1), .val (.int p2), .val (.int (p2 &&& (3 : Int32))), .unset] [(.int p1)])) rfl (hb hby at_22) _ ht) ?_
      refine own_step (U' := (s₁.setTop (mkF m 25 #[.val (.int p1), .val (.int p2), .val (.int (p2 &&& (3 : Int32))), .unset] [(.int (p1 &&& (65535 : Int32)))]))) (fun t ht => XS.iand X0.here hx rfl (hb hby at_24) rfl ht) ?_
      refine own_step (U' := (s₁.setTop (mkF m 26 #[.val (.int p1), .val (.int p2), .val (.int (p2 &&& (3 : Int32))), .val (.int (p1 &&& (65535 : Int32)))] []))) (fun t ht => XS.istoreN X0.here hx rfl (hb hby at_25) rfl (l' := #[.val (.int p1), .val (.int p2), .val (.int (p2 &&& (3 : Int32))), .val (.int (p1 &&& (65535 : Int32)))]) rfl ht) ?_
      refine own_step (U' := (s₁.setTop (mkF m 48 #[.val (.int p1), .val (.int p2), .val (.int (p2 &&& (3 : Int32))), .val (.int (p1 &&& (65535 : Int32)))] []))) (fun t ht => XS.goto X0.here hx rfl (pc0 := 26) (pc' := 48) rfl (hb hby at_26) (by decide) (by decide) ht) ?_
      exact tail48 ((p2 &&& (3 : Int32))) ((p1 &&& (65535 : Int32))) 
    ·
      refine own_step (U' := (s₁.setTop (mkF m 29 #[.val (.int p1), .val (.int p2), .val (.int (p2 &&& (3 : Int32))), .unset] []))) (fun t ht => XS.icmpYes X0.here hx rfl (pc0 := 18) (pc' := 29) rfl (hb hby at_18) rfl (XT.ii_ne_t hc18_35) (by decide) (by decide) ht) ?_
      refine own_step (U' := (s₁.setTop (mkF m 30 #[.val (.int p1), .val (.int p2), .val (.int (p2 &&& (3 : Int32))), .unset] [(.int (p2 &&& (3 : Int32)))]))) (fun t ht => XS.iloadN X0.here hx rfl (hb hby at_29) rfl ht) ?_
      refine own_step (U' := (s₁.setTop (mkF m 31 #[.val (.int p1), .val (.int p2), .val (.int (p2 &&& (3 : Int32))), .unset] [(.int (2 : Int32)), (.int (p2 &&& (3 : Int32)))]))) (fun t ht => XS.iconst X0.here hx rfl (hb hby at_30) ht) ?_
      by_cases hc31_36 : (p2 &&& (3 : Int32)) = (2 : Int32)
      ·
        refine own_step (U' := (s₁.setTop (mkF m 34 #[.val (.int p1), .val (.int p2), .val (.int (p2 &&& (3 : Int32))), .unset] []))) (fun t ht => XS.icmpNo X0.here hx rfl (hb hby at_31) rfl (XT.ii_ne_f hc31_36) ht) ?_
        refine own_step (U' := (s₁.setTop (mkF m 35 #[.val (.int p1), .val (.int p2), .val (.int (p2 &&& (3 : Int32))), .unset] [(.int p1)]))) (fun t ht => XS.iloadN X0.here hx rfl (hb hby at_34) rfl ht) ?_
        refine own_step (U' := (s₁.setTop (mkF m 38 #[.val (.int p1), .val (.int p2), .val (.int (p2 &&& (3 : Int32))), .unset] [(.int (255 : Int32)), (.int p1)]))) (fun t ht => XS.sipush X0.here hx rfl (hb hby at_35) ht) ?_
        refine own_step (U' := (s₁.setTop (mkF m 39 #[.val (.int p1), .val (.int p2), .val (.int (p2 &&& (3 : Int32))), .unset] [(.int (p1 &&& (255 : Int32)))]))) (fun t ht => XS.iand X0.here hx rfl (hb hby at_38) rfl ht) ?_
        refine own_step (U' := (s₁.setTop (mkF m 41 #[.val (.int p1), .val (.int p2), .val (.int (p2 &&& (3 : Int32))), .unset] [(.int (64 : Int32)), (.int (p1 &&& (255 : Int32)))]))) (fun t ht => XS.bipush X0.here hx rfl (hb hby at_39) ht) ?_
        refine own_step (U' := (s₁.setTop (mkF m 42 #[.val (.int p1), .val (.int p2), .val (.int (p2 &&& (3 : Int32))), .unset] [(.int ((p1 &&& (255 : Int32)) - (64 : Int32)))]))) (fun t ht => XS.isub X0.here hx rfl (hb hby at_41) rfl ht) ?_
        refine own_step (U' := (s₁.setTop (mkF m 43 #[.val (.int p1), .val (.int p2), .val (.int (p2 &&& (3 : Int32))), .val (.int ((p1 &&& (255 : Int32)) - (64 : Int32)))] []))) (fun t ht => XS.istoreN X0.here hx rfl (hb hby at_42) rfl (l' := #[.val (.int p1), .val (.int p2), .val (.int (p2 &&& (3 : Int32))), .val (.int ((p1 &&& (255 : Int32)) - (64 : Int32)))]) rfl ht) ?_
        refine own_step (U' := (s₁.setTop (mkF m 48 #[.val (.int p1), .val (.int p2), .val (.int (p2 &&& (3 : Int32))), .val (.int ((p1 &&& (255 : Int32)) - (64 : Int32)))] []))) (fun t ht => XS.goto X0.here hx rfl (pc0 := 43) (pc' := 48) rfl (hb hby at_43) (by decide) (by decide) ht) ?_
        exact tail48 ((p2 &&& (3 : Int32))) (((p1 &&& (255 : Int32)) - (64 : Int32))) 
      ·
        refine own_step (U' := (s₁.setTop (mkF m 46 #[.val (.int p1), .val (.int p2), .val (.int (p2 &&& (3 : Int32))), .unset] []))) (fun t ht => XS.icmpYes X0.here hx rfl (pc0 := 31) (pc' := 46) rfl (hb hby at_31) rfl (XT.ii_ne_t hc31_36) (by decide) (by decide) ht) ?_
        refine own_step (U' := (s₁.setTop (mkF m 47 #[.val (.int p1), .val (.int p2), .val (.int (p2 &&& (3 : Int32))), .unset] [(.int p1)]))) (fun t ht => XS.iloadN X0.here hx rfl (hb hby at_46) rfl ht) ?_
        refine own_step (U' := (s₁.setTop (mkF m 48 #[.val (.int p1), .val (.int p2), .val (.int (p2 &&& (3 : Int32))), .val (.int p1)] []))) (fun t ht => XS.istoreN X0.here hx rfl (hb hby at_47) rfl (l' := #[.val (.int p1), .val (.int p2), .val (.int (p2 &&& (3 : Int32))), .val (.int p1)]) rfl ht) ?_
        exact tail48 ((p2 &&& (3 : Int32))) (p1) 
set_option maxRecDepth 65536 in
set_option maxHeartbeats 40000000 in
theorem own_comes {Post : Tables → Env → Array Value → State → Outcome → State → Prop} (hpost : ∀ tb e args s v u, (limb_1_1.after args s (.returned v) u = true ∧ limb_1_2.after args s (.returned v) u = true ∧ True) → FrameEnd s (.returned v) u (Jvm.fieldLocs frame_1_writes args s ++ Jvm.arrayLocs frame_1_arrays args s ++ Jvm.staticLocs frame_1_statics s) 0 0 → Post tb e args s (.returned v) u) :
    ArmFor flags0 classFile x code maxLocals ret World_1 tables_1 room_1 Calls_1 rest_1 Pre_1 Post := by
  intro l hfl _ _ p e ha hc hk s m args below hf hA hF happ hP
  obtain ⟨hcalls, hrest, hpre⟩ := hP
  obtain ⟨-, -, -, hnamed, -, -, -, hat⟩ := (Spec.applies_iff hf).mp happ
  obtain ⟨hg, hn⟩ := and_e (Cond.before_iff.mp (show (Jvm.Cond.and given_1 narrow_1).before args s = true from hpre))
  obtain ⟨hcount, q0⟩ := and_e hg
  obtain ⟨a0, q1⟩ := and_e q0
  have a1 := q1
  obtain ⟨w0, w1, rfl⟩ : ∃ w0 w1 : Value, args = #[w0, w1] := by
    have hs : args.size = 2 := by simpa [Cond.value, given_1] using hcount
    obtain ⟨L⟩ := args
    match L, hs with
    | [w0, w1], _ => exact ⟨w0, w1, rfl⟩
  obtain ⟨i0, e0⟩ := is_v a0
  obtain rfl : w0 = (.int i0) := Option.some.inj e0
  obtain ⟨i1, e1⟩ := is_v a1
  obtain rfl : w1 = (.int i1) := Option.some.inj e1
  have hw := fun d (hd : d ∈ tables_1) => atoms_spec (ws := Jvm.Cond.code x code maxLocals ret :: tables_1) hat d (List.mem_cons_of_mem _ hd)
  have hfit : Fit s := fun {y c} hc i hi => by
    obtain ⟨ha, rfl⟩ := Array.getElem?_eq_some_iff.mp hc
    have q := List.all_eq_true.mp ((Array.all_eq_true_iff_forall_mem.mp hF) _ (Array.getElem_mem ha)) i (List.mem_range.mpr hi)
    simpa [Array.getElem?_eq_getElem hi] using q

  obtain ⟨n, o, h1, h2, h3, _, L, rfl, ⟨rfl, N⟩, hq⟩ := own_m_law l s _ hw tables_1 i0 i1  s.heap s.heap.size (Nat.le_refl _)  p e ha hc hk s m _ below hf ((Spec.applies_iff_loose hf).mp happ).1 ⟨rfl, State.Warmed39.refl s, rfl⟩ trivial
  refine ⟨n, _, h1, h2, h3, hpost _ _ _ _ _ _ ⟨Cond.after_iff.mpr rfl, Cond.after_iff.mpr (eq_i res_at (Term.int_eval (1)) rfl), trivial⟩ ⟨hq.1, hq.2.1, (hq.2.2.sift fun y hy => Or.inr (N y hy)).mono (by decide) (by decide)⟩⟩
theorem main_1_1 : Claimed_1_1 := own_comes fun _ _ _ _ _ _ h hF => ⟨h.1, hF⟩
theorem main_1_2 : Claimed_1_2 := own_comes fun _ _ _ _ _ _ h hF => ⟨h.2.1, hF⟩
end Jvm.Pilot.@@N@@
namespace Jvm.Pilot.@@N@@
open Jvm Jvm.ClassFile Sem Op Lib Jvm.Free Jvm.Stand Jvm.Pilot.@@N@@.Jvm.D
/-! MADE BY PROGRAM (witnessworld.py) out of the Statement's table words and the real class files: 7 classes; the members and pool entries that the words name. The judged class is class 1, her method 2. -/
namespace start1
open Jvm.ClassFile
def u (s : String) : CpInfo := .utf8 (stringToUtf16 s)
/-- a pool by its gaps: so many unusable entries, then the entry; so many at the end -/
def gap : Nat → List CpInfo → List CpInfo
  | 0, r => r
  | n + 1, r => .unusable :: gap n r
def poolList (es : List (Nat × CpInfo)) (last : Nat) : List CpInfo := es.foldr (fun e r => gap e.1 (e.2 :: r)) (gap last [])
def pool (es : List (Nat × CpInfo)) (last : Nat) : Array CpInfo := ⟨poolList es last⟩
def fileOf (pool : Array CpInfo) (this : Nat) (attrs : Array Attribute := #[]) (ms : Array MethodInfo := #[]) (fl : Nat := 33) (sup : Nat := 0) (ifs : Array Nat := #[]) (fds : Array FieldInfo := #[]) : ClassFile where
  minorVersion := 0
  majorVersion := 65
  constantPool := pool
  accessFlags := fl
  thisClass := this
  superClass := sup
  interfaces := ifs
  fields := fds
  methods := ms
  attributes := attrs
def plain (name : String) (sup : Option ClassId) : Class where
  name := name
  kind := .ordinary
  loader := none
  accessFlags := 33
  super := sup
  interfaces := #[]
  cf := none
  fields := #[]
  methods := #[]
  instanceTypes := #[]
  staticTypes := #[]
  resolved := #[]
  callSites := []
  init := .initialized
  statics := none
  mirror := none

def pool0 : Array CpInfo := pool [(5, u "<init>"), (0, u "()V"), (1, .class_ 10), (1, u "java/lang/Object")] 113

def k0m0 : Method := { name := "<init>", desc := "()V", sig := { parameters := [], returnType := none }, accessFlags := 1, code := none }
/-- java/lang/Object -/
def k0 : Class := { plain "java/lang/Object" none with
  accessFlags := 33
  interfaces := #[]
  cf := some (fileOf pool0 8 #[] #[{ accessFlags := 1, nameIndex := 5, descriptorIndex := 6, attributes := #[] }] 33 0 #[] #[])
  fields := #[]
  methods := #[k0m0]
  instanceTypes := #[]
  staticTypes := #[]
  resolved := Array.replicate 124 none
  statics := none }

def pool1 : Array CpInfo := pool [(2, .class_ 4), (1, u "java/lang/Object"), (0, u "<init>"), (0, u "()V"), (0, .integer 65535), (0, .methodref 9 10), (0, .class_ 11), (0, .nameAndType 12 13), (0, u "com/example/version_parser/versionparser/SemVerReader"), (0, u "isIdentifierCharacter"), (0, u "(I)Z"), (0, .methodref 15 16), (0, .class_ 17), (0, .nameAndType 18 13), (0, u "com/example/version_parser/versionparser/SemVerReaderIsIdentifierCharacterPinLaw"), (0, u "expected"), (3, u "law"), (0, u "(II)Z")] 2

def k1m0 : Method := { name := "<init>", desc := "()V", sig := { parameters := [], returnType := none }, accessFlags := 2, code := none }
def k1c1 : Code := { maxStack := 2, maxLocals := 5, code := method_2_code, exceptionTable := #[], attributes := #[] }
def k1m1 : Method := { name := "expected", desc := "(I)Z", sig := { parameters := [.int], returnType := some .boolean }, accessFlags := 10, code := some k1c1 }
def k1c2 : Code := { maxStack := 2, maxLocals := 4, code := code, exceptionTable := #[], attributes := #[] }
def k1m2 : Method := { name := "law", desc := "(II)Z", sig := { parameters := [.int, .int], returnType := some .boolean }, accessFlags := 9, code := some k1c2 }
/-- com/example/version_parser/versionparser/SemVerReaderIsIdentifierCharacterPinLaw -/
def k1 : Class := { plain "com/example/version_parser/versionparser/SemVerReaderIsIdentifierCharacterPinLaw" (some 0) with
  accessFlags := 49
  interfaces := #[]
  cf := some (fileOf pool1 15 #[] #[{ accessFlags := 2, nameIndex := 5, descriptorIndex := 6, attributes := #[] }, { accessFlags := 10, nameIndex := 18, descriptorIndex := 13, attributes := #[] }, { accessFlags := 9, nameIndex := 22, descriptorIndex := 23, attributes := #[] }] 49 2 #[] #[])
  fields := #[]
  methods := #[k1m0, k1m1, k1m2]
  instanceTypes := #[]
  staticTypes := #[]
  resolved := Array.replicate 26 none
  statics := none }

def pool2 : Array CpInfo := pool [(8, .class_ 10), (1, u "com/example/version_parser/versionparser/SemVerReader"), (3, .class_ 16), (1, u "java/lang/Object"), (3, u "text"), (0, u "Ljava/lang/String;"), (2, u "position"), (0, u "I"), (2, u "end"), (2, u "refusedIndex"), (2, u "refusedReason"), (12, .methodref 8 48), (0, .nameAndType 49 50), (0, u "isDigit"), (0, u "(I)Z"), (25, u "isIdentifierCharacter"), (14, u "ENDS_TOO_SOON"), (1, u "LEADING_ZERO"), (0, u "EMPTY_IDENTIFIER"), (0, u "DIGIT_EXPECTED"), (0, u "NOT_ALLOWED_HERE"), (0, u "NOT_ALLOWED")] 17

def k2c0 : Code := { maxStack := 2, maxLocals := 1, code := prog_17_method_21_code, exceptionTable := #[], attributes := #[] }
def k2m0 : Method := { name := "isDigit", desc := "(I)Z", sig := { parameters := [.int], returnType := some .boolean }, accessFlags := 8, code := some k2c0 }
def k2c1 : Code := { maxStack := 2, maxLocals := 1, code := prog_17_method_22_code, exceptionTable := #[], attributes := #[] }
def k2m1 : Method := { name := "isIdentifierCharacter", desc := "(I)Z", sig := { parameters := [.int], returnType := some .boolean }, accessFlags := 8, code := some k2c1 }
/-- com/example/version_parser/versionparser/SemVerReader -/
def k2 : Class := { plain "com/example/version_parser/versionparser/SemVerReader" (some 0) with
  accessFlags := 1056
  interfaces := #[]
  cf := some (fileOf pool2 8 #[] #[{ accessFlags := 8, nameIndex := 49, descriptorIndex := 50, attributes := #[] }, { accessFlags := 8, nameIndex := 76, descriptorIndex := 50, attributes := #[] }] 1056 14 #[] #[{ accessFlags := 26, nameIndex := 91, descriptorIndex := 21, attributes := #[] }, { accessFlags := 26, nameIndex := 93, descriptorIndex := 21, attributes := #[] }, { accessFlags := 26, nameIndex := 94, descriptorIndex := 21, attributes := #[] }, { accessFlags := 26, nameIndex := 95, descriptorIndex := 21, attributes := #[] }, { accessFlags := 24, nameIndex := 96, descriptorIndex := 21, attributes := #[] }, { accessFlags := 26, nameIndex := 97, descriptorIndex := 21, attributes := #[] }, { accessFlags := 18, nameIndex := 20, descriptorIndex := 21, attributes := #[] }, { accessFlags := 18, nameIndex := 28, descriptorIndex := 25, attributes := #[] }, { accessFlags := 2, nameIndex := 24, descriptorIndex := 25, attributes := #[] }, { accessFlags := 2, nameIndex := 31, descriptorIndex := 25, attributes := #[] }, { accessFlags := 2, nameIndex := 34, descriptorIndex := 21, attributes := #[] }])
  fields := #[{ name := "ENDS_TOO_SOON", type := (.object "java/lang/String"), accessFlags := 26, slot := 0, constantValue := 0 }, { name := "LEADING_ZERO", type := (.object "java/lang/String"), accessFlags := 26, slot := 1, constantValue := 0 }, { name := "EMPTY_IDENTIFIER", type := (.object "java/lang/String"), accessFlags := 26, slot := 2, constantValue := 0 }, { name := "DIGIT_EXPECTED", type := (.object "java/lang/String"), accessFlags := 26, slot := 3, constantValue := 0 }, { name := "NOT_ALLOWED_HERE", type := (.object "java/lang/String"), accessFlags := 24, slot := 4, constantValue := 0 }, { name := "NOT_ALLOWED", type := (.object "java/lang/String"), accessFlags := 26, slot := 5, constantValue := 0 }, { name := "text", type := (.object "java/lang/String"), accessFlags := 18, slot := 0, constantValue := 0 }, { name := "end", type := .int, accessFlags := 18, slot := 1, constantValue := 0 }, { name := "position", type := .int, accessFlags := 2, slot := 2, constantValue := 0 }, { name := "refusedIndex", type := .int, accessFlags := 2, slot := 3, constantValue := 0 }, { name := "refusedReason", type := (.object "java/lang/String"), accessFlags := 2, slot := 4, constantValue := 0 }]
  methods := #[k2m0, k2m1]
  instanceTypes := #[(.object "java/lang/String"), .int, .int, .int, (.object "java/lang/String")]
  staticTypes := #[(.object "java/lang/String"), (.object "java/lang/String"), (.object "java/lang/String"), (.object "java/lang/String"), (.object "java/lang/String"), (.object "java/lang/String")]
  resolved := Array.replicate 115 none
  statics := none }

def pool3 : Array CpInfo := pool [(1, u "java/lang/Cloneable"), (0, .class_ 1), (0, u "java/lang/Object"), (0, .class_ 3)] 3

/-- java/lang/Cloneable -/
def k3 : Class := { plain "java/lang/Cloneable" (some 0) with
  accessFlags := 1537
  interfaces := #[]
  cf := some (fileOf pool3 2 #[] #[] 1537 4 #[] #[])
  fields := #[]
  methods := #[]
  instanceTypes := #[]
  staticTypes := #[]
  resolved := Array.replicate 8 none
  statics := none }

def pool4 : Array CpInfo := pool [(1, u "java/io/Serializable"), (0, .class_ 1), (0, u "java/lang/Object"), (0, .class_ 3)] 3

/-- java/io/Serializable -/
def k4 : Class := { plain "java/io/Serializable" (some 0) with
  accessFlags := 1537
  interfaces := #[]
  cf := some (fileOf pool4 2 #[] #[] 1537 4 #[] #[])
  fields := #[]
  methods := #[]
  instanceTypes := #[]
  staticTypes := #[]
  resolved := Array.replicate 8 none
  statics := none }

/-- the primitive byte -/
def k5 : Class := { plain "byte" none with kind := .primitive 'B', accessFlags := 0x411 }
/-- [B -/
def k6 : Class := { plain "[B" (some 0) with kind := .array 5 .byte, interfaces := #[3, 4], accessFlags := 1041 }

def heap : Heap := #[]
def classes : Array Class := #[k0, k1, k2, k3, k4, k5, k6]
def interned : List (Array UInt16 × Addr) := []
def slotsUsed : Nat := 0
def theMethod : MethodId := ⟨1, 2⟩
def args0 : Array Value := #[.int 5, .int 7]
def aboutOver (below : List Frame) : State where
  vm := { classes := classes, interned := interned.toArray }
  heap := heap
  slotsUsed := slotsUsed
  threads := #[{ frames := .invoking theMethod args0 :: below }]
def below0 : List Frame := [.native { method := ⟨0, 0⟩, args := #[] }]
def about1 : State := aboutOver below0
def p0 : Program := .bare "" "" ""
def e0 : Env := launch0.env 0 0 0
theorem w_frames : about1.frames = Frame.invoking theMethod args0 :: below0 := rfl
set_option maxRecDepth 65536 in
theorem w_args : argsFit about1.vm theMethod args0 = true := by decide +kernel
set_option maxRecDepth 65536 in
theorem w_heap : heapFits about1 = true := by decide +kernel
set_option maxRecDepth 65536 in
theorem w_runnable : about1.curStatus? = some .runnable := by decide +kernel
set_option maxRecDepth 65536 in
theorem w_alone : about1.alone = true := by decide +kernel
set_option maxRecDepth 65536 in
theorem w_named : about1.methodNamed? x = some theMethod := by decide +kernel
set_option maxRecDepth 65536 in
theorem w_hears : about1.hears theMethod below0 = true := by decide +kernel
set_option maxRecDepth 65536 in
theorem w_ripe : about1.ripe theMethod args0 below0 = true := by decide +kernel
theorem w_running : about1.status = .running := rfl
set_option maxRecDepth 65536 in
theorem w_room : about1.hasRoom e0.platform room_1 = true :=
  launch0.hasRoom_least _ room_1 (by decide +kernel) (by decide +kernel) (by decide +kernel) (by decide +kernel) (by decide +kernel) (by decide +kernel)
theorem allAtoms_all (ts : List Jvm.Cond) (a : Array Jvm.Value) (st : Jvm.State) : (allAtoms ts).before a st = ts.all (fun c => c.before a st) := by
  induction ts with
  | nil => rfl
  | cons c t ih =>
    show (Jvm.Cond.and c (allAtoms t)).before a st = _
    rw [Jvm.Cond.before_and, ih, List.all_cons]
def words1 : List Jvm.Cond := Jvm.Cond.code x code maxLocals ret :: tables_1
/-- a 'code' word, met by the world's own term for the bytes: nothing is compared byte by byte -/
theorem code_word {y : MethodName} {bytes : ByteArray} {mx : Nat} {rt : Option FieldType} {a : Array Value} {s : State} {m : MethodId} {meth : Method} {c : Code} (h1 : s.methodNamed? y = some m) (h2 : s.vm.method? m = some meth) (h3 : meth.code = some c) (h4 : c.code = bytes)
    (h5 : (c.maxLocals == mx && c.exceptionTable.isEmpty && decide (c.maxStack ≤ mostOperands) && decide (meth.sig.returnType = rt) && !meth.locks && decide (parseMethodDescriptor y.desc = some meth.sig)) = true) : (Jvm.Cond.code y bytes mx rt).before a s = true := by
  simp only [Bool.and_eq_true, beq_iff_eq, Bool.not_eq_true', decide_eq_true_eq] at h5
  obtain ⟨⟨⟨⟨⟨g1, g2⟩, g3⟩, g4⟩, g5⟩, g6⟩ := h5
  simp [Cond.before, Cond.holds, Cond.value, h1, h2, h3, h4, g1, g2, g3, g4, g5, g6]
def isCode : Jvm.Cond → Bool
  | .code _ _ _ _ => true
  | _ => false
theorem all_split {L : List Jvm.Cond} {P : Jvm.Cond → Bool} (h1 : L.all (fun c => isCode c || P c) = true) (h2 : ∀ c ∈ L.filter isCode, P c = true) : L.all P = true := by
  refine List.all_eq_true.mpr fun c hc => ?_
  have h := List.all_eq_true.mp h1 c hc
  rcases Bool.eq_false_or_eq_true (isCode c) with hi | hi
  · exact h2 c (List.mem_filter.mpr ⟨hc, hi⟩)
  · simpa [hi] using h
set_option maxRecDepth 65536 in
theorem w_c0 : (Jvm.Cond.code x code maxLocals ret).before args0 about1 = true := code_word (m := ⟨1, 2⟩) (meth := k1m2) (c := k1c2) (by decide +kernel) rfl rfl rfl (by decide +kernel)
set_option maxRecDepth 65536 in
theorem w_c1 : (Jvm.Cond.code ({ cls := "com/example/version_parser/versionparser/SemVerReader", name := "isIdentifierCharacter", desc := "(I)Z" } : Jvm.MethodName) prog_17_method_22_code (1 : Nat) (Option.some Jvm.ClassFile.FieldType.boolean)).before args0 about1 = true := code_word (m := ⟨2, 1⟩) (meth := k2m1) (c := k2c1) (by decide +kernel) rfl rfl rfl (by decide +kernel)
set_option maxRecDepth 65536 in
theorem w_c2 : (Jvm.Cond.code ({ cls := "com/example/version_parser/versionparser/SemVerReader", name := "isDigit", desc := "(I)Z" } : Jvm.MethodName) prog_17_method_21_code (1 : Nat) (Option.some Jvm.ClassFile.FieldType.boolean)).before args0 about1 = true := code_word (m := ⟨2, 0⟩) (meth := k2m0) (c := k2c0) (by decide +kernel) rfl rfl rfl (by decide +kernel)
set_option maxRecDepth 65536 in
theorem w_c3 : (Jvm.Cond.code ({ cls := "com/example/version_parser/versionparser/SemVerReaderIsIdentifierCharacterPinLaw", name := "expected", desc := "(I)Z" } : Jvm.MethodName) method_2_code (5 : Nat) (Option.some Jvm.ClassFile.FieldType.boolean)).before args0 about1 = true := code_word (m := ⟨1, 1⟩) (meth := k1m1) (c := k1c1) (by decide +kernel) rfl rfl rfl (by decide +kernel)
def codes1 : List Jvm.Cond := [Jvm.Cond.code x code maxLocals ret, Jvm.Cond.code ({ cls := "com/example/version_parser/versionparser/SemVerReader", name := "isIdentifierCharacter", desc := "(I)Z" } : Jvm.MethodName) prog_17_method_22_code (1 : Nat) (Option.some Jvm.ClassFile.FieldType.boolean), Jvm.Cond.code ({ cls := "com/example/version_parser/versionparser/SemVerReader", name := "isDigit", desc := "(I)Z" } : Jvm.MethodName) prog_17_method_21_code (1 : Nat) (Option.some Jvm.ClassFile.FieldType.boolean), Jvm.Cond.code ({ cls := "com/example/version_parser/versionparser/SemVerReaderIsIdentifierCharacterPinLaw", name := "expected", desc := "(I)Z" } : Jvm.MethodName) method_2_code (5 : Nat) (Option.some Jvm.ClassFile.FieldType.boolean)]
set_option maxRecDepth 65536 in
theorem codes_eq : words1.filter isCode = codes1 := rfl
theorem w_codes : ∀ c ∈ words1.filter isCode, c.before args0 about1 = true := by
  rw [codes_eq]
  intro c hc
  simp only [codes1, List.mem_cons, List.not_mem_nil, or_false] at hc
  rcases hc with rfl | rfl | rfl | rfl
  · exact w_c0
  · exact w_c1
  · exact w_c2
  · exact w_c3
set_option maxRecDepth 65536 in
theorem w_t1 : words1.all (fun c => isCode c || c.before args0 about1) = true := by decide +kernel
theorem w_tables : (allAtoms (Jvm.Cond.code x code maxLocals ret :: tables_1)).before args0 about1 = true := by
  rw [allAtoms_all]
  show words1.all (fun c => c.before args0 about1) = true
  refine all_split ?_ w_codes
  rw [w_t1]
set_option maxRecDepth 65536 in
theorem w_case : (Jvm.Cond.and given_1 narrow_1).before args0 about1 = true := by decide +kernel
theorem w_applies : (headSpec (Jvm.Cond.code x code maxLocals ret :: tables_1) room_1).applies x e0.platform about1 = true :=
  (Spec.applies_iff w_frames).mpr ⟨w_running, w_runnable, w_alone, w_named, w_hears, w_ripe, w_room, w_tables⟩
theorem atStart : AtStart classFile x code maxLocals ret World_1 tables_1 room_1 Calls_1 rest_1 Pre_1 launch0 p0 e0 about1 theMethod args0 below0 :=
  ⟨lists_1, trivial, launch0.admits_env _ _ _, launch0.least_env, fairChoices_fair.cas, fairChoices_fair.clock, w_frames, w_args, w_heap, w_applies, trivial, trivial, w_case⟩
end start1
theorem witness_1 : WitnessClaimed_1 := ⟨start1.p0, start1.e0, start1.about1, start1.theMethod, start1.args0, start1.below0, start1.atStart⟩
end Jvm.Pilot.@@N@@
