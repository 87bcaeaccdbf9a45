import JvmDerived
import JvmDerived.Pilot.@@N@@Statement
import JvmDerived.Pilot.@@N@@Code
set_option linter.unusedVariables false
set_option linter.unusedSimpArgs false
@@BLOCK:NumsL.lean.txt@@
namespace Jvm.RoadKit
open Sem ClassFile Op Lib Jvm.Stand Jvm.Free Jvm.LawKit
section New
variable {p : Program} {l : Launch} {e : Env} {R : Room} {s : State} {m : MethodId} {args : Array Value} {below : List Frame} {meth : Method} {c : Code} {T : State} {locs : List Loc} {cells slots : Nat}
theorem retI (X : Stand p l e R s m args below meth c T locs cells slots) (hx : p.tables.exec = Jvm.exec) {pc : Nat} {Ls : Array Slot} {z : Int32} {rest : List Value} (hret : meth.sig.returnType = some .int) (hd : decode c.code pc = .ok (.ireturn, 1)) {fs : List Frame}
    (hl : ∀ (f : JFrame) (acts : List Action), f.method = m → f.locked = none → f.entered = [] → (doReturn e (T.setTop f) acts (some (.int z))).1 = T.setFrames fs) : Steps p.tables e below (T.setTop (mkF m pc Ls (.int z :: rest))) (T.setFrames fs) := by
  have hm' : T.vm.method? m = some meth := X.method'
  have hn : narrow .int (.int z) = .int z := rfl
  show Steps p.tables e below (T.setTop { method := m, pc := pc, locals := Ls, stack := _ :: rest, locked := none }) _
  jvm_step X.here [X.here.top, hx, hd, hm', hret, hn]
  first | (intro acts; rw [hl _ acts rfl rfl rfl]) | rw [hl _ _ rfl rfl rfl]
  exact Steps.refl _
end New
end Jvm.RoadKit
namespace Jvm.Pilot.@@N@@
open Jvm Jvm.ClassFile Sem Op Lib Jvm.Free Jvm.Stand Jvm.LawKit Jvm.RoadKit Bundle Jvm.Pilot.@@N@@.Jvm.D
section Own
variable {p : Program} {l : Launch} {e : Env} {R : Room} {s : State} {m : MethodId} {args : Array Value} {below : List Frame} {meth : Method} {c : Code} {T : State} {locs : List Loc} {cells slots : Nat}
/-- from U the run comes to an end that Q allows -/
def own_Go (p : Program) (e : Env) (below : List Frame) (s : State) (kc ks : Nat) (Q : Option Value → Heap → List Loc → Prop) (U : State) : Prop :=
  ∃ s₂ o, Steps p.tables e below U s₂ ∧ s₂.status = .running ∧ Ended s₂ below o ∧ ∃ v L, o = .returned v ∧ Q v s₂.heap L ∧ FrameEnd s o s₂ L kc ks
theorem own_step {kc ks : Nat} {Q : Option Value → Heap → List Loc → Prop} {U U' : State} (k : ∀ t, Steps p.tables e below U' t → Steps p.tables e below U t) (g : own_Go p e below s kc ks Q U') : own_Go p e below s kc ks Q U := by
  obtain ⟨s₂, o, h, r⟩ := g
  exact ⟨s₂, o, k _ h, r⟩
theorem own_ret {kc ks : Nat} {Q : Option Value → Heap → List Loc → Prop} {U : State} (X : Stand p l e R s m args below meth c T locs cells slots) {v : Option Value} (hv : meth.sig.returnType = none → v = none) (hlocks : meth.locks = false) (hk : cells ≤ kc) (hs : slots ≤ ks) (hq : Q v T.heap locs)
    (k : ∀ fs, (∀ (f : JFrame) (acts : List Action), f.method = m → f.locked = none → f.entered = [] → (doReturn e (T.setTop f) acts v).1 = T.setFrames fs) → Steps p.tables e below U (T.setFrames fs)) : own_Go p e below s kc ks Q U := by
  obtain ⟨fs, hr, hrun, hended, hW, hsame⟩ := X.leave (v := v) hv hlocks
  exact ⟨_, _, k fs hr, hrun, hended, v, locs, rfl, hq, ⟨_, rfl⟩, hW, hsame.mono hk hs⟩
def own_GoW (p : Program) (e : Env) (below : List Frame) (s : State) (kc ks : Nat) (Q : Option Value → Heap → List Loc → Prop) (U : State) : Prop :=
  ∃ s₂ o, Steps p.tables e below U s₂ ∧ s₂.status = .running ∧ Ended s₂ below o ∧ ∃ v L, o = .returned v ∧ Q v s₂.heap L ∧ ReturnedEndW s o s₂ L kc ks
theorem own_stepW {kc ks : Nat} {Q : Option Value → Heap → List Loc → Prop} {U U' : State} (k : ∀ t, Steps p.tables e below U' t → Steps p.tables e below U t) (g : own_GoW p e below s kc ks Q U') : own_GoW p e below s kc ks Q U := by
  obtain ⟨s₂, o, h, r⟩ := g
  exact ⟨s₂, o, k _ h, r⟩
theorem own_retW {kc ks : Nat} {Q : Option Value → Heap → List Loc → Prop} {U : State} {vm₁ : Vm} {n : Nat} (X : Stand p l e R (s.setVm vm₁) m args below meth c T locs cells slots) (hS : s.Since vm₁ n) (hn : n ≤ T.heap.size) {v : Option Value} (hv : meth.sig.returnType = none → v = none) (hlocks : meth.locks = false) (hk : cells ≤ kc) (hs : slots ≤ ks) (hq : Q v T.heap locs)
    (k : ∀ fs, (∀ (f : JFrame) (acts : List Action), f.method = m → f.locked = none → f.entered = [] → (doReturn e (T.setTop f) acts v).1 = T.setFrames fs) → Steps p.tables e below U (T.setFrames fs)) : own_GoW p e below s kc ks Q U := by
  obtain ⟨fs, hr, hrun, hended, h1, h2, h3, h4⟩ := X.leaveW hS hn (v := v) hv hlocks
  exact ⟨_, _, k fs hr, hrun, hended, v, locs, rfl, hq, h1, h2, h3, h4.mono hk hs⟩
theorem own_narR {t : FieldType} {v : Value} (h : v.isRef = true) : narrow t v = v := by cases v <;> first | (cases h; done) | (cases t <;> rfl)
theorem own_fitR {t : String} {v : Value} (h : v.isRef = true) : fits (.object t) v = true := by cases v <;> first | (cases h; done) | rfl
theorem own_at {h : Heap} {a : Addr} {k : Cell} (e : T.heap = h) (q : h[a]? = some k) : T.heap[a]? = some k := e ▸ q
theorem own_pl0 {h : Heap} : ∀ a ∈ ([] : List Addr), ∀ c : Cell, h[a]? = some c → c.vm.isStatics = false := fun _ q => nomatch q
theorem own_plE {Z : State} {h : Heap} {a : Addr} {C : String} {ws : List Addr} (E : Exa Z h a C) (r : ∀ x ∈ ws, ∀ c : Cell, h[x]? = some c → c.vm.isStatics = false) : ∀ x ∈ a :: ws, ∀ c : Cell, h[x]? = some c → c.vm.isStatics = false := fun x hx c hc => by
  rcases List.mem_cons.mp hx with rfl | q
  · obtain ⟨cell, k, h1, -, -, h4, -⟩ := E
    cases h1.symm.trans hc; exact h4
  · exact r x q c hc
theorem own_plF {Z : State} {h : Heap} {a : Addr} {C n d : String} {v : Value} {ws : List Addr} (E : Fld Z h a C n d v) (r : ∀ x ∈ ws, ∀ c : Cell, h[x]? = some c → c.vm.isStatics = false) : ∀ x ∈ a :: ws, ∀ c : Cell, h[x]? = some c → c.vm.isStatics = false := fun x hx c hc => by
  rcases List.mem_cons.mp hx with rfl | q
  · exact old_plain E c hc
  · exact r x q c hc
theorem own_plV {Z : State} {h : Heap} {a : Addr} {k : ClassId} {ty : FieldType} {z : Int32} {vs : List Value} {d : Value} {ws : List Addr} (E : Arv Z h a k ty z vs d) (r : ∀ x ∈ ws, ∀ c : Cell, h[x]? = some c → c.vm.isStatics = false) : ∀ x ∈ a :: ws, ∀ c : Cell, h[x]? = some c → c.vm.isStatics = false := fun x hx c hc => by
  rcases List.mem_cons.mp hx with rfl | q
  · obtain ⟨cl, A, -⟩ := E
    cases A.1.symm.trans hc; exact A.plain
  · exact r x q c hc
theorem own_sta_keep {Z : State} {h h' : Heap} {C n d : String} {w : Value} {ws : List Addr} (F : Sta Z h C n d w) (K : Keep h h' ws) (r : ∀ x ∈ ws, ∀ c : Cell, h[x]? = some c → c.vm.isStatics = false) : Sta Z h' C n d w := by
  obtain ⟨cf, i, k, f, st, cell, h1, h2, h3, h4, h5, h6, h7⟩ := F
  exact ⟨cf, i, k, f, st, cell, h1, h2, h3, h4, K.2.1 st cell h5 (fun q => by rw [r st q cell h5] at h6; cases h6), h6, h7⟩
end Own
def own_cs : List Int32 := [48, 49, 50, 51, 52, 53, 54, 55, 56, 57]
def own_dig (c : Int32) : Int32 := if c < 48 then 0 else if 57 < c then 0 else 1
def own_vs : List Value := own_cs.map Value.int
def own_at10 (p : Int32) : Int32 := own_cs.getD p.toNatClampNeg 0
theorem own_ld10 (p : Int32) : own_vs.getD p.toNatClampNeg (.int (0 : Int32)) = .int (own_at10 p) := by
  simp only [own_vs, own_at10, List.getD_eq_getElem?_getD, List.getElem?_map]
  cases own_cs[p.toNatClampNeg]? <;> rfl
theorem own_all10 {P : Int32 → Prop} (h0 : P 0) (h : ∀ c ∈ own_cs, P c) (p : Int32) : P (own_at10 p) := by
  simp only [own_at10, List.getD_eq_getElem?_getD]
  cases e : own_cs[p.toNatClampNeg]? with
  | none => exact h0
  | some c => exact h c (List.mem_of_getElem? e)
theorem own_narc10 (p : Int32) : nar .char (own_at10 p) = own_at10 p := own_all10 (P := fun c => nar .char c = c) (by decide) (by decide) p
theorem own_nar10 (p : Int32) : nar .char (((own_at10 p) &&& (255 : Int32)).toUInt32.toUInt16.toUInt32.toInt32) = own_at10 p := own_all10 (P := fun c => nar .char ((c &&& (255 : Int32)).toUInt32.toUInt16.toUInt32.toInt32) = c) (by decide) (by decide) p
theorem own_in10 {p : Int32} (h0 : ¬ p < 0) (h1 : p < 10) : ¬ p < 0 ∧ p < 10 := ⟨h0, h1⟩
theorem own_d48 (c : Int32) : (c.toInt64 - (48 : Int64)).toInt = c.toInt - 48 := by
  have h1 := Int32.le_toInt c
  have h2 := Int32.toInt_lt c
  rw [Int64.toInt_sub, Int32.toInt_toInt64]
  have e : (48 : Int64).toInt = 48 := rfl
  rw [e]
  apply Int.bmod_eq_of_le <;> omega
theorem own_lt48 {c : Int32} : ((c.toInt64) - (48 : Int64)) < (0 : Int64) ↔ c < 48 := by
  rw [Int64.lt_iff_toInt_lt, Int32.lt_iff_toInt_lt, own_d48]
  have e : (48 : Int32).toInt = 48 := rfl
  have e0 : (0 : Int64).toInt = 0 := rfl
  rw [e, e0]
  omega
theorem own_gt57 {c : Int32} : (9 : Int64) < ((c.toInt64) - (48 : Int64)) ↔ 57 < c := by
  rw [Int64.lt_iff_toInt_lt, Int32.lt_iff_toInt_lt, own_d48]
  have e : (57 : Int32).toInt = 57 := rfl
  have e0 : (9 : Int64).toInt = 9 := rfl
  rw [e, e0]
  omega
theorem own_ix {c : Int32} (h1 : ¬ c < 48) (h2 : ¬ 57 < c) : ¬ (((c.toInt64) - (48 : Int64)).toInt32) < 0 ∧ (((c.toInt64) - (48 : Int64)).toInt32) < 10 ∧ own_at10 (((c.toInt64) - (48 : Int64)).toInt32) = c := by
  rw [Int32.lt_iff_toInt_lt] at h1 h2
  have e1 : (48 : Int32).toInt = 48 := rfl
  have e2 : (57 : Int32).toInt = 57 := rfl
  have e3 : (49 : Int32).toInt = 49 := rfl
  have e4 : (50 : Int32).toInt = 50 := rfl
  have e5 : (51 : Int32).toInt = 51 := rfl
  have e6 : (52 : Int32).toInt = 52 := rfl
  have e7 : (53 : Int32).toInt = 53 := rfl
  have e8 : (54 : Int32).toInt = 54 := rfl
  have e9 : (55 : Int32).toInt = 55 := rfl
  have e10 : (56 : Int32).toInt = 56 := rfl
  have h : c = 48 ∨ c = 49 ∨ c = 50 ∨ c = 51 ∨ c = 52 ∨ c = 53 ∨ c = 54 ∨ c = 55 ∨ c = 56 ∨ c = 57 := by
    simp only [← Int32.toInt_inj]
    omega
  rcases h with rfl | rfl | rfl | rfl | rfl | rfl | rfl | rfl | rfl | rfl
  · exact ⟨by decide, by decide, by decide⟩
  · exact ⟨by decide, by decide, by decide⟩
  · exact ⟨by decide, by decide, by decide⟩
  · exact ⟨by decide, by decide, by decide⟩
  · exact ⟨by decide, by decide, by decide⟩
  · exact ⟨by decide, by decide, by decide⟩
  · exact ⟨by decide, by decide, by decide⟩
  · exact ⟨by decide, by decide, by decide⟩
  · exact ⟨by decide, by decide, by decide⟩
  · exact ⟨by decide, by decide, by decide⟩
theorem own_ht : (∀ c ∈ "0123456789".toList, c.toNat < 256) ∧ "0123456789".toList.map (fun c => Value.int (Jvm.Lit.byteI c.toNat.toUInt16)) = own_vs := ⟨by decide +kernel, by decide +kernel⟩
section OwnV
variable {p : Program} {l : Launch} {e : Env} {R : Room} {s : State} {m : MethodId} {args : Array Value} {below : List Frame} {meth : Method} {c : Code} {T : State} {locs : List Loc} {cells slots : Nat} {Z : State} {a0 : Array Value} {h : Heap}
def own_GoV (p : Program) (e : Env) (below : List Frame) (s : State) (kc ks : Nat) (Q : Option Value → Heap → Vm → List Loc → Prop) (U : State) : Prop :=
  ∃ s₂ o, Steps p.tables e below U s₂ ∧ s₂.status = .running ∧ Ended s₂ below o ∧ ∃ v L, o = .returned v ∧ Q v s₂.heap s₂.vm L ∧ ReturnedEndW s o s₂ L kc ks
theorem own_stepV {kc ks : Nat} {Q : Option Value → Heap → Vm → List Loc → Prop} {U U' : State} (k : ∀ t, Steps p.tables e below U' t → Steps p.tables e below U t) (g : own_GoV p e below s kc ks Q U') : own_GoV p e below s kc ks Q U := by
  obtain ⟨s₂, o, h, r⟩ := g
  exact ⟨s₂, o, k _ h, r⟩
theorem own_retV {kc ks : Nat} {Q : Option Value → Heap → Vm → List Loc → Prop} {U : State} {vm₁ : Vm} {n : Nat} (X : Stand p l e R (s.setVm vm₁) m args below meth c T locs cells slots) (hS : s.Since vm₁ n) (hn : n ≤ T.heap.size) {v : Option Value} (hv : meth.sig.returnType = none → v = none) (hlocks : meth.locks = false) (hk : cells ≤ kc) (hs : slots ≤ ks) (hq : Q v T.heap T.vm locs)
    (k : ∀ fs, (∀ (f : JFrame) (acts : List Action), f.method = m → f.locked = none → f.entered = [] → (doReturn e (T.setTop f) acts v).1 = T.setFrames fs) → Steps p.tables e below U (T.setFrames fs)) : own_GoV p e below s kc ks Q U := by
  obtain ⟨fs, hr, hrun, hended, h1, h2, h3, h4⟩ := X.leaveW hS hn (v := v) hv hlocks
  exact ⟨_, _, k fs hr, hrun, hended, v, locs, rfl, hq, h1, h2, h3, h4.mono hk hs⟩
theorem own_backV {y : MethodName} {bytes : ByteArray} {maxL : Nat} {ret : Option FieldType} {rm : Room} {len W : Nat} {as' : Array Value} {PV : Vm → Prop} {Q : Option Value → Heap → Vm → List Loc → Prop}
    (hM : MetFree l y (head1 [Cond.code y bytes maxL ret] rm) (fun a U => a = as' ∧ Z.Warmed39 U.vm ∧ U.heap = h ∧ PV U.vm) (fun _ _ _ _ _ => True) (fun _ U o U' => ∃ v L, o = .returned v ∧ Q v U'.heap U'.vm L ∧ ReturnedEndW U o U' L rm.cells rm.slots))
    (hZ : Z.Warmed39 s.vm) (wc : (Cond.code y bytes maxL ret).before a0 Z = true) (wz : (Cond.initialized y.cls).before a0 Z = true) (hf : rm.frames + 1 ≤ R.frames) (hl : W + (maxL + 11) + rm.locals ≤ R.locals) :
    BackS l R p e below s args y len W (fun A a => a = as' ∧ A.U.heap = h ∧ A.cells + rm.cells ≤ R.cells ∧ A.slots + rm.slots ≤ R.slots ∧ PV A.U.vm)
      (fun A _ v B => ∃ L, Q v B.U.heap B.U.vm L ∧ B.locs = A.locs ++ L ∧ B.cells = A.cells + rm.cells ∧ B.slots = A.slots + rm.slots) := by
  refine BackS.of_freeW (bytes := bytes) (maxL := maxL) (ret := ret) (E := fun _ _ o t L k n => k = rm.cells ∧ n = rm.slots ∧ ∃ v, o = .returned v ∧ Q v t.heap t.vm L) hM hf hl ?_ ?_ ?_ ?_ ?_
  · intro m meth c A a Y hp
    have hU : Z.Warmed39 A.U.vm := wtrans hZ Y.warmed
    refine ⟨?_, mv hU wc, mv hU wz, hp.2.2.1, hp.2.2.2.1⟩
    show (Cond.and _ .tt).before a A.U = true
    rw [Cond.before_and, mv hU wc]; rfl
  · intro m meth c A a g mk Y hp
    exact ⟨hp.1, wtrans hZ Y.warmed, hp.2.1, hp.2.2.2.2⟩
  · intros; trivial
  · intro _ _ _ _ q
    obtain ⟨v, L, h1, h2, h3⟩ := q
    exact ⟨L, _, _, h3, rfl, rfl, v, h1, h2⟩
  · intro m meth c A a g mk v t L k n Y hp _ _ q
    obtain ⟨e1, e2, v', e3, e4⟩ := q
    cases e3; subst e1 e2
    exact ⟨L, e4, rfl, rfl, rfl⟩
end OwnV
section OwnK
variable {Z S : State} {h h' : Heap} {vm vm' : Vm}
/-- the text of the one constant: not loaded since the case's start, or loaded and lying in the heap -/
def own_K (Z : State) (h : Heap) (vm : Vm) : Prop := IB Z vm [] ∨ ∃ a b k, Exa Z h a "java/lang/String" ∧ Fld Z h a "java/lang/String" "coder" "B" (.int 0) ∧ Fld Z h a "java/lang/String" "value" "[B" (.ref b) ∧ Arv Z h b k .byte (10 : Int32) own_vs (.int 0) ∧ Lit (Z.setVm vm) "com/example/version_parser/versionparser/SemVerReaderIsDigitPinLaw" 22 a
theorem own_Kext (q : own_K Z h vm) (E : Ext h h') : own_K Z h' vm := by
  rcases q with q | ⟨a, b, k, q1, q2, q3, q4, q5⟩
  · exact Or.inl q
  · exact Or.inr ⟨a, b, k, q1.ext E, q2.ext E, q3.ext E, q4.ext E, q5⟩
theorem own_Kkeep (q : own_K Z h vm) (K : Keep h h' []) : own_K Z h' vm := by
  rcases q with q | ⟨a, b, k, q1, q2, q3, q4, q5⟩
  · exact Or.inl q
  · exact Or.inr ⟨a, b, k, q1.keep K, q2.keep K nin0, q3.keep K nin0, q4.keep K nin0, q5⟩
theorem own_Kwarm (hW : S.WarmedH vm') (q : own_K Z h S.vm) : own_K Z h vm' := by
  rcases q with ⟨more, q1, q2⟩ | ⟨a, b, k, q1, q2, q3, q4, q5⟩
  · exact Or.inl ⟨more, hW.interned_eq.trans q1, q2⟩
  · refine Or.inr ⟨a, b, k, q1, q2, q3, q4, ?_⟩
    have q6 : Lit (S.setVm S.vm) "com/example/version_parser/versionparser/SemVerReaderIsDigitPinLaw" 22 a := q5
    exact Lit.stays (vm1 := vm') q6 hW.wide
theorem own_Kof {T : State} {a b : Addr} {k : ClassId} (q1 : Exa Z h a "java/lang/String") (q2 : Fld Z h a "java/lang/String" "coder" "B" (.int 0)) (q3 : Fld Z h a "java/lang/String" "value" "[B" (.ref b)) (q4 : Arv Z h b k .byte (10 : Int32) own_vs (.int 0)) (q5 : Lit (S.setVm vm) "com/example/version_parser/versionparser/SemVerReaderIsDigitPinLaw" 22 a) : own_K Z h vm :=
  Or.inr ⟨a, b, k, q1, q2, q3, q4, q5⟩
end OwnK
theorem own_pn0 : plainName "com/example/version_parser/versionparser/SemVerReader" = true := by first | (simp [plainName, overriddenIn]; done) | decide +kernel
theorem own_d1_0 : decode prog_17_method_21_code 0 = .ok (.iload_n 0, 1) := by decide +kernel
theorem own_d1_1 : decode prog_17_method_21_code 1 = .ok (.bipush 48, 2) := by decide +kernel
theorem own_d1_3 : decode prog_17_method_21_code 3 = .ok (.if_icmp .lt 13, 3) := by decide +kernel
theorem own_d1_6 : decode prog_17_method_21_code 6 = .ok (.iload_n 0, 1) := by decide +kernel
theorem own_d1_7 : decode prog_17_method_21_code 7 = .ok (.bipush 57, 2) := by decide +kernel
theorem own_d1_9 : decode prog_17_method_21_code 9 = .ok (.if_icmp .gt 7, 3) := by decide +kernel
theorem own_d1_12 : decode prog_17_method_21_code 12 = .ok (.iconst 1, 1) := by decide +kernel
theorem own_d1_13 : decode prog_17_method_21_code 13 = .ok (.goto 4, 3) := by decide +kernel
theorem own_d1_16 : decode prog_17_method_21_code 16 = .ok (.iconst 0, 1) := by decide +kernel
theorem own_d1_17 : decode prog_17_method_21_code 17 = .ok (.ireturn, 1) := by decide +kernel
def own_Q_isd (Z : State) (p1 : Int32) (h0 : Heap) (n0 : Nat) (v : Option Value) (h : Heap) (L : List Loc) : Prop := v = some (.int (own_dig p1)) ∧ Fr n0 L ∧ h = h0
set_option maxRecDepth 65536 in
set_option maxHeartbeats 40000000 in
theorem own_m_isd (l : Launch) (Z : State) (a0 : Array Value) (hw : ∀ d ∈ tables_1, d.before a0 Z = true) (ws : List Jvm.Cond) (p1 : Int32) (h0 : Heap) (n0 : Nat) (Z0 : n0 ≤ h0.size)  :
    MetFree l (⟨"com/example/version_parser/versionparser/SemVerReader", "isDigit", "(I)Z"⟩ : MethodName) (head1 (Jvm.Cond.code (⟨"com/example/version_parser/versionparser/SemVerReader", "isDigit", "(I)Z"⟩ : MethodName) prog_17_method_21_code 1 (some .boolean) :: ws) ({ frames := 0, cells := 0, slots := 0, locals := 0 } : Room)) (fun a U => a = #[(.int p1)] ∧ Z.Warmed39 U.vm ∧ U.heap = h0) (fun _ _ _ _ _ => True) (fun _ U o U' => ∃ v L, o = .returned v ∧ own_Q_isd Z p1 h0 n0 v U'.heap L ∧ FrameEnd U o U' L ({ frames := 0, cells := 0, slots := 0, locals := 0 } : Room).cells ({ frames := 0, cells := 0, slots := 0, locals := 0 } : Room).slots) := by
  refine MetFree.of_bodySF (plainFor_of_name own_pn0) hisR ?_
  intro p e s m args below meth c s₁ Bd hml0 hP hK
  obtain ⟨rfl, hZ, hh⟩ := hP
  have hx := Bd.exec
  have hby := Bd.bytes
  have hml : c.maxLocals = 1 := hml0
  have hown : s.vm.findClass "com/example/version_parser/versionparser/SemVerReader" = some m.cls := findClass_of_methodNamed Bd.named
  have hnm := (name_of_methodNamed Bd.named Bd.method).1
  have X0 : Stand p l e ({ frames := 0, cells := 0, slots := 0, locals := 0 } : Room) s m #[(.int p1)] below meth c s₁ [] 0 0 := Stand.of_body Bd
  have e0 : s₁.heap = h0 := by rw [← hh, Bd.state]; rfl
  have N0 := Fr.nil n0
  have K0 : Keep h0 h0 [] := Keep.refl _ _
  show own_Go p e below s ({ frames := 0, cells := 0, slots := 0, locals := 0 } : Room).cells ({ frames := 0, cells := 0, slots := 0, locals := 0 } : Room).slots (own_Q_isd Z p1 h0 n0) (s₁.setTop (entryFrame m #[(.int p1)] 1))
  have ef : entryFrame m #[(.int p1)] 1 = (mkF m 0 #[.val (.int p1)] []) := by first | (simp [entryFrame, mkF, argsToLocals, Value.category, maxLocals]; done) | rfl
  rw [ef]
  show own_Go p e below s _ _ _ (s₁.setTop (mkF m 0 #[.val (.int p1)] []))
  refine own_step (U' := (s₁.setTop (mkF m 1 #[.val (.int p1)] [(.int p1)]))) (fun t ht => XS.iloadN X0.here hx rfl (hb hby own_d1_0) rfl ht) ?_
  refine own_step (U' := (s₁.setTop (mkF m 3 #[.val (.int p1)] [(.int (48 : Int32)), (.int p1)]))) (fun t ht => XS.bipush X0.here hx rfl (hb hby own_d1_1) ht) ?_
  by_cases hc3_1 : p1 < (48 : Int32)
  ·
    refine own_step (U' := (s₁.setTop (mkF m 16 #[.val (.int p1)] []))) (fun t ht => XS.icmpYes X0.here hx rfl (pc0 := 3) (pc' := 16) rfl (hb hby own_d1_3) rfl (XT.ii_lt_t hc3_1) (by decide) (by decide) ht) ?_
    refine own_step (U' := (s₁.setTop (mkF m 17 #[.val (.int p1)] [(.int (0 : Int32))]))) (fun t ht => XS.iconst X0.here hx rfl (hb hby own_d1_16) ht) ?_
    refine own_ret X0 (v := (some (.int (nar .boolean (0 : Int32))))) (fun h => by rw [Bd.returns] at h; cases h) Bd.notSynchronized (by decide) (by decide) ?_ (fun fs hr => retN X0 hx (t := .boolean) Bd.returns (by simp) (hb hby own_d1_17) hr)
    show own_Q_isd Z p1 h0 n0 _ s₁.heap _
    rw [e0]
    refine ⟨?_, N0, rfl⟩
    simp [own_dig, nar, hc3_1]
  ·
    refine own_step (U' := (s₁.setTop (mkF m 6 #[.val (.int p1)] []))) (fun t ht => XS.icmpNo X0.here hx rfl (hb hby own_d1_3) rfl (XT.ii_lt_f hc3_1) ht) ?_
    refine own_step (U' := (s₁.setTop (mkF m 7 #[.val (.int p1)] [(.int p1)]))) (fun t ht => XS.iloadN X0.here hx rfl (hb hby own_d1_6) rfl ht) ?_
    refine own_step (U' := (s₁.setTop (mkF m 9 #[.val (.int p1)] [(.int (57 : Int32)), (.int p1)]))) (fun t ht => XS.bipush X0.here hx rfl (hb hby own_d1_7) ht) ?_
    by_cases hc9_2 : (57 : Int32) < p1
    ·
      refine own_step (U' := (s₁.setTop (mkF m 16 #[.val (.int p1)] []))) (fun t ht => XS.icmpYes X0.here hx rfl (pc0 := 9) (pc' := 16) rfl (hb hby own_d1_9) rfl (XT.ii_gt_t hc9_2) (by decide) (by decide) ht) ?_
      refine own_step (U' := (s₁.setTop (mkF m 17 #[.val (.int p1)] [(.int (0 : Int32))]))) (fun t ht => XS.iconst X0.here hx rfl (hb hby own_d1_16) ht) ?_
      refine own_ret X0 (v := (some (.int (nar .boolean (0 : Int32))))) (fun h => by rw [Bd.returns] at h; cases h) Bd.notSynchronized (by decide) (by decide) ?_ (fun fs hr => retN X0 hx (t := .boolean) Bd.returns (by simp) (hb hby own_d1_17) hr)
      show own_Q_isd Z p1 h0 n0 _ s₁.heap _
      rw [e0]
      refine ⟨?_, N0, rfl⟩
      simp [own_dig, nar, hc3_1, hc9_2]
    ·
      refine own_step (U' := (s₁.setTop (mkF m 12 #[.val (.int p1)] []))) (fun t ht => XS.icmpNo X0.here hx rfl (hb hby own_d1_9) rfl (XT.ii_gt_f hc9_2) ht) ?_
      refine own_step (U' := (s₁.setTop (mkF m 13 #[.val (.int p1)] [(.int (1 : Int32))]))) (fun t ht => XS.iconst X0.here hx rfl (hb hby own_d1_12) ht) ?_
      refine own_step (U' := (s₁.setTop (mkF m 17 #[.val (.int p1)] [(.int (1 : Int32))]))) (fun t ht => XS.goto X0.here hx rfl (pc0 := 13) (pc' := 17) rfl (hb hby own_d1_13) (by decide) (by decide) ht) ?_
      refine own_ret X0 (v := (some (.int (nar .boolean (1 : Int32))))) (fun h => by rw [Bd.returns] at h; cases h) Bd.notSynchronized (by decide) (by decide) ?_ (fun fs hr => retN X0 hx (t := .boolean) Bd.returns (by simp) (hb hby own_d1_17) hr)
      show own_Q_isd Z p1 h0 n0 _ s₁.heap _
      rw [e0]
      refine ⟨?_, N0, rfl⟩
      simp [own_dig, nar, hc3_1, hc9_2]
theorem own_pn1 : plainName "java/lang/String" = true := by first | (simp [plainName, overriddenIn]; done) | decide +kernel
theorem own_d4_0 : decode jdk_42_method_154_code 0 = .ok (.getstatic 38, 3) := by decide +kernel
theorem own_d4_3 : decode jdk_42_method_154_code 3 = .ok (.ifCond .eq 14, 3) := by decide +kernel
theorem own_d4_6 : decode jdk_42_method_154_code 6 = .ok (.aload_n 0, 1) := by decide +kernel
theorem own_d4_7 : decode jdk_42_method_154_code 7 = .ok (.getfield 15, 3) := by decide +kernel
theorem own_d4_10 : decode jdk_42_method_154_code 10 = .ok (.ifCond .ne 7, 3) := by decide +kernel
theorem own_d4_13 : decode jdk_42_method_154_code 13 = .ok (.iconst 1, 1) := by decide +kernel
theorem own_d4_14 : decode jdk_42_method_154_code 14 = .ok (.goto 4, 3) := by decide +kernel
theorem own_d4_18 : decode jdk_42_method_154_code 18 = .ok (.ireturn, 1) := by decide +kernel
def own_Q_lat (Z : State) (a1 : Addr) (cz : Int32) (h0 : Heap) (n0 : Nat) (v : Option Value) (h : Heap) (L : List Loc) : Prop := v = some (.int (1 : Int32)) ∧ Fr n0 L ∧ h = h0
set_option maxRecDepth 65536 in
set_option maxHeartbeats 40000000 in
theorem own_m_lat (l : Launch) (Z : State) (a0 : Array Value) (hw : ∀ d ∈ tables_1, d.before a0 Z = true) (ws : List Jvm.Cond) (a1 : Addr) (cz : Int32) (h0 : Heap) (n0 : Nat) (Z0 : n0 ≤ h0.size) (S_cz : Sta Z h0 "java/lang/String" "COMPACT_STRINGS" "Z" (.int cz)) (Fc : Fld Z h0 a1 "java/lang/String" "coder" "B" (.int (0 : Int32))) (hcz : ¬ cz = 0) :
    MetFree l (⟨"java/lang/String", "isLatin1", "()Z"⟩ : MethodName) (head1 (Jvm.Cond.code (⟨"java/lang/String", "isLatin1", "()Z"⟩ : MethodName) jdk_42_method_154_code 1 (some .boolean) :: ws) ({ frames := 0, cells := 0, slots := 0, locals := 0 } : Room)) (fun a U => a = #[(.ref a1)] ∧ Z.Warmed39 U.vm ∧ U.heap = h0) (fun _ _ _ _ _ => True) (fun _ U o U' => ∃ v L, o = .returned v ∧ own_Q_lat Z a1 cz h0 n0 v U'.heap L ∧ FrameEnd U o U' L ({ frames := 0, cells := 0, slots := 0, locals := 0 } : Room).cells ({ frames := 0, cells := 0, slots := 0, locals := 0 } : Room).slots) := by
  refine MetFree.of_bodySF (plainFor_of_name own_pn1) hisR ?_
  intro p e s m args below meth c s₁ Bd hml0 hP hK
  obtain ⟨rfl, hZ, hh⟩ := hP
  have hx := Bd.exec
  have hby := Bd.bytes
  have hml : c.maxLocals = 1 := hml0
  have hown : s.vm.findClass "java/lang/String" = some m.cls := findClass_of_methodNamed Bd.named
  have hnm := (name_of_methodNamed Bd.named Bd.method).1
  have X0 : Stand p l e ({ frames := 0, cells := 0, slots := 0, locals := 0 } : Room) s m #[(.ref a1)] below meth c s₁ [] 0 0 := Stand.of_body Bd
  have e0 : s₁.heap = h0 := by rw [← hh, Bd.state]; rfl
  have N0 := Fr.nil n0
  have K0 : Keep h0 h0 [] := Keep.refl _ _
  show own_Go p e below s ({ frames := 0, cells := 0, slots := 0, locals := 0 } : Room).cells ({ frames := 0, cells := 0, slots := 0, locals := 0 } : Room).slots (own_Q_lat Z a1 cz h0 n0) (s₁.setTop (entryFrame m #[(.ref a1)] 1))
  have ef : entryFrame m #[(.ref a1)] 1 = (mkF m 0 #[.val (.ref a1)] []) := by first | (simp [entryFrame, mkF, argsToLocals, Value.category, maxLocals]; done) | rfl
  rw [ef]
  show own_Go p e below s _ _ _ (s₁.setTop (mkF m 0 #[.val (.ref a1)] []))
  obtain ⟨T3, X3, e3, st3⟩ := getS2 X0 hx hZ hown (host := "") (Or.inl (hw _ (List.mem_of_getElem? (i := 28) rfl))) Via.refl e0 S_cz (g := (mkF m 0 #[.val (.ref a1)] [])) rfl (hb hby own_d4_0)
  refine own_step (U' := (T3.setTop (mkF m 3 #[.val (.ref a1)] [(.int cz)]))) (fun t ht => st3 _ ht) ?_
  refine own_step (U' := (T3.setTop (mkF m 6 #[.val (.ref a1)] []))) (fun t ht => XS.ifNo X3.here hx rfl (hb hby own_d4_3) rfl (XT.i0_eq_f (hcz : ¬ (cz = 0))) ht) ?_
  refine own_step (U' := (T3.setTop (mkF m 7 #[.val (.ref a1)] [(.ref a1)]))) (fun t ht => XS.aloadN X3.here hx rfl (hb hby own_d4_6) rfl rfl ht) ?_
  obtain ⟨T4, X4, e4, st4⟩ := getF X3 hx hZ hown (host := "") (Or.inl (hw _ (List.mem_of_getElem? (i := 29) rfl))) Via.refl e3 Fc (g := (mkF m 7 #[.val (.ref a1)] [(.ref a1)])) rfl rfl (hb hby own_d4_7)
  refine own_step (U' := (T4.setTop (mkF m 10 #[.val (.ref a1)] [(.int (0 : Int32))]))) (fun t ht => st4 _ ht) ?_
  refine own_step (U' := (T4.setTop (mkF m 13 #[.val (.ref a1)] []))) (fun t ht => XS.ifNo X4.here hx rfl (hb hby own_d4_10) rfl (XT.i0_ne_f ((by decide) : (0 : Int32) = 0)) ht) ?_
  refine own_step (U' := (T4.setTop (mkF m 14 #[.val (.ref a1)] [(.int (1 : Int32))]))) (fun t ht => XS.iconst X4.here hx rfl (hb hby own_d4_13) ht) ?_
  refine own_step (U' := (T4.setTop (mkF m 18 #[.val (.ref a1)] [(.int (1 : Int32))]))) (fun t ht => XS.goto X4.here hx rfl (pc0 := 14) (pc' := 18) rfl (hb hby own_d4_14) (by decide) (by decide) ht) ?_
  refine own_ret X4 (v := (some (.int (nar .boolean (1 : Int32))))) (fun h => by rw [Bd.returns] at h; cases h) Bd.notSynchronized (by decide) (by decide) ?_ (fun fs hr => retN X4 hx (t := .boolean) Bd.returns (by simp) (hb hby own_d4_18) hr)
  show own_Q_lat Z a1 cz h0 n0 _ T4.heap _
  rw [e4]
  exact ⟨rfl, N0, rfl⟩
theorem own_pn2 : plainName "jdk/internal/util/Preconditions" = true := by first | (simp [plainName, overriddenIn]; done) | decide +kernel
theorem own_d7_0 : decode jdk_41_method_11_code 0 = .ok (.iload_n 0, 1) := by decide +kernel
theorem own_d7_1 : decode jdk_41_method_11_code 1 = .ok (.ifCond .lt 8, 3) := by decide +kernel
theorem own_d7_4 : decode jdk_41_method_11_code 4 = .ok (.iload_n 0, 1) := by decide +kernel
theorem own_d7_5 : decode jdk_41_method_11_code 5 = .ok (.iload_n 1, 1) := by decide +kernel
theorem own_d7_6 : decode jdk_41_method_11_code 6 = .ok (.if_icmp .lt 10, 3) := by decide +kernel
theorem own_d7_16 : decode jdk_41_method_11_code 16 = .ok (.iload_n 0, 1) := by decide +kernel
theorem own_d7_17 : decode jdk_41_method_11_code 17 = .ok (.ireturn, 1) := by decide +kernel
def own_Q_pci (Z : State) (p1 : Int32) (p2 : Int32) (fm : Value) (h0 : Heap) (n0 : Nat) (v : Option Value) (h : Heap) (L : List Loc) : Prop := v = some (.int p1) ∧ Fr n0 L ∧ h = h0
set_option maxRecDepth 65536 in
set_option maxHeartbeats 40000000 in
theorem own_m_pci (l : Launch) (Z : State) (a0 : Array Value) (hw : ∀ d ∈ tables_1, d.before a0 Z = true) (ws : List Jvm.Cond) (p1 : Int32) (p2 : Int32) (fm : Value) (h0 : Heap) (n0 : Nat) (Z0 : n0 ≤ h0.size) (hfm : fm.isRef = true) (hp0 : ¬ p1 < 0) (hp1 : p1 < p2) :
    MetFree l (⟨"jdk/internal/util/Preconditions", "checkIndex", "(IILjava/util/function/BiFunction;)I"⟩ : MethodName) (head1 (Jvm.Cond.code (⟨"jdk/internal/util/Preconditions", "checkIndex", "(IILjava/util/function/BiFunction;)I"⟩ : MethodName) jdk_41_method_11_code 3 (some .int) :: ws) ({ frames := 0, cells := 0, slots := 0, locals := 0 } : Room)) (fun a U => a = #[(.int p1), (.int p2), fm] ∧ Z.Warmed39 U.vm ∧ U.heap = h0) (fun _ _ _ _ _ => True) (fun _ U o U' => ∃ v L, o = .returned v ∧ own_Q_pci Z p1 p2 fm h0 n0 v U'.heap L ∧ FrameEnd U o U' L ({ frames := 0, cells := 0, slots := 0, locals := 0 } : Room).cells ({ frames := 0, cells := 0, slots := 0, locals := 0 } : Room).slots) := by
  refine MetFree.of_bodySF (plainFor_of_name own_pn2) hisR ?_
  intro p e s m args below meth c s₁ Bd hml0 hP hK
  obtain ⟨rfl, hZ, hh⟩ := hP
  have hx := Bd.exec
  have hby := Bd.bytes
  have hml : c.maxLocals = 3 := hml0
  have hown : s.vm.findClass "jdk/internal/util/Preconditions" = some m.cls := findClass_of_methodNamed Bd.named
  have hnm := (name_of_methodNamed Bd.named Bd.method).1
  have X0 : Stand p l e ({ frames := 0, cells := 0, slots := 0, locals := 0 } : Room) s m #[(.int p1), (.int p2), fm] below meth c s₁ [] 0 0 := Stand.of_body Bd
  have e0 : s₁.heap = h0 := by rw [← hh, Bd.state]; rfl
  have N0 := Fr.nil n0
  have K0 : Keep h0 h0 [] := Keep.refl _ _
  show own_Go p e below s ({ frames := 0, cells := 0, slots := 0, locals := 0 } : Room).cells ({ frames := 0, cells := 0, slots := 0, locals := 0 } : Room).slots (own_Q_pci Z p1 p2 fm h0 n0) (s₁.setTop (entryFrame m #[(.int p1), (.int p2), fm] 3))
  have ef : entryFrame m #[(.int p1), (.int p2), fm] 3 = (mkF m 0 #[.val (.int p1), .val (.int p2), .val fm] []) := by first | (simp [entryFrame, mkF, argsToLocals, Value.category, maxLocals]; done) | (rcases XT.refc (hfm) with rfl | ⟨_, rfl⟩ <;> rfl) | rfl
  rw [ef]
  show own_Go p e below s _ _ _ (s₁.setTop (mkF m 0 #[.val (.int p1), .val (.int p2), .val fm] []))
  refine own_step (U' := (s₁.setTop (mkF m 1 #[.val (.int p1), .val (.int p2), .val fm] [(.int p1)]))) (fun t ht => XS.iloadN X0.here hx rfl (hb hby own_d7_0) rfl ht) ?_
  refine own_step (U' := (s₁.setTop (mkF m 4 #[.val (.int p1), .val (.int p2), .val fm] []))) (fun t ht => XS.ifNo X0.here hx rfl (hb hby own_d7_1) rfl (XT.i0_lt_f (hp0 : ¬ (p1 < 0))) ht) ?_
  refine own_step (U' := (s₁.setTop (mkF m 5 #[.val (.int p1), .val (.int p2), .val fm] [(.int p1)]))) (fun t ht => XS.iloadN X0.here hx rfl (hb hby own_d7_4) rfl ht) ?_
  refine own_step (U' := (s₁.setTop (mkF m 6 #[.val (.int p1), .val (.int p2), .val fm] [(.int p2), (.int p1)]))) (fun t ht => XS.iloadN X0.here hx rfl (hb hby own_d7_5) rfl ht) ?_
  refine own_step (U' := (s₁.setTop (mkF m 16 #[.val (.int p1), .val (.int p2), .val fm] []))) (fun t ht => XS.icmpYes X0.here hx rfl (pc0 := 6) (pc' := 16) rfl (hb hby own_d7_6) rfl (XT.ii_lt_t (hp1 : p1 < p2)) (by decide) (by decide) ht) ?_
  refine own_step (U' := (s₁.setTop (mkF m 17 #[.val (.int p1), .val (.int p2), .val fm] [(.int p1)]))) (fun t ht => XS.iloadN X0.here hx rfl (hb hby own_d7_16) rfl ht) ?_
  refine own_ret X0 (v := (some (.int p1))) (fun h => by rw [Bd.returns] at h; cases h) Bd.notSynchronized (by decide) (by decide) ?_ (fun fs hr => retI X0 hx Bd.returns (hb hby own_d7_17) hr)
  show own_Q_pci Z p1 p2 fm h0 n0 _ s₁.heap _
  rw [e0]
  exact ⟨rfl, N0, rfl⟩
theorem own_pd0 : parseMethodDescriptor "(IILjava/util/function/BiFunction;)I" = some ⟨[.int, .int, (.object "java/util/function/BiFunction")], some .int⟩ := by decide +kernel
theorem own_d6_0 : decode jdk_42_method_155_code 0 = .ok (.iload_n 0, 1) := by decide +kernel
theorem own_d6_1 : decode jdk_42_method_155_code 1 = .ok (.iload_n 1, 1) := by decide +kernel
theorem own_d6_2 : decode jdk_42_method_155_code 2 = .ok (.getstatic 1053, 3) := by decide +kernel
theorem own_d6_5 : decode jdk_42_method_155_code 5 = .ok (.invokestatic 1059, 3) := by decide +kernel
theorem own_d6_8 : decode jdk_42_method_155_code 8 = .ok (.pop, 1) := by decide +kernel
theorem own_d6_9 : decode jdk_42_method_155_code 9 = .ok (.return_, 1) := by decide +kernel
def own_Q_sci (Z : State) (p1 : Int32) (p2 : Int32) (fm : Value) (h0 : Heap) (n0 : Nat) (v : Option Value) (h : Heap) (L : List Loc) : Prop := v = none ∧ Fr n0 L ∧ h = h0
set_option maxRecDepth 65536 in
set_option maxHeartbeats 40000000 in
theorem own_m_sci (l : Launch) (Z : State) (a0 : Array Value) (hw : ∀ d ∈ tables_1, d.before a0 Z = true) (ws : List Jvm.Cond) (p1 : Int32) (p2 : Int32) (fm : Value) (h0 : Heap) (n0 : Nat) (Z0 : n0 ≤ h0.size) (S_fm : Sta Z h0 "jdk/internal/util/Preconditions" "SIOOBE_FORMATTER" "Ljava/util/function/BiFunction;" fm) (hfm : fm.isRef = true) (hp0 : ¬ p1 < 0) (hp1 : p1 < p2) :
    MetFree l (⟨"java/lang/String", "checkIndex", "(II)V"⟩ : MethodName) (head1 (Jvm.Cond.code (⟨"java/lang/String", "checkIndex", "(II)V"⟩ : MethodName) jdk_42_method_155_code 2 none :: ws) ({ frames := 1, cells := 0, slots := 0, locals := 14 } : Room)) (fun a U => a = #[(.int p1), (.int p2)] ∧ Z.Warmed39 U.vm ∧ U.heap = h0) (fun _ _ _ _ _ => True) (fun _ U o U' => ∃ v L, o = .returned v ∧ own_Q_sci Z p1 p2 fm h0 n0 v U'.heap L ∧ FrameEnd U o U' L ({ frames := 1, cells := 0, slots := 0, locals := 14 } : Room).cells ({ frames := 1, cells := 0, slots := 0, locals := 14 } : Room).slots) := by
  refine MetFree.of_bodySF (plainFor_of_name own_pn1) hisR ?_
  intro p e s m args below meth c s₁ Bd hml0 hP hK
  obtain ⟨rfl, hZ, hh⟩ := hP
  have hx := Bd.exec
  have hby := Bd.bytes
  have hml : c.maxLocals = 2 := hml0
  have hown : s.vm.findClass "java/lang/String" = some m.cls := findClass_of_methodNamed Bd.named
  have hnm := (name_of_methodNamed Bd.named Bd.method).1
  have X0 : Stand p l e ({ frames := 1, cells := 0, slots := 0, locals := 14 } : Room) s m #[(.int p1), (.int p2)] below meth c s₁ [] 0 0 := Stand.of_body Bd
  have e0 : s₁.heap = h0 := by rw [← hh, Bd.state]; rfl
  have N0 := Fr.nil n0
  have K0 : Keep h0 h0 [] := Keep.refl _ _
  show own_Go p e below s ({ frames := 1, cells := 0, slots := 0, locals := 14 } : Room).cells ({ frames := 1, cells := 0, slots := 0, locals := 14 } : Room).slots (own_Q_sci Z p1 p2 fm h0 n0) (s₁.setTop (entryFrame m #[(.int p1), (.int p2)] 2))
  have ef : entryFrame m #[(.int p1), (.int p2)] 2 = (mkF m 0 #[.val (.int p1), .val (.int p2)] []) := by first | (simp [entryFrame, mkF, argsToLocals, Value.category, maxLocals]; done) | rfl
  rw [ef]
  show own_Go p e below s _ _ _ (s₁.setTop (mkF m 0 #[.val (.int p1), .val (.int p2)] []))
  refine own_step (U' := (s₁.setTop (mkF m 1 #[.val (.int p1), .val (.int p2)] [(.int p1)]))) (fun t ht => XS.iloadN X0.here hx rfl (hb hby own_d6_0) rfl ht) ?_
  refine own_step (U' := (s₁.setTop (mkF m 2 #[.val (.int p1), .val (.int p2)] [(.int p2), (.int p1)]))) (fun t ht => XS.iloadN X0.here hx rfl (hb hby own_d6_1) rfl ht) ?_
  obtain ⟨T5, X5, e5, st5⟩ := getS2 X0 hx hZ hown (host := "") (Or.inl (hw _ (List.mem_of_getElem? (i := 38) rfl))) Via.refl e0 S_fm (g := (mkF m 2 #[.val (.int p1), .val (.int p2)] [(.int p2), (.int p1)])) rfl (hb hby own_d6_2)
  refine own_step (U' := (T5.setTop (mkF m 5 #[.val (.int p1), .val (.int p2)] [fm, (.int p2), (.int p1)]))) (fun t ht => st5 _ ht) ?_
  obtain ⟨_, _, ⟨T6, L6, k6, n6⟩, -, X6, ⟨Lc6, hQ6, l6, y6, z6⟩, st6⟩ := Jvm.LawKit.callS X5 hx (y := (⟨"jdk/internal/util/Preconditions", "checkIndex", "(IILjava/util/function/BiFunction;)I"⟩ : MethodName)) hown (mvT hZ (hw _ (List.mem_of_getElem? (i := 40) rfl))) (mvT hZ (hw _ (List.mem_of_getElem? (i := 41) rfl))) (mvT hZ (hw _ (List.mem_of_getElem? (i := 39) rfl))) (mvT hZ (hw _ (List.mem_of_getElem? (i := 42) rfl))) (by decide) (backOf (W := 0) (own_m_pci l Z a0 hw [] (p1) (p2) (fm) h0 n0 Z0 (by assumption) (by assumption) (by assumption)) hZ (hw _ (List.mem_of_getElem? (i := 42) rfl)) (hw _ (List.mem_of_getElem? (i := 39) rfl)) (by decide) (by decide)) (g := (mkF m 5 #[.val (.int p1), .val (.int p2)] [fm, (.int p2), (.int p1)])) rfl (by rw [hml]; rfl) (argsL := [(.int p1), (.int p2), fm]) (rest := []) (lenOf own_pd0 rfl) rfl (by show 2 * 0 + _ ≤ _; exact Nat.le_of_eq rfl) (hb hby own_d6_5) (fun _ _ => ⟨rfl, e5, (by decide : 0 + 0 ≤ _), (by decide : 0 + 0 ≤ _)⟩)
  dsimp only [Pt.U, Pt.locs, Pt.cells, Pt.slots] at X6 l6 y6 z6 st6 hQ6
  subst l6 y6 z6
  obtain ⟨rfl, Nq6, Kq6⟩ := hQ6
  have N6 := Fr.app N0 Nq6
  have e6 : T6.heap = h0 := Kq6
  refine own_step (U' := (T6.setTop (mkF m 8 #[.val (.int p1), .val (.int p2)] [(.int p1)]))) (fun t ht => st6 _ ht) ?_
  refine own_step (U' := (T6.setTop (mkF m 9 #[.val (.int p1), .val (.int p2)] []))) (fun t ht => XT.pop X6.here hx rfl (hb hby own_d6_8) rfl rfl ht) ?_
  refine own_ret X6 (v := none) (fun _ => rfl) Bd.notSynchronized (by decide) (by decide) ?_ (fun fs hr => X6.returnOut hx Bd.returns (hb hby own_d6_9) hr)
  show own_Q_sci Z p1 p2 fm h0 n0 _ T6.heap _
  rw [e6]
  exact ⟨rfl, N6, rfl⟩
theorem own_pn3 : plainName "java/lang/StringLatin1" = true := by first | (simp [plainName, overriddenIn]; done) | decide +kernel
theorem own_pd1 : parseMethodDescriptor "(II)V" = some ⟨[.int, .int], none⟩ := by decide +kernel
theorem own_d5_0 : decode jdk_43_method_2_code 0 = .ok (.iload_n 1, 1) := by decide +kernel
theorem own_d5_1 : decode jdk_43_method_2_code 1 = .ok (.aload_n 0, 1) := by decide +kernel
theorem own_d5_2 : decode jdk_43_method_2_code 2 = .ok (.arraylength, 1) := by decide +kernel
theorem own_d5_3 : decode jdk_43_method_2_code 3 = .ok (.invokestatic 9, 3) := by decide +kernel
theorem own_d5_6 : decode jdk_43_method_2_code 6 = .ok (.aload_n 0, 1) := by decide +kernel
theorem own_d5_7 : decode jdk_43_method_2_code 7 = .ok (.iload_n 1, 1) := by decide +kernel
theorem own_d5_8 : decode jdk_43_method_2_code 8 = .ok (.baload, 1) := by decide +kernel
theorem own_d5_9 : decode jdk_43_method_2_code 9 = .ok (.sipush 255, 3) := by decide +kernel
theorem own_d5_12 : decode jdk_43_method_2_code 12 = .ok (.iand, 1) := by decide +kernel
theorem own_d5_13 : decode jdk_43_method_2_code 13 = .ok (.i2c, 1) := by decide +kernel
theorem own_d5_14 : decode jdk_43_method_2_code 14 = .ok (.ireturn, 1) := by decide +kernel
def own_Q_lch (Z : State) (b1 : Addr) (p1 : Int32) (kb : ClassId) (fm : Value) (h0 : Heap) (n0 : Nat) (v : Option Value) (h : Heap) (L : List Loc) : Prop := v = some (.int (own_at10 p1)) ∧ Fr n0 L ∧ h = h0
set_option maxRecDepth 65536 in
set_option maxHeartbeats 40000000 in
theorem own_m_lch (l : Launch) (Z : State) (a0 : Array Value) (hw : ∀ d ∈ tables_1, d.before a0 Z = true) (ws : List Jvm.Cond) (b1 : Addr) (p1 : Int32) (kb : ClassId) (fm : Value) (h0 : Heap) (n0 : Nat) (Z0 : n0 ≤ h0.size) (Vb : Arv Z h0 b1 kb .byte (10 : Int32) own_vs (.int (0 : Int32))) (S_fm : Sta Z h0 "jdk/internal/util/Preconditions" "SIOOBE_FORMATTER" "Ljava/util/function/BiFunction;" fm) (hfm : fm.isRef = true) (hp0 : ¬ p1 < 0) (hp1 : p1 < 10) :
    MetFree l (⟨"java/lang/StringLatin1", "charAt", "([BI)C"⟩ : MethodName) (head1 (Jvm.Cond.code (⟨"java/lang/StringLatin1", "charAt", "([BI)C"⟩ : MethodName) jdk_43_method_2_code 2 (some .char) :: ws) ({ frames := 2, cells := 0, slots := 0, locals := 27 } : Room)) (fun a U => a = #[(.ref b1), (.int p1)] ∧ Z.Warmed39 U.vm ∧ U.heap = h0) (fun _ _ _ _ _ => True) (fun _ U o U' => ∃ v L, o = .returned v ∧ own_Q_lch Z b1 p1 kb fm h0 n0 v U'.heap L ∧ FrameEnd U o U' L ({ frames := 2, cells := 0, slots := 0, locals := 27 } : Room).cells ({ frames := 2, cells := 0, slots := 0, locals := 27 } : Room).slots) := by
  refine MetFree.of_bodySF (plainFor_of_name own_pn3) hisR ?_
  intro p e s m args below meth c s₁ Bd hml0 hP hK
  obtain ⟨rfl, hZ, hh⟩ := hP
  have hx := Bd.exec
  have hby := Bd.bytes
  have hml : c.maxLocals = 2 := hml0
  have hown : s.vm.findClass "java/lang/StringLatin1" = some m.cls := findClass_of_methodNamed Bd.named
  have hnm := (name_of_methodNamed Bd.named Bd.method).1
  have X0 : Stand p l e ({ frames := 2, cells := 0, slots := 0, locals := 27 } : Room) s m #[(.ref b1), (.int p1)] below meth c s₁ [] 0 0 := Stand.of_body Bd
  have e0 : s₁.heap = h0 := by rw [← hh, Bd.state]; rfl
  have N0 := Fr.nil n0
  have K0 : Keep h0 h0 [] := Keep.refl _ _
  show own_Go p e below s ({ frames := 2, cells := 0, slots := 0, locals := 27 } : Room).cells ({ frames := 2, cells := 0, slots := 0, locals := 27 } : Room).slots (own_Q_lch Z b1 p1 kb fm h0 n0) (s₁.setTop (entryFrame m #[(.ref b1), (.int p1)] 2))
  have ef : entryFrame m #[(.ref b1), (.int p1)] 2 = (mkF m 0 #[.val (.ref b1), .val (.int p1)] []) := by first | (simp [entryFrame, mkF, argsToLocals, Value.category, maxLocals]; done) | rfl
  rw [ef]
  show own_Go p e below s _ _ _ (s₁.setTop (mkF m 0 #[.val (.ref b1), .val (.int p1)] []))
  refine own_step (U' := (s₁.setTop (mkF m 1 #[.val (.ref b1), .val (.int p1)] [(.int p1)]))) (fun t ht => XS.iloadN X0.here hx rfl (hb hby own_d5_0) rfl ht) ?_
  refine own_step (U' := (s₁.setTop (mkF m 2 #[.val (.ref b1), .val (.int p1)] [(.ref b1), (.int p1)]))) (fun t ht => XS.aloadN X0.here hx rfl (hb hby own_d5_1) rfl rfl ht) ?_
  obtain ⟨cl7, Ar7, q7, S7, N7_, H7, G7⟩ := (id Vb)
  refine own_step (U' := (s₁.setTop (mkF m 3 #[.val (.ref b1), .val (.int p1)] [(.int (10 : Int32)), (.int p1)]))) (fun t ht => X0.arraylength hx (own_at e0 Ar7.1) (State.isArrayOf_alike hZ.alike Ar7.2.1) (g := (mkF m 2 #[.val (.ref b1), .val (.int p1)] [(.ref b1), (.int p1)])) rfl rfl (hb hby own_d5_2) _ (by rw [len_of S7 N7_]; exact ht)) ?_
  obtain ⟨_, _, ⟨T8, L8, k8, n8⟩, -, X8, ⟨Lc8, hQ8, l8, y8, z8⟩, st8⟩ := Jvm.LawKit.callS X0 hx (y := (⟨"java/lang/String", "checkIndex", "(II)V"⟩ : MethodName)) hown (mvT hZ (hw _ (List.mem_of_getElem? (i := 35) rfl))) (mvT hZ (hw _ (List.mem_of_getElem? (i := 36) rfl))) (mvT hZ (hw _ (List.mem_of_getElem? (i := 11) rfl))) (mvT hZ (hw _ (List.mem_of_getElem? (i := 37) rfl))) (by decide) (backOf (W := 0) (own_m_sci l Z a0 hw [] (p1) ((10 : Int32)) (fm) h0 n0 Z0 S_fm (by assumption) (by assumption) (by assumption)) hZ (hw _ (List.mem_of_getElem? (i := 37) rfl)) (hw _ (List.mem_of_getElem? (i := 11) rfl)) (by decide) (by decide)) (g := (mkF m 3 #[.val (.ref b1), .val (.int p1)] [(.int (10 : Int32)), (.int p1)])) rfl (by rw [hml]; rfl) (argsL := [(.int p1), (.int (10 : Int32))]) (rest := []) (lenOf own_pd1 rfl) rfl (by show 2 * 0 + _ ≤ _; exact Nat.le_of_eq rfl) (hb hby own_d5_3) (fun _ _ => ⟨rfl, e0, (by decide : 0 + 0 ≤ _), (by decide : 0 + 0 ≤ _)⟩)
  dsimp only [Pt.U, Pt.locs, Pt.cells, Pt.slots] at X8 l8 y8 z8 st8 hQ8
  subst l8 y8 z8
  obtain ⟨rfl, Nq8, Kq8⟩ := hQ8
  have N8 := Fr.app N0 Nq8
  have e8 : T8.heap = h0 := Kq8
  refine own_step (U' := (T8.setTop (mkF m 6 #[.val (.ref b1), .val (.int p1)] []))) (fun t ht => st8 _ ht) ?_
  refine own_step (U' := (T8.setTop (mkF m 7 #[.val (.ref b1), .val (.int p1)] [(.ref b1)]))) (fun t ht => XS.aloadN X8.here hx rfl (hb hby own_d5_6) rfl rfl ht) ?_
  refine own_step (U' := (T8.setTop (mkF m 8 #[.val (.ref b1), .val (.int p1)] [(.int p1), (.ref b1)]))) (fun t ht => XS.iloadN X8.here hx rfl (hb hby own_d5_7) rfl ht) ?_
  obtain ⟨cl9, Ar9, q9, S9, N9_, H9, G9⟩ := (id Vb)
  have hin9 : ¬ (p1 < 0 ∨ cl9.slots.size ≤ (p1).toNatClampNeg) := inb_of S9 (own_in10 hp0 hp1)
  have hat9 : cl9.slots[(p1).toNatClampNeg]? = some (.int (own_at10 p1)) := Has.at H9 hin9 (own_ld10 p1)
  refine own_step (U' := (T8.setTop (mkF m 9 #[.val (.ref b1), .val (.int p1)] [(.int (own_at10 p1))]))) (fun t ht => X8.baloadBytes hx (j := p1) (v := (.int (own_at10 p1))) (own_at e8 Ar9.1) (State.isArrayOf_alike hZ.alike Ar9.2.1) Ar9.2.2 hin9 hat9 (g := (mkF m 8 #[.val (.ref b1), .val (.int p1)] [(.int p1), (.ref b1)])) rfl rfl (hb hby own_d5_8) _ ht) ?_
  refine own_step (U' := (T8.setTop (mkF m 12 #[.val (.ref b1), .val (.int p1)] [(.int (255 : Int32)), (.int (own_at10 p1))]))) (fun t ht => XS.sipush X8.here hx rfl (hb hby own_d5_9) ht) ?_
  refine own_step (U' := (T8.setTop (mkF m 13 #[.val (.ref b1), .val (.int p1)] [(.int ((own_at10 p1) &&& (255 : Int32)))]))) (fun t ht => XS.iand X8.here hx rfl (hb hby own_d5_12) rfl ht) ?_
  refine own_step (U' := (T8.setTop (mkF m 14 #[.val (.ref b1), .val (.int p1)] [(.int (((own_at10 p1) &&& (255 : Int32)).toUInt32.toUInt16.toUInt32.toInt32))]))) (fun t ht => XT.i2c X8.here hx rfl (hb hby own_d5_13) rfl ht) ?_
  refine own_ret X8 (v := (some (.int (nar .char (((own_at10 p1) &&& (255 : Int32)).toUInt32.toUInt16.toUInt32.toInt32))))) (fun h => by rw [Bd.returns] at h; cases h) Bd.notSynchronized (by decide) (by decide) ?_ (fun fs hr => retN X8 hx (t := .char) Bd.returns (by simp) (hb hby own_d5_14) hr)
  show own_Q_lch Z b1 p1 kb fm h0 n0 _ T8.heap _
  rw [e8]
  refine ⟨?_, N8, rfl⟩
  rw [own_nar10]
theorem own_pd2 : parseMethodDescriptor "()Z" = some ⟨[], some .boolean⟩ := by decide +kernel
theorem own_pd3 : parseMethodDescriptor "([BI)C" = some ⟨[(.array .byte), .int], some .char⟩ := by decide +kernel
theorem own_d3_0 : decode jdk_42_method_56_code 0 = .ok (.aload_n 0, 1) := by decide +kernel
theorem own_d3_1 : decode jdk_42_method_56_code 1 = .ok (.invokevirtual 492, 3) := by decide +kernel
theorem own_d3_4 : decode jdk_42_method_56_code 4 = .ok (.ifCond .eq 12, 3) := by decide +kernel
theorem own_d3_7 : decode jdk_42_method_56_code 7 = .ok (.aload_n 0, 1) := by decide +kernel
theorem own_d3_8 : decode jdk_42_method_56_code 8 = .ok (.getfield 9, 3) := by decide +kernel
theorem own_d3_11 : decode jdk_42_method_56_code 11 = .ok (.iload_n 1, 1) := by decide +kernel
theorem own_d3_12 : decode jdk_42_method_56_code 12 = .ok (.invokestatic 495, 3) := by decide +kernel
theorem own_d3_15 : decode jdk_42_method_56_code 15 = .ok (.ireturn, 1) := by decide +kernel
def own_Q_cha (Z : State) (a1 : Addr) (p1 : Int32) (b1 : Addr) (kb : ClassId) (cz : Int32) (fm : Value) (h0 : Heap) (n0 : Nat) (v : Option Value) (h : Heap) (L : List Loc) : Prop := v = some (.int (own_at10 p1)) ∧ Fr n0 L ∧ h = h0
set_option maxRecDepth 65536 in
set_option maxHeartbeats 40000000 in
theorem own_m_cha (l : Launch) (Z : State) (a0 : Array Value) (hw : ∀ d ∈ tables_1, d.before a0 Z = true) (ws : List Jvm.Cond) (a1 : Addr) (p1 : Int32) (b1 : Addr) (kb : ClassId) (cz : Int32) (fm : Value) (h0 : Heap) (n0 : Nat) (Z0 : n0 ≤ h0.size) (E1 : Exa Z h0 a1 "java/lang/String") (Fc : Fld Z h0 a1 "java/lang/String" "coder" "B" (.int (0 : Int32))) (Fv : Fld Z h0 a1 "java/lang/String" "value" "[B" (.ref b1)) (Vb : Arv Z h0 b1 kb .byte (10 : Int32) own_vs (.int (0 : Int32))) (S_cz : Sta Z h0 "java/lang/String" "COMPACT_STRINGS" "Z" (.int cz)) (S_fm : Sta Z h0 "jdk/internal/util/Preconditions" "SIOOBE_FORMATTER" "Ljava/util/function/BiFunction;" fm) (hcz : ¬ cz = 0) (hfm : fm.isRef = true) (hp0 : ¬ p1 < 0) (hp1 : p1 < 10) :
    MetFree l (⟨"java/lang/String", "charAt", "(I)C"⟩ : MethodName) (head1 (Jvm.Cond.code (⟨"java/lang/String", "charAt", "(I)C"⟩ : MethodName) jdk_42_method_56_code 2 (some .char) :: ws) ({ frames := 3, cells := 0, slots := 0, locals := 40 } : Room)) (fun a U => a = #[(.ref a1), (.int p1)] ∧ Z.Warmed39 U.vm ∧ U.heap = h0) (fun _ _ _ _ _ => True) (fun _ U o U' => ∃ v L, o = .returned v ∧ own_Q_cha Z a1 p1 b1 kb cz fm h0 n0 v U'.heap L ∧ FrameEnd U o U' L ({ frames := 3, cells := 0, slots := 0, locals := 40 } : Room).cells ({ frames := 3, cells := 0, slots := 0, locals := 40 } : Room).slots) := by
  refine MetFree.of_bodySF (plainFor_of_name own_pn1) hisR ?_
  intro p e s m args below meth c s₁ Bd hml0 hP hK
  obtain ⟨rfl, hZ, hh⟩ := hP
  have hx := Bd.exec
  have hby := Bd.bytes
  have hml : c.maxLocals = 2 := hml0
  have hown : s.vm.findClass "java/lang/String" = some m.cls := findClass_of_methodNamed Bd.named
  have hnm := (name_of_methodNamed Bd.named Bd.method).1
  have X0 : Stand p l e ({ frames := 3, cells := 0, slots := 0, locals := 40 } : Room) s m #[(.ref a1), (.int p1)] below meth c s₁ [] 0 0 := Stand.of_body Bd
  have e0 : s₁.heap = h0 := by rw [← hh, Bd.state]; rfl
  have N0 := Fr.nil n0
  have K0 : Keep h0 h0 [] := Keep.refl _ _
  show own_Go p e below s ({ frames := 3, cells := 0, slots := 0, locals := 40 } : Room).cells ({ frames := 3, cells := 0, slots := 0, locals := 40 } : Room).slots (own_Q_cha Z a1 p1 b1 kb cz fm h0 n0) (s₁.setTop (entryFrame m #[(.ref a1), (.int p1)] 2))
  have ef : entryFrame m #[(.ref a1), (.int p1)] 2 = (mkF m 0 #[.val (.ref a1), .val (.int p1)] []) := by first | (simp [entryFrame, mkF, argsToLocals, Value.category, maxLocals]; done) | rfl
  rw [ef]
  show own_Go p e below s _ _ _ (s₁.setTop (mkF m 0 #[.val (.ref a1), .val (.int p1)] []))
  refine own_step (U' := (s₁.setTop (mkF m 1 #[.val (.ref a1), .val (.int p1)] [(.ref a1)]))) (fun t ht => XS.aloadN X0.here hx rfl (hb hby own_d3_0) rfl rfl ht) ?_
  obtain ⟨cq10, kq10, q10a, q10b, q10c⟩ := isOf hZ e0 E1
  obtain ⟨_, _, ⟨T10, L10, k10, n10⟩, -, X10, ⟨Lc10, hQ10, l10, y10, z10⟩, st10⟩ := X0.virtualBack hx (y := (⟨"java/lang/String", "isLatin1", "()Z"⟩ : MethodName)) (z := (⟨"java/lang/String", "isLatin1", "()Z"⟩ : MethodName)) hown (mvT hZ (hw _ (List.mem_of_getElem? (i := 23) rfl))) (mvT hZ (hw _ (List.mem_of_getElem? (i := 24) rfl))) (notFace_of_selects (args := #[]) (mvT hZ (hw _ (List.mem_of_getElem? (i := 26) rfl)))) (mvT hZ (hw _ (List.mem_of_getElem? (i := 26) rfl))) (mvT hZ (hw _ (List.mem_of_getElem? (i := 25) rfl))) (by decide) (backOf (W := 0) (own_m_lat l Z a0 hw [] (a1) (cz) h0 n0 Z0 S_cz Fc (by assumption)) hZ (hw _ (List.mem_of_getElem? (i := 27) rfl)) (hw _ (List.mem_of_getElem? (i := 11) rfl)) (by decide) (by decide)) q10a q10c (g := (mkF m 1 #[.val (.ref a1), .val (.int p1)] [(.ref a1)])) rfl (by rw [hml]; rfl) (Steps.refl _) (argsL := []) (rest := []) (lenOf own_pd2 rfl) rfl (by show 2 * 0 + _ ≤ _; exact Nat.le_of_eq rfl) (hb hby own_d3_1) (fun _ _ => ⟨rfl, e0, (by decide : 0 + 0 ≤ _), (by decide : 0 + 0 ≤ _)⟩)
  dsimp only [Pt.U, Pt.locs, Pt.cells, Pt.slots] at X10 l10 y10 z10 st10 hQ10
  subst l10 y10 z10
  obtain ⟨rfl, Nq10, Kq10⟩ := hQ10
  have N10 := Fr.app N0 Nq10
  have e10 : T10.heap = h0 := Kq10
  refine own_step (U' := (T10.setTop (mkF m 4 #[.val (.ref a1), .val (.int p1)] [(.int (1 : Int32))]))) (fun t ht => st10.trans ht) ?_
  refine own_step (U' := (T10.setTop (mkF m 7 #[.val (.ref a1), .val (.int p1)] []))) (fun t ht => XS.ifNo X10.here hx rfl (hb hby own_d3_4) rfl (XT.i0_eq_f ((by decide) : ¬ ((1 : Int32) = 0))) ht) ?_
  refine own_step (U' := (T10.setTop (mkF m 8 #[.val (.ref a1), .val (.int p1)] [(.ref a1)]))) (fun t ht => XS.aloadN X10.here hx rfl (hb hby own_d3_7) rfl rfl ht) ?_
  obtain ⟨T11, X11, e11, st11⟩ := getF X10 hx hZ hown (host := "") (Or.inl (hw _ (List.mem_of_getElem? (i := 30) rfl))) Via.refl e10 Fv (g := (mkF m 8 #[.val (.ref a1), .val (.int p1)] [(.ref a1)])) rfl rfl (hb hby own_d3_8)
  refine own_step (U' := (T11.setTop (mkF m 11 #[.val (.ref a1), .val (.int p1)] [(.ref b1)]))) (fun t ht => st11 _ ht) ?_
  refine own_step (U' := (T11.setTop (mkF m 12 #[.val (.ref a1), .val (.int p1)] [(.int p1), (.ref b1)]))) (fun t ht => XS.iloadN X11.here hx rfl (hb hby own_d3_11) rfl ht) ?_
  obtain ⟨_, _, ⟨T12, L12, k12, n12⟩, -, X12, ⟨Lc12, hQ12, l12, y12, z12⟩, st12⟩ := Jvm.LawKit.callS X11 hx (y := (⟨"java/lang/StringLatin1", "charAt", "([BI)C"⟩ : MethodName)) hown (mvT hZ (hw _ (List.mem_of_getElem? (i := 31) rfl))) (mvT hZ (hw _ (List.mem_of_getElem? (i := 32) rfl))) (mvT hZ (hw _ (List.mem_of_getElem? (i := 33) rfl))) (mvT hZ (hw _ (List.mem_of_getElem? (i := 34) rfl))) (by decide) (backOf (W := 0) (own_m_lch l Z a0 hw [] (b1) (p1) (kb) (fm) h0 n0 Z0 Vb S_fm (by assumption) (by assumption) (by assumption)) hZ (hw _ (List.mem_of_getElem? (i := 34) rfl)) (hw _ (List.mem_of_getElem? (i := 33) rfl)) (by decide) (by decide)) (g := (mkF m 12 #[.val (.ref a1), .val (.int p1)] [(.int p1), (.ref b1)])) rfl (by rw [hml]; rfl) (argsL := [(.ref b1), (.int p1)]) (rest := []) (lenOf own_pd3 rfl) rfl (by show 2 * 0 + _ ≤ _; exact Nat.le_of_eq rfl) (hb hby own_d3_12) (fun _ _ => ⟨rfl, e11, (by decide : 0 + 0 ≤ _), (by decide : 0 + 0 ≤ _)⟩)
  dsimp only [Pt.U, Pt.locs, Pt.cells, Pt.slots] at X12 l12 y12 z12 st12 hQ12
  subst l12 y12 z12
  obtain ⟨rfl, Nq12, Kq12⟩ := hQ12
  have N12 := Fr.app N10 Nq12
  have e12 : T12.heap = h0 := Kq12
  refine own_step (U' := (T12.setTop (mkF m 15 #[.val (.ref a1), .val (.int p1)] [(.int (own_at10 p1))]))) (fun t ht => st12 _ ht) ?_
  refine own_ret X12 (v := (some (.int (nar .char (own_at10 p1))))) (fun h => by rw [Bd.returns] at h; cases h) Bd.notSynchronized (by decide) (by decide) ?_ (fun fs hr => retN X12 hx (t := .char) Bd.returns (by simp) (hb hby own_d3_15) hr)
  show own_Q_cha Z a1 p1 b1 kb cz fm h0 n0 _ T12.heap _
  rw [e12]
  refine ⟨?_, N12, rfl⟩
  rw [own_narc10]
theorem own_pn4 : plainName "com/example/version_parser/versionparser/SemVerReaderIsDigitPinLaw" = true := by first | (simp [plainName, overriddenIn]; done) | decide +kernel
theorem own_pd4 : parseMethodDescriptor "(I)C" = some ⟨[.int], some .char⟩ := by decide +kernel
theorem own_d2_0 : decode method_3_code 0 = .ok (.iload_n 0, 1) := by decide +kernel
theorem own_d2_1 : decode method_3_code 1 = .ok (.i2l, 1) := by decide +kernel
theorem own_d2_2 : decode method_3_code 2 = .ok (.ldc2_w 18, 3) := by decide +kernel
theorem own_d2_5 : decode method_3_code 5 = .ok (.lsub, 1) := by decide +kernel
theorem own_d2_6 : decode method_3_code 6 = .ok (.lstore_n 1, 1) := by decide +kernel
theorem own_d2_7 : decode method_3_code 7 = .ok (.lload_n 1, 1) := by decide +kernel
theorem own_d2_8 : decode method_3_code 8 = .ok (.lconst 0, 1) := by decide +kernel
theorem own_d2_9 : decode method_3_code 9 = .ok (.lcmp, 1) := by decide +kernel
theorem own_d2_10 : decode method_3_code 10 = .ok (.ifCond .ge 5, 3) := by decide +kernel
theorem own_d2_13 : decode method_3_code 13 = .ok (.iconst 0, 1) := by decide +kernel
theorem own_d2_14 : decode method_3_code 14 = .ok (.ireturn, 1) := by decide +kernel
theorem own_d2_15 : decode method_3_code 15 = .ok (.lload_n 1, 1) := by decide +kernel
theorem own_d2_16 : decode method_3_code 16 = .ok (.ldc2_w 20, 3) := by decide +kernel
theorem own_d2_19 : decode method_3_code 19 = .ok (.lcmp, 1) := by decide +kernel
theorem own_d2_20 : decode method_3_code 20 = .ok (.ifCond .le 5, 3) := by decide +kernel
theorem own_d2_23 : decode method_3_code 23 = .ok (.iconst 0, 1) := by decide +kernel
theorem own_d2_24 : decode method_3_code 24 = .ok (.ireturn, 1) := by decide +kernel
theorem own_d2_25 : decode method_3_code 25 = .ok (.ldc 22, 2) := by decide +kernel
theorem own_d2_27 : decode method_3_code 27 = .ok (.lload_n 1, 1) := by decide +kernel
theorem own_d2_28 : decode method_3_code 28 = .ok (.l2i, 1) := by decide +kernel
theorem own_d2_29 : decode method_3_code 29 = .ok (.invokevirtual 24, 3) := by decide +kernel
theorem own_d2_32 : decode method_3_code 32 = .ok (.iload_n 0, 1) := by decide +kernel
theorem own_d2_33 : decode method_3_code 33 = .ok (.if_icmp .ne 7, 3) := by decide +kernel
theorem own_d2_36 : decode method_3_code 36 = .ok (.iconst 1, 1) := by decide +kernel
theorem own_d2_37 : decode method_3_code 37 = .ok (.goto 4, 3) := by decide +kernel
theorem own_d2_41 : decode method_3_code 41 = .ok (.ireturn, 1) := by decide +kernel
def own_Q_exp (Z : State) (p1 : Int32) (cz : Int32) (fm : Value) (h0 : Heap) (n0 : Nat) (v : Option Value) (h : Heap) (vm : Vm) (L : List Loc) : Prop := v = some (.int (own_dig p1)) ∧ Fr n0 L ∧ Keep h0 h [] ∧ own_K Z h vm
set_option maxRecDepth 65536 in
set_option maxHeartbeats 40000000 in
theorem own_m_exp (l : Launch) (Z : State) (a0 : Array Value) (hw : ∀ d ∈ tables_1, d.before a0 Z = true) (ws : List Jvm.Cond) (p1 : Int32) (cz : Int32) (fm : Value) (h0 : Heap) (n0 : Nat) (Z0 : n0 ≤ h0.size) (S_cz : Sta Z h0 "java/lang/String" "COMPACT_STRINGS" "Z" (.int cz)) (S_fm : Sta Z h0 "jdk/internal/util/Preconditions" "SIOOBE_FORMATTER" "Ljava/util/function/BiFunction;" fm) (hcz : ¬ cz = 0) (hfm : fm.isRef = true) (hheld : Jvm.Lit.constHeld Z "com/example/version_parser/versionparser/SemVerReaderIsDigitPinLaw" 22) (hcw : Jvm.Lit.compactW.before a0 Z = true) (hzh : ∀ (b : Addr) (cl : Cell), Z.heap[b]? = some cl → h0[b]? = some cl) :
    MetFree l (⟨"com/example/version_parser/versionparser/SemVerReaderIsDigitPinLaw", "expected", "(I)Z"⟩ : MethodName) (head1 (Jvm.Cond.code (⟨"com/example/version_parser/versionparser/SemVerReaderIsDigitPinLaw", "expected", "(I)Z"⟩ : MethodName) method_3_code 3 (some .boolean) :: ws) ({ frames := 4, cells := 2, slots := 44, locals := 53 } : Room)) (fun a U => a = #[(.int p1)] ∧ Z.Warmed39 U.vm ∧ U.heap = h0 ∧ own_K Z h0 U.vm) (fun _ _ _ _ _ => True) (fun _ U o U' => ∃ v L, o = .returned v ∧ own_Q_exp Z p1 cz fm h0 n0 v U'.heap U'.vm L ∧ ReturnedEndW U o U' L ({ frames := 4, cells := 2, slots := 44, locals := 53 } : Room).cells ({ frames := 4, cells := 2, slots := 44, locals := 53 } : Room).slots) := by
  refine MetFree.of_bodySF (plainFor_of_name own_pn4) hisR ?_
  intro p e s m args below meth c s₁ Bd hml0 hP hK
  obtain ⟨rfl, hZ, hh, hkv⟩ := hP
  have hx := Bd.exec
  have hby := Bd.bytes
  have hml : c.maxLocals = 3 := hml0
  have hown : s.vm.findClass "com/example/version_parser/versionparser/SemVerReaderIsDigitPinLaw" = some m.cls := findClass_of_methodNamed Bd.named
  have hnm := (name_of_methodNamed Bd.named Bd.method).1
  have X0 : Stand p l e ({ frames := 4, cells := 2, slots := 44, locals := 53 } : Room) (s.setVm s.vm) m #[(.int p1)] below meth c s₁ [] 0 0 := Stand.of_body Bd
  have e0 : s₁.heap = h0 := by rw [← hh, Bd.state]; rfl
  have N0 := Fr.nil n0
  have K0 : Keep h0 h0 [] := Keep.refl _ _
  have hS0 : s.Since s.vm 0 := (State.WarmedH.refl _).since 0
  have hk0 : 0 ≤ (h0).size := Nat.zero_le _
  show own_GoV p e below s ({ frames := 4, cells := 2, slots := 44, locals := 53 } : Room).cells ({ frames := 4, cells := 2, slots := 44, locals := 53 } : Room).slots (own_Q_exp Z p1 cz fm h0 n0) (s₁.setTop (entryFrame m #[(.int p1)] 3))
  have ef : entryFrame m #[(.int p1)] 3 = (mkF m 0 #[.val (.int p1), .unset, .unset] []) := by first | (simp [entryFrame, mkF, argsToLocals, Value.category, maxLocals]; done) | rfl
  rw [ef]
  have own_wS : ∀ d ∈ Bundle.stringAtoms, d.before a0 Z = true := by
    intro d hd
    simp only [Bundle.stringAtoms, List.mem_cons, List.not_mem_nil, or_false] at hd
    rcases hd with rfl | rfl | rfl | rfl | rfl | rfl | rfl
    · exact (hw _ (List.mem_of_getElem? (i := 11) rfl))
    · exact (hw _ (List.mem_of_getElem? (i := 12) rfl))
    · exact (hw _ (List.mem_of_getElem? (i := 13) rfl))
    · exact (hw _ (List.mem_of_getElem? (i := 14) rfl))
    · exact (hw _ (List.mem_of_getElem? (i := 15) rfl))
    · exact (hw _ (List.mem_of_getElem? (i := 16) rfl))
    · exact (hw _ (List.mem_of_getElem? (i := 17) rfl))
  show own_GoV p e below s _ _ _ (s₁.setTop (mkF m 0 #[.val (.int p1), .unset, .unset] []))
  refine own_stepV (U' := (s₁.setTop (mkF m 1 #[.val (.int p1), .unset, .unset] [(.int p1)]))) (fun t ht => XS.iloadN X0.here hx rfl (hb hby own_d2_0) rfl ht) ?_
  refine own_stepV (U' := (s₁.setTop (mkF m 2 #[.val (.int p1), .unset, .unset] [(.long (p1.toInt64))]))) (fun t ht => XT.i2l X0.here hx rfl (hb hby own_d2_1) rfl ht) ?_
  refine own_stepV (U' := (s₁.setTop (mkF m 5 #[.val (.int p1), .unset, .unset] [(.long (48 : Int64)), (.long (p1.toInt64))]))) (fun t ht => X0.ldc2Long hx hown (mvT hZ (hw _ (List.mem_of_getElem? (i := 8) rfl))) (g := (mkF m 2 #[.val (.int p1), .unset, .unset] [(.long (p1.toInt64))])) rfl (hb hby own_d2_2) _ ht) ?_
  refine own_stepV (U' := (s₁.setTop (mkF m 6 #[.val (.int p1), .unset, .unset] [(.long ((p1.toInt64) - (48 : Int64)))]))) (fun t ht => XT.lsub X0.here hx rfl (hb hby own_d2_5) rfl ht) ?_
  refine own_stepV (U' := (s₁.setTop (mkF m 7 #[.val (.int p1), .val (.long ((p1.toInt64) - (48 : Int64))), .second] []))) (fun t ht => XT.lstoreN X0.here hx rfl (hb hby own_d2_6) rfl (l' := #[.val (.int p1), .val (.long ((p1.toInt64) - (48 : Int64))), .second]) rfl ht) ?_
  refine own_stepV (U' := (s₁.setTop (mkF m 8 #[.val (.int p1), .val (.long ((p1.toInt64) - (48 : Int64))), .second] [(.long ((p1.toInt64) - (48 : Int64)))]))) (fun t ht => XT.lloadN X0.here hx rfl (hb hby own_d2_7) rfl ht) ?_
  refine own_stepV (U' := (s₁.setTop (mkF m 9 #[.val (.int p1), .val (.long ((p1.toInt64) - (48 : Int64))), .second] [(.long (0 : Int64)), (.long ((p1.toInt64) - (48 : Int64)))]))) (fun t ht => XT.lconstV X0.here hx rfl (0 : Int64) (hb hby own_d2_8) rfl ht) ?_
  refine own_stepV (U' := (s₁.setTop (mkF m 10 #[.val (.int p1), .val (.long ((p1.toInt64) - (48 : Int64))), .second] [(.int (XT.cmpL ((p1.toInt64) - (48 : Int64)) (0 : Int64)))]))) (fun t ht => XT.lcmp X0.here hx rfl (hb hby own_d2_9) rfl ht) ?_
  by_cases hc10_13 : ((p1.toInt64) - (48 : Int64)) < (0 : Int64)
  ·
    refine own_stepV (U' := (s₁.setTop (mkF m 13 #[.val (.int p1), .val (.long ((p1.toInt64) - (48 : Int64))), .second] []))) (fun t ht => XS.ifNo X0.here hx rfl (hb hby own_d2_10) rfl (XT.ll_ge_f hc10_13) ht) ?_
    refine own_stepV (U' := (s₁.setTop (mkF m 14 #[.val (.int p1), .val (.long ((p1.toInt64) - (48 : Int64))), .second] [(.int (0 : Int32))]))) (fun t ht => XS.iconst X0.here hx rfl (hb hby own_d2_13) ht) ?_
    refine own_retV X0 hS0 (by rw [e0]; exact hk0) (v := (some (.int (nar .boolean (0 : Int32))))) (fun h => by rw [Bd.returns] at h; cases h) Bd.notSynchronized (by decide) (by decide) ?_ (fun fs hr => retN X0 hx (t := .boolean) Bd.returns (by simp) (hb hby own_d2_14) hr)
    show own_Q_exp Z p1 cz fm h0 n0 _ s₁.heap s₁.vm _
    rw [e0]
    refine ⟨?_, N0, K0, own_Kwarm X0.warmed hkv⟩
    rw [own_dig, if_pos (own_lt48.mp hc10_13)]; rfl
  ·
    refine own_stepV (U' := (s₁.setTop (mkF m 15 #[.val (.int p1), .val (.long ((p1.toInt64) - (48 : Int64))), .second] []))) (fun t ht => XS.ifYes X0.here hx rfl (pc0 := 10) (pc' := 15) rfl (hb hby own_d2_10) rfl (XT.ll_ge_t hc10_13) (by decide) (by decide) ht) ?_
    refine own_stepV (U' := (s₁.setTop (mkF m 16 #[.val (.int p1), .val (.long ((p1.toInt64) - (48 : Int64))), .second] [(.long ((p1.toInt64) - (48 : Int64)))]))) (fun t ht => XT.lloadN X0.here hx rfl (hb hby own_d2_15) rfl ht) ?_
    refine own_stepV (U' := (s₁.setTop (mkF m 19 #[.val (.int p1), .val (.long ((p1.toInt64) - (48 : Int64))), .second] [(.long (9 : Int64)), (.long ((p1.toInt64) - (48 : Int64)))]))) (fun t ht => X0.ldc2Long hx hown (mvT hZ (hw _ (List.mem_of_getElem? (i := 9) rfl))) (g := (mkF m 16 #[.val (.int p1), .val (.long ((p1.toInt64) - (48 : Int64))), .second] [(.long ((p1.toInt64) - (48 : Int64)))])) rfl (hb hby own_d2_16) _ ht) ?_
    refine own_stepV (U' := (s₁.setTop (mkF m 20 #[.val (.int p1), .val (.long ((p1.toInt64) - (48 : Int64))), .second] [(.int (XT.cmpL ((p1.toInt64) - (48 : Int64)) (9 : Int64)))]))) (fun t ht => XT.lcmp X0.here hx rfl (hb hby own_d2_19) rfl ht) ?_
    by_cases hc20_14 : (9 : Int64) < ((p1.toInt64) - (48 : Int64))
    ·
      refine own_stepV (U' := (s₁.setTop (mkF m 23 #[.val (.int p1), .val (.long ((p1.toInt64) - (48 : Int64))), .second] []))) (fun t ht => XS.ifNo X0.here hx rfl (hb hby own_d2_20) rfl (XT.ll_le_f hc20_14) ht) ?_
      refine own_stepV (U' := (s₁.setTop (mkF m 24 #[.val (.int p1), .val (.long ((p1.toInt64) - (48 : Int64))), .second] [(.int (0 : Int32))]))) (fun t ht => XS.iconst X0.here hx rfl (hb hby own_d2_23) ht) ?_
      refine own_retV X0 hS0 (by rw [e0]; exact hk0) (v := (some (.int (nar .boolean (0 : Int32))))) (fun h => by rw [Bd.returns] at h; cases h) Bd.notSynchronized (by decide) (by decide) ?_ (fun fs hr => retN X0 hx (t := .boolean) Bd.returns (by simp) (hb hby own_d2_24) hr)
      show own_Q_exp Z p1 cz fm h0 n0 _ s₁.heap s₁.vm _
      rw [e0]
      refine ⟨?_, N0, K0, own_Kwarm X0.warmed hkv⟩
      rw [own_dig, if_neg (mt own_lt48.mpr hc10_13), if_pos (own_gt57.mp hc20_14)]; rfl
    ·
      refine own_stepV (U' := (s₁.setTop (mkF m 25 #[.val (.int p1), .val (.long ((p1.toInt64) - (48 : Int64))), .second] []))) (fun t ht => XS.ifYes X0.here hx rfl (pc0 := 20) (pc' := 25) rfl (hb hby own_d2_20) rfl (XT.ll_le_t hc20_14) (by decide) (by decide) ht) ?_
      obtain ⟨hj0, hj1, hat⟩ := own_ix (c := p1) (mt own_lt48.mpr hc10_13) (mt own_gt57.mpr hc20_14)
      rcases hkv with I | ⟨aL, bL, kL, qE, qC, qV, qA, qL⟩
      ·
        obtain ⟨a15, T15, h15, k15, b15, kk15, X15, e15, E15, hS15, hk15, hZ, hown, E115, F115, F215, V115, -, -, -, Lt15, st15⟩ := ldcSVL X0 hx hZ hown (hw _ (List.mem_of_getElem? (i := 10) rfl)) own_wS e0 hS0 hk0 (Fr.nil _) (fun b cl q => by rw [hh]; exact hzh b cl q) I List.not_mem_nil hheld hcw own_ht (z := (10 : Int32)) (by decide) (by decide) (g := (mkF m 25 #[.val (.int p1), .val (.long ((p1.toInt64) - (48 : Int64))), .second] [])) rfl (hb hby own_d2_25) (n := 40) (by decide) (by decide) (by decide) (by decide)
        have f15_0 : Sta Z h15 "java/lang/String" "COMPACT_STRINGS" "Z" (.int cz) := S_cz.ext E15
        have f15_1 : Sta Z h15 "jdk/internal/util/Preconditions" "SIOOBE_FORMATTER" "Ljava/util/function/BiFunction;" fm := S_fm.ext E15
        have K15 : Keep h0 h15 [] := K0.ext E15
        have kv15 : own_K Z h15 T15.vm := own_Kof (T := T15) E115 F115 F215 V115 Lt15
        refine own_stepV (U' := (T15.setTop (mkF m 27 #[.val (.int p1), .val (.long ((p1.toInt64) - (48 : Int64))), .second] [(.ref a15)]))) (fun t ht => st15 _ ht) ?_
        refine own_stepV (U' := (T15.setTop (mkF m 28 #[.val (.int p1), .val (.long ((p1.toInt64) - (48 : Int64))), .second] [(.long ((p1.toInt64) - (48 : Int64))), (.ref a15)]))) (fun t ht => XT.lloadN X15.here hx rfl (hb hby own_d2_27) rfl ht) ?_
        refine own_stepV (U' := (T15.setTop (mkF m 29 #[.val (.int p1), .val (.long ((p1.toInt64) - (48 : Int64))), .second] [(.int (((p1.toInt64) - (48 : Int64)).toInt32)), (.ref a15)]))) (fun t ht => XT.l2i X15.here hx rfl (hb hby own_d2_28) rfl ht) ?_
        obtain ⟨cq16, kq16, q16a, q16b, q16c⟩ := isOf hZ e15 E115
        obtain ⟨_, _, ⟨T16, L16, k16, n16⟩, -, X16, ⟨Lc16, hQ16, l16, y16, z16⟩, st16⟩ := X15.virtualBack hx (y := (⟨"java/lang/String", "charAt", "(I)C"⟩ : MethodName)) (z := (⟨"java/lang/String", "charAt", "(I)C"⟩ : MethodName)) hown (mvT hZ (hw _ (List.mem_of_getElem? (i := 18) rfl))) (mvT hZ (hw _ (List.mem_of_getElem? (i := 19) rfl))) (notFace_of_selects (args := #[]) (mvT hZ (hw _ (List.mem_of_getElem? (i := 21) rfl)))) (mvT hZ (hw _ (List.mem_of_getElem? (i := 21) rfl))) (mvT hZ (hw _ (List.mem_of_getElem? (i := 20) rfl))) (by decide) (backOf (W := 0) (own_m_cha l Z a0 hw [] (a15) ((((p1.toInt64) - (48 : Int64)).toInt32)) (b15) (kk15) (cz) (fm) h15 n0 (Nat.le_trans Z0 K15.1) E115 F115 F215 V115 f15_0 f15_1 (by assumption) (by assumption) hj0 hj1) hZ (hw _ (List.mem_of_getElem? (i := 22) rfl)) (hw _ (List.mem_of_getElem? (i := 11) rfl)) (by decide) (by decide)) q16a q16c (g := (mkF m 29 #[.val (.int p1), .val (.long ((p1.toInt64) - (48 : Int64))), .second] [(.int (((p1.toInt64) - (48 : Int64)).toInt32)), (.ref a15)])) rfl (by rw [hml]; rfl) (Steps.refl _) (argsL := [(.int (((p1.toInt64) - (48 : Int64)).toInt32))]) (rest := []) (lenOf own_pd4 rfl) rfl (by show 2 * 0 + _ ≤ _; exact Nat.le_of_eq rfl) (hb hby own_d2_29) (fun _ _ => ⟨rfl, e15, (by decide : 2 + 0 ≤ _), (by decide : 44 + 0 ≤ _)⟩)
        dsimp only [Pt.U, Pt.locs, Pt.cells, Pt.slots] at X16 l16 y16 z16 st16 hQ16
        subst l16 y16 z16
        obtain ⟨rfl, Nq16, Kq16⟩ := hQ16
        have N16 := Fr.app N0 Nq16
        have e16 : T16.heap = h15 := Kq16
        refine own_stepV (U' := (T16.setTop (mkF m 32 #[.val (.int p1), .val (.long ((p1.toInt64) - (48 : Int64))), .second] [(.int (own_at10 (((p1.toInt64) - (48 : Int64)).toInt32)))]))) (fun t ht => st16.trans ht) ?_
        refine own_stepV (U' := (T16.setTop (mkF m 33 #[.val (.int p1), .val (.long ((p1.toInt64) - (48 : Int64))), .second] [(.int p1), (.int (own_at10 (((p1.toInt64) - (48 : Int64)).toInt32)))]))) (fun t ht => XS.iloadN X16.here hx rfl (hb hby own_d2_32) rfl ht) ?_
        refine own_stepV (U' := (T16.setTop (mkF m 36 #[.val (.int p1), .val (.long ((p1.toInt64) - (48 : Int64))), .second] []))) (fun t ht => XS.icmpNo X16.here hx rfl (hb hby own_d2_33) rfl (XT.ii_ne_f (hat : (own_at10 (((p1.toInt64) - (48 : Int64)).toInt32)) = p1)) ht) ?_
        refine own_stepV (U' := (T16.setTop (mkF m 37 #[.val (.int p1), .val (.long ((p1.toInt64) - (48 : Int64))), .second] [(.int (1 : Int32))]))) (fun t ht => XS.iconst X16.here hx rfl (hb hby own_d2_36) ht) ?_
        refine own_stepV (U' := (T16.setTop (mkF m 41 #[.val (.int p1), .val (.long ((p1.toInt64) - (48 : Int64))), .second] [(.int (1 : Int32))]))) (fun t ht => XS.goto X16.here hx rfl (pc0 := 37) (pc' := 41) rfl (hb hby own_d2_37) (by decide) (by decide) ht) ?_
        refine own_retV X16 hS15 (by rw [e16]; exact hk15) (v := (some (.int (nar .boolean (1 : Int32))))) (fun h => by rw [Bd.returns] at h; cases h) Bd.notSynchronized (by decide) (by decide) ?_ (fun fs hr => retN X16 hx (t := .boolean) Bd.returns (by simp) (hb hby own_d2_41) hr)
        show own_Q_exp Z p1 cz fm h0 n0 _ T16.heap T16.vm _
        rw [e16]
        refine ⟨?_, N16, K15, own_Kwarm X16.warmed kv15⟩
        rw [own_dig, if_neg (mt own_lt48.mpr hc10_13), if_neg (mt own_gt57.mpr hc20_14)]; rfl
      ·
        have kv15 : own_K Z h0 s.vm := Or.inr ⟨aL, bL, kL, qE, qC, qV, qA, qL⟩
        refine own_stepV (U' := (s₁.setTop (mkF m 27 #[.val (.int p1), .val (.long ((p1.toInt64) - (48 : Int64))), .second] [(.ref aL)]))) (fun t ht => ldcAgain X0 hx hZ hown (hw _ (List.mem_of_getElem? (i := 10) rfl)) (a := aL) qL (g := (mkF m 25 #[.val (.int p1), .val (.long ((p1.toInt64) - (48 : Int64))), .second] [])) rfl (hb hby own_d2_25) _ ht) ?_
        refine own_stepV (U' := (s₁.setTop (mkF m 28 #[.val (.int p1), .val (.long ((p1.toInt64) - (48 : Int64))), .second] [(.long ((p1.toInt64) - (48 : Int64))), (.ref aL)]))) (fun t ht => XT.lloadN X0.here hx rfl (hb hby own_d2_27) rfl ht) ?_
        refine own_stepV (U' := (s₁.setTop (mkF m 29 #[.val (.int p1), .val (.long ((p1.toInt64) - (48 : Int64))), .second] [(.int (((p1.toInt64) - (48 : Int64)).toInt32)), (.ref aL)]))) (fun t ht => XT.l2i X0.here hx rfl (hb hby own_d2_28) rfl ht) ?_
        obtain ⟨cq17, kq17, q17a, q17b, q17c⟩ := isOf hZ e0 qE
        obtain ⟨_, _, ⟨T17, L17, k17, n17⟩, -, X17, ⟨Lc17, hQ17, l17, y17, z17⟩, st17⟩ := X0.virtualBack hx (y := (⟨"java/lang/String", "charAt", "(I)C"⟩ : MethodName)) (z := (⟨"java/lang/String", "charAt", "(I)C"⟩ : MethodName)) hown (mvT hZ (hw _ (List.mem_of_getElem? (i := 18) rfl))) (mvT hZ (hw _ (List.mem_of_getElem? (i := 19) rfl))) (notFace_of_selects (args := #[]) (mvT hZ (hw _ (List.mem_of_getElem? (i := 21) rfl)))) (mvT hZ (hw _ (List.mem_of_getElem? (i := 21) rfl))) (mvT hZ (hw _ (List.mem_of_getElem? (i := 20) rfl))) (by decide) (backOf (W := 0) (own_m_cha l Z a0 hw [] (aL) ((((p1.toInt64) - (48 : Int64)).toInt32)) (bL) (kL) (cz) (fm) h0 n0 Z0 qE qC qV qA S_cz S_fm (by assumption) (by assumption) hj0 hj1) hZ (hw _ (List.mem_of_getElem? (i := 22) rfl)) (hw _ (List.mem_of_getElem? (i := 11) rfl)) (by decide) (by decide)) q17a q17c (g := (mkF m 29 #[.val (.int p1), .val (.long ((p1.toInt64) - (48 : Int64))), .second] [(.int (((p1.toInt64) - (48 : Int64)).toInt32)), (.ref aL)])) rfl (by rw [hml]; rfl) (Steps.refl _) (argsL := [(.int (((p1.toInt64) - (48 : Int64)).toInt32))]) (rest := []) (lenOf own_pd4 rfl) rfl (by show 2 * 0 + _ ≤ _; exact Nat.le_of_eq rfl) (hb hby own_d2_29) (fun _ _ => ⟨rfl, e0, (by decide : 0 + 0 ≤ _), (by decide : 0 + 0 ≤ _)⟩)
        dsimp only [Pt.U, Pt.locs, Pt.cells, Pt.slots] at X17 l17 y17 z17 st17 hQ17
        subst l17 y17 z17
        obtain ⟨rfl, Nq17, Kq17⟩ := hQ17
        have N17 := Fr.app N0 Nq17
        have e17 : T17.heap = h0 := Kq17
        refine own_stepV (U' := (T17.setTop (mkF m 32 #[.val (.int p1), .val (.long ((p1.toInt64) - (48 : Int64))), .second] [(.int (own_at10 (((p1.toInt64) - (48 : Int64)).toInt32)))]))) (fun t ht => st17.trans ht) ?_
        refine own_stepV (U' := (T17.setTop (mkF m 33 #[.val (.int p1), .val (.long ((p1.toInt64) - (48 : Int64))), .second] [(.int p1), (.int (own_at10 (((p1.toInt64) - (48 : Int64)).toInt32)))]))) (fun t ht => XS.iloadN X17.here hx rfl (hb hby own_d2_32) rfl ht) ?_
        refine own_stepV (U' := (T17.setTop (mkF m 36 #[.val (.int p1), .val (.long ((p1.toInt64) - (48 : Int64))), .second] []))) (fun t ht => XS.icmpNo X17.here hx rfl (hb hby own_d2_33) rfl (XT.ii_ne_f (hat : (own_at10 (((p1.toInt64) - (48 : Int64)).toInt32)) = p1)) ht) ?_
        refine own_stepV (U' := (T17.setTop (mkF m 37 #[.val (.int p1), .val (.long ((p1.toInt64) - (48 : Int64))), .second] [(.int (1 : Int32))]))) (fun t ht => XS.iconst X17.here hx rfl (hb hby own_d2_36) ht) ?_
        refine own_stepV (U' := (T17.setTop (mkF m 41 #[.val (.int p1), .val (.long ((p1.toInt64) - (48 : Int64))), .second] [(.int (1 : Int32))]))) (fun t ht => XS.goto X17.here hx rfl (pc0 := 37) (pc' := 41) rfl (hb hby own_d2_37) (by decide) (by decide) ht) ?_
        refine own_retV X17 hS0 (by rw [e17]; exact hk0) (v := (some (.int (nar .boolean (1 : Int32))))) (fun h => by rw [Bd.returns] at h; cases h) Bd.notSynchronized (by decide) (by decide) ?_ (fun fs hr => retN X17 hx (t := .boolean) Bd.returns (by simp) (hb hby own_d2_41) hr)
        show own_Q_exp Z p1 cz fm h0 n0 _ T17.heap T17.vm _
        rw [e17]
        refine ⟨?_, N17, K0, own_Kwarm X17.warmed kv15⟩
        rw [own_dig, if_neg (mt own_lt48.mpr hc10_13), if_neg (mt own_gt57.mpr hc20_14)]; rfl
theorem own_pd5 : parseMethodDescriptor "(I)Z" = some ⟨[.int], some .boolean⟩ := by decide +kernel
def own_Q_law (Z : State) (p1 : Int32) (p2 : Int32) (cz : Int32) (fm : Value) (h0 : Heap) (n0 : Nat) (v : Option Value) (h : Heap) (vm : Vm) (L : List Loc) : Prop := v = some (.int 1) ∧ Fr n0 L
set_option maxRecDepth 65536 in
set_option maxHeartbeats 40000000 in
theorem own_m_law (l : Launch) (Z : State) (a0 : Array Value) (hw : ∀ d ∈ tables_1, d.before a0 Z = true) (ws : List Jvm.Cond) (p1 : Int32) (p2 : Int32) (cz : Int32) (fm : Value) (h0 : Heap) (n0 : Nat) (Z0 : n0 ≤ h0.size) (S_cz : Sta Z h0 "java/lang/String" "COMPACT_STRINGS" "Z" (.int cz)) (S_fm : Sta Z h0 "jdk/internal/util/Preconditions" "SIOOBE_FORMATTER" "Ljava/util/function/BiFunction;" fm) (hcz : ¬ cz = 0) (hfm : fm.isRef = true) (hheld : Jvm.Lit.constHeld Z "com/example/version_parser/versionparser/SemVerReaderIsDigitPinLaw" 22) (hcw : Jvm.Lit.compactW.before a0 Z = true) (hzh : ∀ (b : Addr) (cl : Cell), Z.heap[b]? = some cl → h0[b]? = some cl) :
    MetFree l x (head1 (Jvm.Cond.code x code maxLocals ret :: ws) room_1) (fun a U => a = #[(.int p1), (.int p2)] ∧ Z.Warmed39 U.vm ∧ U.heap = h0 ∧ own_K Z h0 U.vm) (fun _ _ _ _ _ => True) (fun _ U o U' => ∃ v L, o = .returned v ∧ own_Q_law Z p1 p2 cz fm h0 n0 v U'.heap U'.vm L ∧ ReturnedEndW U o U' L 4 88) := by
  refine MetFree.of_bodySF (plainFor_of_name own_pn4) hisR ?_
  intro p e s m args below meth c s₁ Bd hml0 hP hK
  obtain ⟨rfl, hZ, hh, hkv⟩ := hP
  have hx := Bd.exec
  have hby := Bd.bytes
  have hml : c.maxLocals = 5 := hml0
  have hown : s.vm.findClass "com/example/version_parser/versionparser/SemVerReaderIsDigitPinLaw" = some m.cls := findClass_of_methodNamed Bd.named
  have hnm := (name_of_methodNamed Bd.named Bd.method).1
  have X0 : Stand p l e room_1 (s.setVm s.vm) m #[(.int p1), (.int p2)] below meth c s₁ [] 0 0 := Stand.of_body Bd
  have e0 : s₁.heap = h0 := by rw [← hh, Bd.state]; rfl
  have N0 := Fr.nil n0
  have K0 : Keep h0 h0 [] := Keep.refl _ _
  have hS0 : s.Since s.vm 0 := (State.WarmedH.refl _).since 0
  have hk0 : 0 ≤ (h0).size := Nat.zero_le _
  show own_GoV p e below s 4 88 (own_Q_law Z p1 p2 cz fm h0 n0) (s₁.setTop (entryFrame m #[(.int p1), (.int p2)] maxLocals))
  have ef : entryFrame m #[(.int p1), (.int p2)] maxLocals = (mkF m 0 #[.val (.int p1), .val (.int p2), .unset, .unset, .unset] []) := by first | (simp [entryFrame, mkF, argsToLocals, Value.category, maxLocals]; done) | rfl
  rw [ef]
  have own_wS : ∀ d ∈ Bundle.stringAtoms, d.before a0 Z = true := by
    intro d hd
    simp only [Bundle.stringAtoms, List.mem_cons, List.not_mem_nil, or_false] at hd
    rcases hd with rfl | rfl | rfl | rfl | rfl | rfl | rfl
    · exact (hw _ (List.mem_of_getElem? (i := 11) rfl))
    · exact (hw _ (List.mem_of_getElem? (i := 12) rfl))
    · exact (hw _ (List.mem_of_getElem? (i := 13) rfl))
    · exact (hw _ (List.mem_of_getElem? (i := 14) rfl))
    · exact (hw _ (List.mem_of_getElem? (i := 15) rfl))
    · exact (hw _ (List.mem_of_getElem? (i := 16) rfl))
    · exact (hw _ (List.mem_of_getElem? (i := 17) rfl))
  show own_GoV p e below s _ _ _ (s₁.setTop (mkF m 0 #[.val (.int p1), .val (.int p2), .unset, .unset, .unset] []))
  refine own_stepV (U' := (s₁.setTop (mkF m 2 #[.val (.int p1), .val (.int p2), .unset, .unset, .unset] [(.int (40 : Int32))]))) (fun t ht => XS.bipush X0.here hx rfl (hb hby at_0) ht) ?_
  refine own_stepV (U' := (s₁.setTop (mkF m 3 #[.val (.int p1), .val (.int p2), .unset, .unset, .unset] [(.int p2), (.int (40 : Int32))]))) (fun t ht => XS.iloadN X0.here hx rfl (hb hby at_2) rfl ht) ?_
  refine own_stepV (U' := (s₁.setTop (mkF m 5 #[.val (.int p1), .val (.int p2), .unset, .unset, .unset] [(.int (31 : Int32)), (.int p2), (.int (40 : Int32))]))) (fun t ht => XS.bipush X0.here hx rfl (hb hby at_3) ht) ?_
  refine own_stepV (U' := (s₁.setTop (mkF m 6 #[.val (.int p1), .val (.int p2), .unset, .unset, .unset] [(.int (p2 &&& (31 : Int32))), (.int (40 : Int32))]))) (fun t ht => XS.iand X0.here hx rfl (hb hby at_5) rfl ht) ?_
  refine own_stepV (U' := (s₁.setTop (mkF m 7 #[.val (.int p1), .val (.int p2), .unset, .unset, .unset] [(.int ((40 : Int32) + (p2 &&& (31 : Int32))))]))) (fun t ht => XS.iadd X0.here hx rfl (hb hby at_6) rfl ht) ?_
  refine own_stepV (U' := (s₁.setTop (mkF m 8 #[.val (.int p1), .val (.int p2), .val (.int ((40 : Int32) + (p2 &&& (31 : Int32)))), .unset, .unset] []))) (fun t ht => XS.istoreN X0.here hx rfl (hb hby at_7) rfl (l' := #[.val (.int p1), .val (.int p2), .val (.int ((40 : Int32) + (p2 &&& (31 : Int32)))), .unset, .unset]) rfl ht) ?_
  generalize h_near : ((40 : Int32) + (p2 &&& (31 : Int32))) = near
  refine own_stepV (U' := (s₁.setTop (mkF m 9 #[.val (.int p1), .val (.int p2), .val (.int near), .unset, .unset] [(.int p1)]))) (fun t ht => XS.iloadN X0.here hx rfl (hb hby at_8) rfl ht) ?_
  obtain ⟨_, _, ⟨T18, L18, k18, n18⟩, -, X18, ⟨Lc18, hQ18, l18, y18, z18⟩, st18⟩ := Jvm.LawKit.callS X0 hx (y := (⟨"com/example/version_parser/versionparser/SemVerReader", "isDigit", "(I)Z"⟩ : MethodName)) hown (mvT hZ (hw _ (List.mem_of_getElem? (i := 0) rfl))) (mvT hZ (hw _ (List.mem_of_getElem? (i := 1) rfl))) (mvT hZ (hw _ (List.mem_of_getElem? (i := 2) rfl))) (mvT hZ (hw _ (List.mem_of_getElem? (i := 3) rfl))) (by decide) (backOf (W := 0) (own_m_isd l Z a0 hw [] (p1) h0 n0 Z0 ) hZ (hw _ (List.mem_of_getElem? (i := 3) rfl)) (hw _ (List.mem_of_getElem? (i := 2) rfl)) (by decide) (by decide)) (g := (mkF m 9 #[.val (.int p1), .val (.int p2), .val (.int near), .unset, .unset] [(.int p1)])) rfl (by rw [hml]; rfl) (argsL := [(.int p1)]) (rest := []) (lenOf own_pd5 rfl) rfl (by show 2 * 0 + _ ≤ _; exact Nat.le_of_eq rfl) (hb hby at_9) (fun _ _ => ⟨rfl, e0, (by decide : 0 + 0 ≤ _), (by decide : 0 + 0 ≤ _)⟩)
  dsimp only [Pt.U, Pt.locs, Pt.cells, Pt.slots] at X18 l18 y18 z18 st18 hQ18
  subst l18 y18 z18
  obtain ⟨rfl, Nq18, Kq18⟩ := hQ18
  have N18 := Fr.app N0 Nq18
  have e18 : T18.heap = h0 := Kq18
  refine own_stepV (U' := (T18.setTop (mkF m 12 #[.val (.int p1), .val (.int p2), .val (.int near), .unset, .unset] [(.int (own_dig p1))]))) (fun t ht => st18 _ ht) ?_
  refine own_stepV (U' := (T18.setTop (mkF m 13 #[.val (.int p1), .val (.int p2), .val (.int near), .unset, .unset] [(.int p1), (.int (own_dig p1))]))) (fun t ht => XS.iloadN X18.here hx rfl (hb hby at_12) rfl ht) ?_
  obtain ⟨_, _, ⟨T19, L19, k19, n19⟩, -, X19, hSc19, hg19, ⟨Lc19, hQ19, l19, y19, z19⟩, st19⟩ := callSS X18 hx (y := (⟨"com/example/version_parser/versionparser/SemVerReaderIsDigitPinLaw", "expected", "(I)Z"⟩ : MethodName)) hown (mvT hZ (hw _ (List.mem_of_getElem? (i := 4) rfl))) (mvT hZ (hw _ (List.mem_of_getElem? (i := 5) rfl))) (mvT hZ (hw _ (List.mem_of_getElem? (i := 6) rfl))) (mvT hZ (hw _ (List.mem_of_getElem? (i := 7) rfl))) (by decide) (own_backV (PV := fun vm => own_K Z h0 vm) (W := 1) (own_m_exp l Z a0 hw [] (p1) (cz) (fm) h0 n0 Z0 S_cz S_fm (by assumption) (by assumption) (by assumption) (by assumption) (fun b cl q => K0.2.1 b cl (hzh b cl q) (by simp))) hZ (hw _ (List.mem_of_getElem? (i := 7) rfl)) (hw _ (List.mem_of_getElem? (i := 6) rfl)) (by decide) (by decide)) (g := (mkF m 13 #[.val (.int p1), .val (.int p2), .val (.int near), .unset, .unset] [(.int p1), (.int (own_dig p1))])) rfl (by rw [hml]; rfl) (argsL := [(.int p1)]) (rest := [(.int (own_dig p1))]) (lenOf own_pd5 rfl) rfl (by show 2 * 0 + _ ≤ _; exact Nat.le_of_eq rfl) (hb hby at_13) (fun _ hW1 => ⟨rfl, e18, (by decide : 0 + 2 ≤ _), (by decide : 0 + 44 ≤ _), own_Kwarm hW1 hkv⟩)
  dsimp only [Pt.U, Pt.locs, Pt.cells, Pt.slots] at X19 l19 y19 z19 st19 hQ19 hSc19 hg19
  subst l19 y19 z19
  obtain ⟨rfl, Nq19, Kq19, kv19⟩ := hQ19
  obtain ⟨X19, hS19, hZ, hown⟩ := rebS hS0 (by rw [e18]; exact hk0) X19 hSc19 hg19 hZ hown
  have hk19 : T19.heap.size ≤ (T19.heap).size := Nat.le_refl _
  have N19 := Fr.app N18 Nq19
  have f19_0 : Sta Z T19.heap "java/lang/String" "COMPACT_STRINGS" "Z" (.int cz) := own_sta_keep S_cz Kq19 own_pl0
  have f19_1 : Sta Z T19.heap "jdk/internal/util/Preconditions" "SIOOBE_FORMATTER" "Ljava/util/function/BiFunction;" fm := own_sta_keep S_fm Kq19 own_pl0
  have K19 : Keep h0 T19.heap [] := K0.trans Kq19 all0
  refine own_stepV (U' := (T19.setTop (mkF m 16 #[.val (.int p1), .val (.int p2), .val (.int near), .unset, .unset] [(.int (own_dig p1)), (.int (own_dig p1))]))) (fun t ht => st19.trans ht) ?_
  refine own_stepV (U' := (T19.setTop (mkF m 19 #[.val (.int p1), .val (.int p2), .val (.int near), .unset, .unset] []))) (fun t ht => XS.icmpNo X19.here hx rfl (hb hby at_16) rfl (XT.ii_ne_f (rfl : (own_dig p1) = (own_dig p1))) ht) ?_
  refine own_stepV (U' := (T19.setTop (mkF m 20 #[.val (.int p1), .val (.int p2), .val (.int near), .unset, .unset] [(.int (1 : Int32))]))) (fun t ht => XS.iconst X19.here hx rfl (hb hby at_19) ht) ?_
  refine own_stepV (U' := (T19.setTop (mkF m 24 #[.val (.int p1), .val (.int p2), .val (.int near), .unset, .unset] [(.int (1 : Int32))]))) (fun t ht => XS.goto X19.here hx rfl (pc0 := 20) (pc' := 24) rfl (hb hby at_20) (by decide) (by decide) ht) ?_
  refine own_stepV (U' := (T19.setTop (mkF m 25 #[.val (.int p1), .val (.int p2), .val (.int near), .val (.int (1 : Int32)), .unset] []))) (fun t ht => XS.istoreN X19.here hx rfl (hb hby at_24) rfl (l' := #[.val (.int p1), .val (.int p2), .val (.int near), .val (.int (1 : Int32)), .unset]) rfl ht) ?_
  refine own_stepV (U' := (T19.setTop (mkF m 26 #[.val (.int p1), .val (.int p2), .val (.int near), .val (.int (1 : Int32)), .unset] [(.int near)]))) (fun t ht => XS.iloadN X19.here hx rfl (hb hby at_25) rfl ht) ?_
  obtain ⟨_, _, ⟨T20, L20, k20, n20⟩, -, X20, ⟨Lc20, hQ20, l20, y20, z20⟩, st20⟩ := Jvm.LawKit.callS X19 hx (y := (⟨"com/example/version_parser/versionparser/SemVerReader", "isDigit", "(I)Z"⟩ : MethodName)) hown (mvT hZ (hw _ (List.mem_of_getElem? (i := 0) rfl))) (mvT hZ (hw _ (List.mem_of_getElem? (i := 1) rfl))) (mvT hZ (hw _ (List.mem_of_getElem? (i := 2) rfl))) (mvT hZ (hw _ (List.mem_of_getElem? (i := 3) rfl))) (by decide) (backOf (W := 0) (own_m_isd l Z a0 hw [] (near) T19.heap n0 (Nat.le_trans Z0 K19.1) ) hZ (hw _ (List.mem_of_getElem? (i := 3) rfl)) (hw _ (List.mem_of_getElem? (i := 2) rfl)) (by decide) (by decide)) (g := (mkF m 26 #[.val (.int p1), .val (.int p2), .val (.int near), .val (.int (1 : Int32)), .unset] [(.int near)])) rfl (by rw [hml]; rfl) (argsL := [(.int near)]) (rest := []) (lenOf own_pd5 rfl) rfl (by show 2 * 0 + _ ≤ _; exact Nat.le_of_eq rfl) (hb hby at_26) (fun _ _ => ⟨rfl, rfl, (by decide : 2 + 0 ≤ _), (by decide : 44 + 0 ≤ _)⟩)
  dsimp only [Pt.U, Pt.locs, Pt.cells, Pt.slots] at X20 l20 y20 z20 st20 hQ20
  subst l20 y20 z20
  obtain ⟨rfl, Nq20, Kq20⟩ := hQ20
  have N20 := Fr.app N19 Nq20
  have e20 : T20.heap = T19.heap := Kq20
  refine own_stepV (U' := (T20.setTop (mkF m 29 #[.val (.int p1), .val (.int p2), .val (.int near), .val (.int (1 : Int32)), .unset] [(.int (own_dig near))]))) (fun t ht => st20 _ ht) ?_
  refine own_stepV (U' := (T20.setTop (mkF m 30 #[.val (.int p1), .val (.int p2), .val (.int near), .val (.int (1 : Int32)), .unset] [(.int near), (.int (own_dig near))]))) (fun t ht => XS.iloadN X20.here hx rfl (hb hby at_29) rfl ht) ?_
  obtain ⟨_, _, ⟨T21, L21, k21, n21⟩, -, X21, hSc21, hg21, ⟨Lc21, hQ21, l21, y21, z21⟩, st21⟩ := callSS X20 hx (y := (⟨"com/example/version_parser/versionparser/SemVerReaderIsDigitPinLaw", "expected", "(I)Z"⟩ : MethodName)) hown (mvT hZ (hw _ (List.mem_of_getElem? (i := 4) rfl))) (mvT hZ (hw _ (List.mem_of_getElem? (i := 5) rfl))) (mvT hZ (hw _ (List.mem_of_getElem? (i := 6) rfl))) (mvT hZ (hw _ (List.mem_of_getElem? (i := 7) rfl))) (by decide) (own_backV (PV := fun vm => own_K Z T19.heap vm) (W := 1) (own_m_exp l Z a0 hw [] (near) (cz) (fm) T19.heap n0 (Nat.le_trans Z0 K19.1) f19_0 f19_1 (by assumption) (by assumption) (by assumption) (by assumption) (fun b cl q => K19.2.1 b cl (hzh b cl q) (by simp))) hZ (hw _ (List.mem_of_getElem? (i := 7) rfl)) (hw _ (List.mem_of_getElem? (i := 6) rfl)) (by decide) (by decide)) (g := (mkF m 30 #[.val (.int p1), .val (.int p2), .val (.int near), .val (.int (1 : Int32)), .unset] [(.int near), (.int (own_dig near))])) rfl (by rw [hml]; rfl) (argsL := [(.int near)]) (rest := [(.int (own_dig near))]) (lenOf own_pd5 rfl) rfl (by show 2 * 0 + _ ≤ _; exact Nat.le_of_eq rfl) (hb hby at_30) (fun _ hW1 => ⟨rfl, e20, (by decide : 2 + 2 ≤ _), (by decide : 44 + 44 ≤ _), own_Kwarm hW1 kv19⟩)
  dsimp only [Pt.U, Pt.locs, Pt.cells, Pt.slots] at X21 l21 y21 z21 st21 hQ21 hSc21 hg21
  subst l21 y21 z21
  obtain ⟨rfl, Nq21, Kq21, kv21⟩ := hQ21
  obtain ⟨X21, hS21, hZ, hown⟩ := rebS hS19 (by rw [e20]; exact hk19) X21 hSc21 hg21 hZ hown
  have hk21 : T21.heap.size ≤ (T21.heap).size := Nat.le_refl _
  have N21 := Fr.app N20 Nq21
  have f21_0 : Sta Z T21.heap "java/lang/String" "COMPACT_STRINGS" "Z" (.int cz) := own_sta_keep f19_0 Kq21 own_pl0
  have f21_1 : Sta Z T21.heap "jdk/internal/util/Preconditions" "SIOOBE_FORMATTER" "Ljava/util/function/BiFunction;" fm := own_sta_keep f19_1 Kq21 own_pl0
  have K21 : Keep h0 T21.heap [] := K19.trans Kq21 all0
  refine own_stepV (U' := (T21.setTop (mkF m 33 #[.val (.int p1), .val (.int p2), .val (.int near), .val (.int (1 : Int32)), .unset] [(.int (own_dig near)), (.int (own_dig near))]))) (fun t ht => st21.trans ht) ?_
  refine own_stepV (U' := (T21.setTop (mkF m 36 #[.val (.int p1), .val (.int p2), .val (.int near), .val (.int (1 : Int32)), .unset] []))) (fun t ht => XS.icmpNo X21.here hx rfl (hb hby at_33) rfl (XT.ii_ne_f (rfl : (own_dig near) = (own_dig near))) ht) ?_
  refine own_stepV (U' := (T21.setTop (mkF m 37 #[.val (.int p1), .val (.int p2), .val (.int near), .val (.int (1 : Int32)), .unset] [(.int (1 : Int32))]))) (fun t ht => XS.iconst X21.here hx rfl (hb hby at_36) ht) ?_
  refine own_stepV (U' := (T21.setTop (mkF m 41 #[.val (.int p1), .val (.int p2), .val (.int near), .val (.int (1 : Int32)), .unset] [(.int (1 : Int32))]))) (fun t ht => XS.goto X21.here hx rfl (pc0 := 37) (pc' := 41) rfl (hb hby at_37) (by decide) (by decide) ht) ?_
  refine own_stepV (U' := (T21.setTop (mkF m 43 #[.val (.int p1), .val (.int p2), .val (.int near), .val (.int (1 : Int32)), .val (.int (1 : Int32))] []))) (fun t ht => XS.istore X21.here hx rfl (hb hby at_41) rfl (l' := #[.val (.int p1), .val (.int p2), .val (.int near), .val (.int (1 : Int32)), .val (.int (1 : Int32))]) rfl ht) ?_
  refine own_stepV (U' := (T21.setTop (mkF m 44 #[.val (.int p1), .val (.int p2), .val (.int near), .val (.int (1 : Int32)), .val (.int (1 : Int32))] [(.int (1 : Int32))]))) (fun t ht => XS.iloadN X21.here hx rfl (hb hby at_43) rfl ht) ?_
  refine own_stepV (U' := (T21.setTop (mkF m 47 #[.val (.int p1), .val (.int p2), .val (.int near), .val (.int (1 : Int32)), .val (.int (1 : Int32))] []))) (fun t ht => XS.ifNo X21.here hx rfl (hb hby at_44) rfl (XT.i0_eq_f ((by decide) : ¬ ((1 : Int32) = 0))) ht) ?_
  refine own_stepV (U' := (T21.setTop (mkF m 49 #[.val (.int p1), .val (.int p2), .val (.int near), .val (.int (1 : Int32)), .val (.int (1 : Int32))] [(.int (1 : Int32))]))) (fun t ht => XS.iload X21.here hx rfl (hb hby at_47) rfl ht) ?_
  refine own_stepV (U' := (T21.setTop (mkF m 52 #[.val (.int p1), .val (.int p2), .val (.int near), .val (.int (1 : Int32)), .val (.int (1 : Int32))] []))) (fun t ht => XS.ifNo X21.here hx rfl (hb hby at_49) rfl (XT.i0_eq_f ((by decide) : ¬ ((1 : Int32) = 0))) ht) ?_
  refine own_stepV (U' := (T21.setTop (mkF m 53 #[.val (.int p1), .val (.int p2), .val (.int near), .val (.int (1 : Int32)), .val (.int (1 : Int32))] [(.int (1 : Int32))]))) (fun t ht => XS.iconst X21.here hx rfl (hb hby at_52) ht) ?_
  refine own_stepV (U' := (T21.setTop (mkF m 57 #[.val (.int p1), .val (.int p2), .val (.int near), .val (.int (1 : Int32)), .val (.int (1 : Int32))] [(.int (1 : Int32))]))) (fun t ht => XS.goto X21.here hx rfl (pc0 := 53) (pc' := 57) rfl (hb hby at_53) (by decide) (by decide) ht) ?_
  refine own_retV X21 hS21 hk21 (v := (some (.int (nar .boolean (1 : Int32))))) (fun h => by rw [Bd.returns] at h; cases h) Bd.notSynchronized (by decide) (by decide) ?_ (fun fs hr => retN X21 hx (t := .boolean) Bd.returns (by simp) (hb hby at_57) hr)
  show own_Q_law Z p1 p2 cz fm h0 n0 _ T21.heap T21.vm _
  show own_Q_law Z p1 p2 cz fm h0 n0 _ T21.heap T21.vm _
  exact ⟨rfl, N21⟩
set_option maxRecDepth 65536 in
set_option maxHeartbeats 40000000 in
theorem own_comes {Post : Tables → Env → Array Value → State → Outcome → State → Prop} (hpost : ∀ tb e args s v u, (limb_1_1.after args s (.returned v) u = true ∧ limb_1_2.after args s (.returned v) u = true ∧ True) → ReturnedEndW s (.returned v) u (Jvm.fieldLocs frame_1_writes args s ++ Jvm.arrayLocs frame_1_arrays args s ++ Jvm.staticLocs frame_1_statics s) 8 1088 → Post tb e args s (.returned v) u) :
    ArmFor flags0 classFile x code maxLocals ret World_1 tables_1 room_1 Calls_1 rest_1 Pre_1 Post := by
  intro l hfl _ _ p e ha hc hk s m args below hf hA hF happ hP
  obtain ⟨hcalls, hrest, hpre⟩ := hP
  obtain ⟨-, -, -, hnamed, -, -, -, hat⟩ := (Spec.applies_iff hf).mp happ
  obtain ⟨hg, hn⟩ := and_e (Cond.before_iff.mp (show (Jvm.Cond.and given_1 narrow_1).before args s = true from hpre))
  obtain ⟨hcount, q0⟩ := and_e hg
  obtain ⟨a0, q1⟩ := and_e q0
  have a1 := q1
  obtain ⟨w0, w1, rfl⟩ : ∃ w0 w1 : Value, args = #[w0, w1] := by
    have hs : args.size = 2 := by simpa [Cond.value, given_1] using hcount
    obtain ⟨L⟩ := args
    match L, hs with
    | [w0, w1], _ => exact ⟨w0, w1, rfl⟩
  obtain ⟨i0, e0⟩ := is_v a0
  obtain rfl : w0 = (.int i0) := Option.some.inj e0
  obtain ⟨i1, e1⟩ := is_v a1
  obtain rfl : w1 = (.int i1) := Option.some.inj e1
  have hw := fun d (hd : d ∈ tables_1) => atoms_spec (ws := Jvm.Cond.code x code maxLocals ret :: tables_1) hat d (List.mem_cons_of_mem _ hd)
  have hfit : Fit s := fun {y c} hc i hi => by
    obtain ⟨ha, rfl⟩ := Array.getElem?_eq_some_iff.mp hc
    have q := List.all_eq_true.mp ((Array.all_eq_true_iff_forall_mem.mp hF) _ (Array.getElem_mem ha)) i (List.mem_range.mpr hi)
    simpa [Array.getElem?_eq_getElem hi] using q
  obtain ⟨hsets, hown0⟩ := atoms_of _ (rest_1_c_eq ▸ (show rest_1_c.before _ s = true from hrest))
  have n3 := not_v (Cond.before_iff.mp (hsets _ (List.mem_of_getElem? (i := 2) rfl)))
  obtain ⟨cz, ecz⟩ := is_v (Cond.before_iff.mp (hsets _ (List.mem_of_getElem? (i := 1) rfl)))
  have Scz : Sta s s.heap "java/lang/String" "COMPACT_STRINGS" "Z" (.int cz) := Sta.start ecz (Or.inl (hsets _ (List.mem_of_getElem? (i := 0) rfl)))
  have hcz : ¬ cz = 0 := fun q => by rw [eq_i ecz (Term.int_eval 0) (by rw [q])] at n3; cases n3
  obtain ⟨fm, efm, hfm⟩ := isR_v (Cond.before_iff.mp (hsets _ (List.mem_of_getElem? (i := 8) rfl)))
  have Sfm := Sta.start efm (Or.inl (hsets _ (List.mem_of_getElem? (i := 7) rfl)))
  obtain ⟨n, o, h1, h2, h3, _, L, rfl, ⟨rfl, N⟩, hq⟩ := own_m_law l s _ hw tables_1 i0 i1 cz fm s.heap s.heap.size (Nat.le_refl _) Scz Sfm hcz hfm (hcalls.1 _ (List.mem_singleton.mpr rfl)) (hsets _ (List.mem_of_getElem? (i := 2) rfl)) (fun _ _ q => q) p e ha hc hk s m _ below hf ((Spec.applies_iff_loose hf).mp happ).1 ⟨rfl, State.Warmed39.refl s, rfl, Or.inl IB.start⟩ trivial
  refine ⟨n, _, h1, h2, h3, hpost _ _ _ _ _ _ ⟨Cond.after_iff.mpr rfl, Cond.after_iff.mpr (eq_i res_at (Term.int_eval (1)) rfl), trivial⟩ ⟨hq.1, hq.2.1, hq.2.2.1, (hq.2.2.2.sift fun y hy => Or.inr (N y hy)).mono (by decide) (by decide)⟩⟩
theorem main_1_1 : Claimed_1_1 := own_comes fun _ _ _ _ _ _ h hF => ⟨h.1, hF⟩
theorem main_1_2 : Claimed_1_2 := own_comes fun _ _ _ _ _ _ h hF => ⟨h.2.1, hF⟩
end Jvm.Pilot.@@N@@
namespace Jvm.Pilot.@@N@@
open Jvm Jvm.ClassFile Sem Op Lib Jvm.Free Jvm.Stand Jvm.Pilot.@@N@@.Jvm.D
/-! MADE BY PROGRAM (witnessworld.py) out of the Statement's table words and the real class files: 17 classes; the members and pool entries that the words name. The judged class is class 1, her method 1. -/
namespace start1
open Jvm.ClassFile
def u (s : String) : CpInfo := .utf8 (stringToUtf16 s)
/-- a pool by its gaps: so many unusable entries, then the entry; so many at the end -/
def gap : Nat → List CpInfo → List CpInfo
  | 0, r => r
  | n + 1, r => .unusable :: gap n r
def poolList (es : List (Nat × CpInfo)) (last : Nat) : List CpInfo := es.foldr (fun e r => gap e.1 (e.2 :: r)) (gap last [])
def pool (es : List (Nat × CpInfo)) (last : Nat) : Array CpInfo := ⟨poolList es last⟩
def fileOf (pool : Array CpInfo) (this : Nat) (attrs : Array Attribute := #[]) (ms : Array MethodInfo := #[]) (fl : Nat := 33) (sup : Nat := 0) (ifs : Array Nat := #[]) (fds : Array FieldInfo := #[]) : ClassFile where
  minorVersion := 0
  majorVersion := 65
  constantPool := pool
  accessFlags := fl
  thisClass := this
  superClass := sup
  interfaces := ifs
  fields := fds
  methods := ms
  attributes := attrs
def plain (name : String) (sup : Option ClassId) : Class where
  name := name
  kind := .ordinary
  loader := none
  accessFlags := 33
  super := sup
  interfaces := #[]
  cf := none
  fields := #[]
  methods := #[]
  instanceTypes := #[]
  staticTypes := #[]
  resolved := #[]
  callSites := []
  init := .initialized
  statics := none
  mirror := none

def pool0 : Array CpInfo := pool [(5, u "<init>"), (0, u "()V"), (1, .class_ 10), (1, u "java/lang/Object")] 113

def k0m0 : Method := { name := "<init>", desc := "()V", sig := { parameters := [], returnType := none }, accessFlags := 1, code := none }
/-- java/lang/Object -/
def k0 : Class := { plain "java/lang/Object" none with
  accessFlags := 33
  interfaces := #[]
  cf := some (fileOf pool0 8 #[] #[{ accessFlags := 1, nameIndex := 5, descriptorIndex := 6, attributes := #[] }] 33 0 #[] #[])
  fields := #[]
  methods := #[k0m0]
  instanceTypes := #[]
  staticTypes := #[]
  resolved := Array.replicate 124 none
  statics := none }

def pool1 : Array CpInfo := pool [(2, .class_ 4), (1, u "java/lang/Object"), (0, u "<init>"), (0, u "()V"), (0, .methodref 8 9), (0, .class_ 10), (0, .nameAndType 11 12), (0, u "com/example/version_parser/versionparser/SemVerReader"), (0, u "isDigit"), (0, u "(I)Z"), (0, .methodref 14 15), (0, .class_ 16), (0, .nameAndType 17 12), (0, u "com/example/version_parser/versionparser/SemVerReaderIsDigitPinLaw"), (0, u "expected"), (0, .long 48), (1, .long 9), (1, .string 23), (0, u "0123456789"), (0, .methodref 25 26), (0, .class_ 27), (0, .nameAndType 28 29), (0, u "java/lang/String"), (0, u "charAt"), (0, u "(I)C"), (2, u "law"), (0, u "(II)Z")] 3

def k1m0 : Method := { name := "<init>", desc := "()V", sig := { parameters := [], returnType := none }, accessFlags := 1, code := none }
def k1c1 : Code := { maxStack := 3, maxLocals := 5, code := code, exceptionTable := #[], attributes := #[] }
def k1m1 : Method := { name := "law", desc := "(II)Z", sig := { parameters := [.int, .int], returnType := some .boolean }, accessFlags := 9, code := some k1c1 }
def k1c2 : Code := { maxStack := 4, maxLocals := 3, code := method_3_code, exceptionTable := #[], attributes := #[] }
def k1m2 : Method := { name := "expected", desc := "(I)Z", sig := { parameters := [.int], returnType := some .boolean }, accessFlags := 10, code := some k1c2 }
/-- com/example/version_parser/versionparser/SemVerReaderIsDigitPinLaw -/
def k1 : Class := { plain "com/example/version_parser/versionparser/SemVerReaderIsDigitPinLaw" (some 0) with
  accessFlags := 49
  interfaces := #[]
  cf := some (fileOf pool1 14 #[] #[{ accessFlags := 1, nameIndex := 5, descriptorIndex := 6, attributes := #[] }, { accessFlags := 9, nameIndex := 32, descriptorIndex := 33, attributes := #[] }, { accessFlags := 10, nameIndex := 17, descriptorIndex := 12, attributes := #[] }] 49 2 #[] #[])
  fields := #[]
  methods := #[k1m0, k1m1, k1m2]
  instanceTypes := #[]
  staticTypes := #[]
  resolved := Array.replicate 37 none
  statics := none }

def pool2 : Array CpInfo := pool [(8, .class_ 10), (1, u "com/example/version_parser/versionparser/SemVerReader"), (3, .class_ 16), (1, u "java/lang/Object"), (3, u "text"), (0, u "Ljava/lang/String;"), (2, u "position"), (0, u "I"), (2, u "end"), (2, u "refusedIndex"), (2, u "refusedReason"), (14, u "isDigit"), (0, u "(I)Z"), (40, u "ENDS_TOO_SOON"), (1, u "LEADING_ZERO"), (0, u "EMPTY_IDENTIFIER"), (0, u "DIGIT_EXPECTED"), (0, u "NOT_ALLOWED_HERE"), (0, u "NOT_ALLOWED")] 17

def k2c0 : Code := { maxStack := 2, maxLocals := 1, code := prog_17_method_21_code, exceptionTable := #[], attributes := #[] }
def k2m0 : Method := { name := "isDigit", desc := "(I)Z", sig := { parameters := [.int], returnType := some .boolean }, accessFlags := 8, code := some k2c0 }
/-- com/example/version_parser/versionparser/SemVerReader -/
def k2 : Class := { plain "com/example/version_parser/versionparser/SemVerReader" (some 0) with
  accessFlags := 1056
  interfaces := #[]
  cf := some (fileOf pool2 8 #[] #[{ accessFlags := 8, nameIndex := 49, descriptorIndex := 50, attributes := #[] }] 1056 14 #[] #[{ accessFlags := 26, nameIndex := 91, descriptorIndex := 21, attributes := #[] }, { accessFlags := 26, nameIndex := 93, descriptorIndex := 21, attributes := #[] }, { accessFlags := 26, nameIndex := 94, descriptorIndex := 21, attributes := #[] }, { accessFlags := 26, nameIndex := 95, descriptorIndex := 21, attributes := #[] }, { accessFlags := 24, nameIndex := 96, descriptorIndex := 21, attributes := #[] }, { accessFlags := 26, nameIndex := 97, descriptorIndex := 21, attributes := #[] }, { accessFlags := 18, nameIndex := 20, descriptorIndex := 21, attributes := #[] }, { accessFlags := 18, nameIndex := 28, descriptorIndex := 25, attributes := #[] }, { accessFlags := 2, nameIndex := 24, descriptorIndex := 25, attributes := #[] }, { accessFlags := 2, nameIndex := 31, descriptorIndex := 25, attributes := #[] }, { accessFlags := 2, nameIndex := 34, descriptorIndex := 21, attributes := #[] }])
  fields := #[{ name := "ENDS_TOO_SOON", type := (.object "java/lang/String"), accessFlags := 26, slot := 0, constantValue := 0 }, { name := "LEADING_ZERO", type := (.object "java/lang/String"), accessFlags := 26, slot := 1, constantValue := 0 }, { name := "EMPTY_IDENTIFIER", type := (.object "java/lang/String"), accessFlags := 26, slot := 2, constantValue := 0 }, { name := "DIGIT_EXPECTED", type := (.object "java/lang/String"), accessFlags := 26, slot := 3, constantValue := 0 }, { name := "NOT_ALLOWED_HERE", type := (.object "java/lang/String"), accessFlags := 24, slot := 4, constantValue := 0 }, { name := "NOT_ALLOWED", type := (.object "java/lang/String"), accessFlags := 26, slot := 5, constantValue := 0 }, { name := "text", type := (.object "java/lang/String"), accessFlags := 18, slot := 0, constantValue := 0 }, { name := "end", type := .int, accessFlags := 18, slot := 1, constantValue := 0 }, { name := "position", type := .int, accessFlags := 2, slot := 2, constantValue := 0 }, { name := "refusedIndex", type := .int, accessFlags := 2, slot := 3, constantValue := 0 }, { name := "refusedReason", type := (.object "java/lang/String"), accessFlags := 2, slot := 4, constantValue := 0 }]
  methods := #[k2m0]
  instanceTypes := #[(.object "java/lang/String"), .int, .int, .int, (.object "java/lang/String")]
  staticTypes := #[(.object "java/lang/String"), (.object "java/lang/String"), (.object "java/lang/String"), (.object "java/lang/String"), (.object "java/lang/String"), (.object "java/lang/String")]
  resolved := Array.replicate 115 none
  statics := none }

def pool3 : Array CpInfo := pool [(1, .class_ 2), (0, u "java/io/Serializable"), (0, .class_ 4), (0, u "java/lang/Object")] 2

/-- java/io/Serializable -/
def k3 : Class := { plain "java/io/Serializable" (some 0) with
  accessFlags := 1537
  interfaces := #[]
  cf := some (fileOf pool3 1 #[] #[] 1537 3 #[] #[])
  fields := #[]
  methods := #[]
  instanceTypes := #[]
  staticTypes := #[]
  resolved := Array.replicate 7 none
  statics := none }

def pool4 : Array CpInfo := pool [(1, .class_ 2), (0, u "java/lang/Comparable"), (0, .class_ 4), (0, u "java/lang/Object")] 7

/-- java/lang/Comparable -/
def k4 : Class := { plain "java/lang/Comparable" (some 0) with
  accessFlags := 1537
  interfaces := #[]
  cf := some (fileOf pool4 1 #[] #[] 1537 3 #[] #[])
  fields := #[]
  methods := #[]
  instanceTypes := #[]
  staticTypes := #[]
  resolved := Array.replicate 12 none
  statics := none }

def pool5 : Array CpInfo := pool [(2, .class_ 4), (1, u "java/lang/CharSequence"), (42, .class_ 48), (0, u "java/lang/CharSequence$1CodePointIterator"), (10, .class_ 60), (0, u "java/lang/CharSequence$1CharIterator"), (5, .class_ 67), (0, u "java/lang/Object")] 63

/-- java/lang/CharSequence -/
def k5 : Class := { plain "java/lang/CharSequence" (some 0) with
  accessFlags := 1537
  interfaces := #[]
  cf := some (fileOf pool5 2 #[.nestMembers #[47, 59]] #[] 1537 66 #[] #[])
  fields := #[]
  methods := #[]
  instanceTypes := #[]
  staticTypes := #[]
  resolved := Array.replicate 131 none
  statics := none }

def pool6 : Array CpInfo := pool [(1, .class_ 2), (0, u "java/lang/constant/Constable"), (0, .class_ 4), (0, u "java/lang/Object")] 6

/-- java/lang/constant/Constable -/
def k6 : Class := { plain "java/lang/constant/Constable" (some 0) with
  accessFlags := 1537
  interfaces := #[]
  cf := some (fileOf pool6 1 #[] #[] 1537 3 #[] #[])
  fields := #[]
  methods := #[]
  instanceTypes := #[]
  staticTypes := #[]
  resolved := Array.replicate 11 none
  statics := none }

def pool7 : Array CpInfo := pool [(1, .class_ 2), (0, u "java/lang/constant/ConstantDesc"), (0, .class_ 4), (0, u "java/lang/Object")] 32

/-- java/lang/constant/ConstantDesc -/
def k7 : Class := { plain "java/lang/constant/ConstantDesc" (some 0) with
  accessFlags := 1537
  interfaces := #[]
  cf := some (fileOf pool7 1 #[] #[] 1537 3 #[] #[])
  fields := #[]
  methods := #[]
  instanceTypes := #[]
  staticTypes := #[]
  resolved := Array.replicate 37 none
  statics := none }

def pool8 : Array CpInfo := pool [(2, .class_ 4), (1, u "java/lang/Object"), (0, u "<init>"), (0, u "()V"), (2, .fieldref 10 11), (0, .class_ 12), (0, .nameAndType 13 14), (0, u "java/lang/String"), (0, u "value"), (0, u "[B"), (0, .fieldref 10 16), (0, .nameAndType 17 18), (0, u "coder"), (0, u "B"), (2, u "hash"), (0, u "I"), (2, u "hashIsZero"), (0, u "Z"), (11, .fieldref 10 39), (0, .nameAndType 40 26), (0, u "COMPACT_STRINGS"), (66, .class_ 109), (1, u "java/lang/StringLatin1"), (32, u "()Z"), (220, u "([BI)C"), (27, u "(II)V"), (35, u "(I)C"), (64, .methodref 10 493), (0, .nameAndType 494 142), (0, u "isLatin1"), (0, .methodref 107 496), (0, .nameAndType 497 363), (0, u "charAt"), (3, u "checkIndex"), (73, .class_ 576), (0, u "java/lang/CharSequence"), (22, u "CASE_INSENSITIVE_ORDER"), (0, u "Ljava/util/Comparator;"), (452, .fieldref 1054 1055), (0, .class_ 1056), (0, .nameAndType 1057 1058), (0, u "jdk/internal/util/Preconditions"), (0, u "SIOOBE_FORMATTER"), (0, u "Ljava/util/function/BiFunction;"), (0, .methodref 1054 1060), (0, .nameAndType 501 1061), (0, u "(IILjava/util/function/BiFunction;)I"), (39, u "serialPersistentFields"), (0, u "[Ljava/io/ObjectStreamField;"), (0, .class_ 1104), (0, u "java/lang/String$CaseInsensitiveComparator"), (1, .class_ 1107), (0, u "java/io/Serializable"), (0, .class_ 1109), (0, u "java/lang/Comparable"), (0, .class_ 1111), (0, u "java/lang/constant/Constable"), (0, .class_ 1113), (0, u "java/lang/constant/ConstantDesc"), (2, u "serialVersionUID"), (0, u "J"), (3, u "REPL"), (0, u "C"), (2, u "LATIN1"), (1, u "UTF16")] 323

def k8m0 : Method := { name := "<init>", desc := "()V", sig := { parameters := [], returnType := none }, accessFlags := 1, code := none }
def k8c1 : Code := { maxStack := 2, maxLocals := 2, code := jdk_42_method_56_code, exceptionTable := #[], attributes := #[] }
def k8m1 : Method := { name := "charAt", desc := "(I)C", sig := { parameters := [.int], returnType := some .char }, accessFlags := 1, code := some k8c1 }
def k8c2 : Code := { maxStack := 1, maxLocals := 1, code := jdk_42_method_154_code, exceptionTable := #[], attributes := #[] }
def k8m2 : Method := { name := "isLatin1", desc := "()Z", sig := { parameters := [], returnType := some .boolean }, accessFlags := 0, code := some k8c2 }
def k8c3 : Code := { maxStack := 3, maxLocals := 2, code := jdk_42_method_155_code, exceptionTable := #[], attributes := #[] }
def k8m3 : Method := { name := "checkIndex", desc := "(II)V", sig := { parameters := [.int, .int], returnType := none }, accessFlags := 8, code := some k8c3 }
/-- java/lang/String -/
def k8 : Class := { plain "java/lang/String" (some 0) with
  accessFlags := 49
  interfaces := #[3, 4, 5, 6, 7]
  cf := some (fileOf pool8 10 #[.nestMembers #[1103]] #[{ accessFlags := 1, nameIndex := 5, descriptorIndex := 6, attributes := #[] }, { accessFlags := 1, nameIndex := 497, descriptorIndex := 427, attributes := #[] }, { accessFlags := 0, nameIndex := 494, descriptorIndex := 142, attributes := #[] }, { accessFlags := 8, nameIndex := 501, descriptorIndex := 391, attributes := #[] }] 49 2 #[1106, 1108, 575, 1110, 1112] #[{ accessFlags := 18, nameIndex := 13, descriptorIndex := 14, attributes := #[] }, { accessFlags := 18, nameIndex := 17, descriptorIndex := 18, attributes := #[] }, { accessFlags := 2, nameIndex := 21, descriptorIndex := 22, attributes := #[] }, { accessFlags := 2, nameIndex := 25, descriptorIndex := 26, attributes := #[] }, { accessFlags := 26, nameIndex := 1116, descriptorIndex := 1117, attributes := #[] }, { accessFlags := 24, nameIndex := 40, descriptorIndex := 26, attributes := #[] }, { accessFlags := 26, nameIndex := 1101, descriptorIndex := 1102, attributes := #[] }, { accessFlags := 26, nameIndex := 1121, descriptorIndex := 1122, attributes := #[] }, { accessFlags := 25, nameIndex := 599, descriptorIndex := 600, attributes := #[] }, { accessFlags := 24, nameIndex := 1125, descriptorIndex := 18, attributes := #[] }, { accessFlags := 24, nameIndex := 1127, descriptorIndex := 18, attributes := #[] }])
  fields := #[{ name := "value", type := (.array .byte), accessFlags := 18, slot := 0, constantValue := 0 }, { name := "coder", type := .byte, accessFlags := 18, slot := 1, constantValue := 0 }, { name := "hash", type := .int, accessFlags := 2, slot := 2, constantValue := 0 }, { name := "hashIsZero", type := .boolean, accessFlags := 2, slot := 3, constantValue := 0 }, { name := "serialVersionUID", type := .long, accessFlags := 26, slot := 0, constantValue := 0 }, { name := "COMPACT_STRINGS", type := .boolean, accessFlags := 24, slot := 1, constantValue := 0 }, { name := "serialPersistentFields", type := (.array (.object "java/io/ObjectStreamField")), accessFlags := 26, slot := 2, constantValue := 0 }, { name := "REPL", type := .char, accessFlags := 26, slot := 3, constantValue := 0 }, { name := "CASE_INSENSITIVE_ORDER", type := (.object "java/util/Comparator"), accessFlags := 25, slot := 4, constantValue := 0 }, { name := "LATIN1", type := .byte, accessFlags := 24, slot := 5, constantValue := 0 }, { name := "UTF16", type := .byte, accessFlags := 24, slot := 6, constantValue := 0 }]
  methods := #[k8m0, k8m1, k8m2, k8m3]
  instanceTypes := #[(.array .byte), .byte, .int, .boolean]
  staticTypes := #[.long, .boolean, (.array (.object "java/io/ObjectStreamField")), .char, (.object "java/util/Comparator"), .byte, .byte]
  resolved := Array.replicate 1451 none
  statics := some 0 }

def pool9 : Array CpInfo := pool [(1, .class_ 2), (0, u "java/lang/String"), (1, .class_ 6), (1, u "java/lang/Object"), (0, u "<init>"), (0, u "()V"), (0, .methodref 1 10), (0, .nameAndType 11 12), (0, u "checkIndex"), (0, u "(II)V"), (1, .class_ 16), (1, u "java/lang/StringLatin1"), (36, u "([BI)C"), (67, u "$assertionsDisabled"), (0, u "Z"), (98, .class_ 223), (1, u "java/lang/StringLatin1$LinesSpliterator"), (28, u "charAt"), (137, .class_ 391), (0, u "java/lang/StringLatin1$CharsSpliterator")] 3

def k9m0 : Method := { name := "<init>", desc := "()V", sig := { parameters := [], returnType := none }, accessFlags := 0, code := none }
def k9c1 : Code := { maxStack := 2, maxLocals := 2, code := jdk_43_method_2_code, exceptionTable := #[], attributes := #[] }
def k9m1 : Method := { name := "charAt", desc := "([BI)C", sig := { parameters := [(.array .byte), .int], returnType := some .char }, accessFlags := 9, code := some k9c1 }
/-- java/lang/StringLatin1 -/
def k9 : Class := { plain "java/lang/StringLatin1" (some 0) with
  accessFlags := 48
  interfaces := #[]
  cf := some (fileOf pool9 14 #[.nestMembers #[390, 221]] #[{ accessFlags := 0, nameIndex := 7, descriptorIndex := 8, attributes := #[] }, { accessFlags := 9, nameIndex := 252, descriptorIndex := 53, attributes := #[] }] 48 4 #[] #[{ accessFlags := 4120, nameIndex := 121, descriptorIndex := 122, attributes := #[] }])
  fields := #[{ name := "$assertionsDisabled", type := .boolean, accessFlags := 4120, slot := 0, constantValue := 0 }]
  methods := #[k9m0, k9m1]
  instanceTypes := #[]
  staticTypes := #[.boolean]
  resolved := Array.replicate 395 none
  statics := none }

def pool10 : Array CpInfo := pool [(2, .class_ 4), (1, u "java/lang/Object"), (0, u "<init>"), (0, u "()V"), (17, .class_ 26), (1, u "jdk/internal/util/Preconditions"), (6, u "checkIndex"), (21, .class_ 56), (0, u "jdk/internal/util/Preconditions$4"), (57, .class_ 115), (0, u "jdk/internal/util/Preconditions$1"), (7, u "SIOOBE_FORMATTER"), (0, u "Ljava/util/function/BiFunction;"), (0, .class_ 126), (0, u "jdk/internal/util/Preconditions$2"), (3, u "AIOOBE_FORMATTER"), (0, .class_ 132), (0, u "jdk/internal/util/Preconditions$3"), (3, u "IOOBE_FORMATTER"), (41, u "(IILjava/util/function/BiFunction;)I")] 15

def k10m0 : Method := { name := "<init>", desc := "()V", sig := { parameters := [], returnType := none }, accessFlags := 1, code := none }
def k10c1 : Code := { maxStack := 3, maxLocals := 3, code := jdk_41_method_11_code, exceptionTable := #[], attributes := #[] }
def k10m1 : Method := { name := "checkIndex", desc := "(IILjava/util/function/BiFunction;)I", sig := { parameters := [.int, .int, (.object "java/util/function/BiFunction")], returnType := some .int }, accessFlags := 9, code := some k10c1 }
/-- jdk/internal/util/Preconditions -/
def k10 : Class := { plain "jdk/internal/util/Preconditions" (some 0) with
  accessFlags := 33
  interfaces := #[]
  cf := some (fileOf pool10 24 #[.nestMembers #[55, 131, 125, 114]] #[{ accessFlags := 1, nameIndex := 5, descriptorIndex := 6, attributes := #[] }, { accessFlags := 9, nameIndex := 33, descriptorIndex := 178, attributes := #[] }] 33 2 #[] #[{ accessFlags := 25, nameIndex := 123, descriptorIndex := 124, attributes := #[] }, { accessFlags := 25, nameIndex := 130, descriptorIndex := 124, attributes := #[] }, { accessFlags := 25, nameIndex := 136, descriptorIndex := 124, attributes := #[] }])
  fields := #[{ name := "SIOOBE_FORMATTER", type := (.object "java/util/function/BiFunction"), accessFlags := 25, slot := 0, constantValue := 0 }, { name := "AIOOBE_FORMATTER", type := (.object "java/util/function/BiFunction"), accessFlags := 25, slot := 1, constantValue := 0 }, { name := "IOOBE_FORMATTER", type := (.object "java/util/function/BiFunction"), accessFlags := 25, slot := 2, constantValue := 0 }]
  methods := #[k10m0, k10m1]
  instanceTypes := #[]
  staticTypes := #[(.object "java/util/function/BiFunction"), (.object "java/util/function/BiFunction"), (.object "java/util/function/BiFunction")]
  resolved := Array.replicate 194 none
  statics := some 1 }

def pool11 : Array CpInfo := pool [(9, u "<init>"), (6, .class_ 18), (1, u "java/lang/Object"), (0, u "()V"), (1, .class_ 23), (1, u "jdk/internal/util/ArraysSupport"), (0, u "LOG2_ARRAY_LONG_INDEX_SCALE"), (0, u "I"), (2, u "U"), (0, u "Ljdk/internal/misc/Unsafe;"), (8, u "BIG_ENDIAN"), (0, u "Z"), (8, u "LOG2_BYTE_BIT_SIZE"), (4, u "LOG2_ARRAY_INT_INDEX_SCALE"), (54, u "JLA"), (0, u "Ljdk/internal/access/JavaLangAccess;"), (11, u "LOG2_ARRAY_BOOLEAN_INDEX_SCALE"), (9, u "LOG2_ARRAY_BYTE_INDEX_SCALE"), (5, u "LOG2_ARRAY_CHAR_INDEX_SCALE"), (5, u "LOG2_ARRAY_SHORT_INDEX_SCALE"), (18, u "LOG2_ARRAY_FLOAT_INDEX_SCALE"), (24, u "LOG2_ARRAY_DOUBLE_INDEX_SCALE"), (89, u "T_BOOLEAN"), (2, u "T_CHAR"), (1, u "T_FLOAT"), (1, u "T_DOUBLE"), (1, u "T_BYTE"), (1, u "T_SHORT"), (1, u "T_INT"), (1, u "T_LONG"), (1, u "SOFT_MAX_ARRAY_LENGTH")] 83

def k11m0 : Method := { name := "<init>", desc := "()V", sig := { parameters := [], returnType := none }, accessFlags := 2, code := none }
/-- jdk/internal/util/ArraysSupport -/
def k11 : Class := { plain "jdk/internal/util/ArraysSupport" (some 0) with
  accessFlags := 33
  interfaces := #[]
  cf := some (fileOf pool11 21 #[] #[{ accessFlags := 2, nameIndex := 9, descriptorIndex := 19, attributes := #[] }] 33 16 #[] #[{ accessFlags := 24, nameIndex := 28, descriptorIndex := 29, attributes := #[] }, { accessFlags := 26, nameIndex := 38, descriptorIndex := 39, attributes := #[] }, { accessFlags := 25, nameIndex := 121, descriptorIndex := 25, attributes := #[] }, { accessFlags := 25, nameIndex := 131, descriptorIndex := 25, attributes := #[] }, { accessFlags := 25, nameIndex := 137, descriptorIndex := 25, attributes := #[] }, { accessFlags := 25, nameIndex := 143, descriptorIndex := 25, attributes := #[] }, { accessFlags := 25, nameIndex := 53, descriptorIndex := 25, attributes := #[] }, { accessFlags := 25, nameIndex := 24, descriptorIndex := 25, attributes := #[] }, { accessFlags := 25, nameIndex := 162, descriptorIndex := 25, attributes := #[] }, { accessFlags := 25, nameIndex := 187, descriptorIndex := 25, attributes := #[] }, { accessFlags := 26, nameIndex := 48, descriptorIndex := 25, attributes := #[] }, { accessFlags := 25, nameIndex := 277, descriptorIndex := 25, attributes := #[] }, { accessFlags := 25, nameIndex := 280, descriptorIndex := 25, attributes := #[] }, { accessFlags := 25, nameIndex := 282, descriptorIndex := 25, attributes := #[] }, { accessFlags := 25, nameIndex := 284, descriptorIndex := 25, attributes := #[] }, { accessFlags := 25, nameIndex := 286, descriptorIndex := 25, attributes := #[] }, { accessFlags := 25, nameIndex := 288, descriptorIndex := 25, attributes := #[] }, { accessFlags := 25, nameIndex := 290, descriptorIndex := 25, attributes := #[] }, { accessFlags := 25, nameIndex := 292, descriptorIndex := 25, attributes := #[] }, { accessFlags := 26, nameIndex := 108, descriptorIndex := 109, attributes := #[] }, { accessFlags := 25, nameIndex := 294, descriptorIndex := 25, attributes := #[] }])
  fields := #[{ name := "U", type := (.object "jdk/internal/misc/Unsafe"), accessFlags := 24, slot := 0, constantValue := 0 }, { name := "BIG_ENDIAN", type := .boolean, accessFlags := 26, slot := 1, constantValue := 0 }, { name := "LOG2_ARRAY_BOOLEAN_INDEX_SCALE", type := .int, accessFlags := 25, slot := 2, constantValue := 0 }, { name := "LOG2_ARRAY_BYTE_INDEX_SCALE", type := .int, accessFlags := 25, slot := 3, constantValue := 0 }, { name := "LOG2_ARRAY_CHAR_INDEX_SCALE", type := .int, accessFlags := 25, slot := 4, constantValue := 0 }, { name := "LOG2_ARRAY_SHORT_INDEX_SCALE", type := .int, accessFlags := 25, slot := 5, constantValue := 0 }, { name := "LOG2_ARRAY_INT_INDEX_SCALE", type := .int, accessFlags := 25, slot := 6, constantValue := 0 }, { name := "LOG2_ARRAY_LONG_INDEX_SCALE", type := .int, accessFlags := 25, slot := 7, constantValue := 0 }, { name := "LOG2_ARRAY_FLOAT_INDEX_SCALE", type := .int, accessFlags := 25, slot := 8, constantValue := 0 }, { name := "LOG2_ARRAY_DOUBLE_INDEX_SCALE", type := .int, accessFlags := 25, slot := 9, constantValue := 0 }, { name := "LOG2_BYTE_BIT_SIZE", type := .int, accessFlags := 26, slot := 10, constantValue := 0 }, { name := "T_BOOLEAN", type := .int, accessFlags := 25, slot := 11, constantValue := 0 }, { name := "T_CHAR", type := .int, accessFlags := 25, slot := 12, constantValue := 0 }, { name := "T_FLOAT", type := .int, accessFlags := 25, slot := 13, constantValue := 0 }, { name := "T_DOUBLE", type := .int, accessFlags := 25, slot := 14, constantValue := 0 }, { name := "T_BYTE", type := .int, accessFlags := 25, slot := 15, constantValue := 0 }, { name := "T_SHORT", type := .int, accessFlags := 25, slot := 16, constantValue := 0 }, { name := "T_INT", type := .int, accessFlags := 25, slot := 17, constantValue := 0 }, { name := "T_LONG", type := .int, accessFlags := 25, slot := 18, constantValue := 0 }, { name := "JLA", type := (.object "jdk/internal/access/JavaLangAccess"), accessFlags := 26, slot := 19, constantValue := 0 }, { name := "SOFT_MAX_ARRAY_LENGTH", type := .int, accessFlags := 25, slot := 20, constantValue := 0 }]
  methods := #[k11m0]
  instanceTypes := #[]
  staticTypes := #[(.object "jdk/internal/misc/Unsafe"), .boolean, .int, .int, .int, .int, .int, .int, .int, .int, .int, .int, .int, .int, .int, .int, .int, .int, .int, (.object "jdk/internal/access/JavaLangAccess"), .int]
  resolved := Array.replicate 378 none
  statics := none }

def pool12 : Array CpInfo := pool [(1, u "java/lang/Cloneable"), (0, .class_ 1), (0, u "java/lang/Object"), (0, .class_ 3)] 3

/-- java/lang/Cloneable -/
def k12 : Class := { plain "java/lang/Cloneable" (some 0) with
  accessFlags := 1537
  interfaces := #[]
  cf := some (fileOf pool12 2 #[] #[] 1537 4 #[] #[])
  fields := #[]
  methods := #[]
  instanceTypes := #[]
  staticTypes := #[]
  resolved := Array.replicate 8 none
  statics := none }

/-- the primitive byte -/
def k13 : Class := { plain "byte" none with kind := .primitive 'B', accessFlags := 0x411 }
/-- [B -/
def k14 : Class := { plain "[B" (some 0) with kind := .array 13 .byte, interfaces := #[12, 3], accessFlags := 1041 }

/-- the primitive int -/
def k15 : Class := { plain "int" none with kind := .primitive 'I', accessFlags := 0x411 }
/-- [I -/
def k16 : Class := { plain "[I" (some 0) with kind := .array 15 .int, interfaces := #[12, 3], accessFlags := 1041 }

def heap : Heap := #[{ cls := 8, slots := #[.long 0, .int 1, .null, .int 0, .null, .int 0, .int 0], vm := .statics 8 },
  { cls := 10, slots := #[.null, .null, .null], vm := .statics 10 }]
def classes : Array Class := #[k0, k1, k2, k3, k4, k5, k6, k7, k8, k9, k10, k11, k12, k13, k14, k15, k16]
def interned : List (Array UInt16 × Addr) := []
def slotsUsed : Nat := 10
def theMethod : MethodId := ⟨1, 1⟩
def args0 : Array Value := #[.int 5, .int 7]
def aboutOver (below : List Frame) : State where
  vm := { classes := classes, interned := interned.toArray }
  heap := heap
  slotsUsed := slotsUsed
  threads := #[{ frames := .invoking theMethod args0 :: below }]
def below0 : List Frame := [.native { method := ⟨0, 0⟩, args := #[] }]
def about1 : State := aboutOver below0
def p0 : Program := .bare "" "" ""
def e0 : Env := launch0.env 0 0 0
theorem w_frames : about1.frames = Frame.invoking theMethod args0 :: below0 := rfl
set_option maxRecDepth 65536 in
theorem w_args : argsFit about1.vm theMethod args0 = true := by decide +kernel
set_option maxRecDepth 65536 in
theorem w_heap : heapFits about1 = true := by decide +kernel
set_option maxRecDepth 65536 in
theorem w_runnable : about1.curStatus? = some .runnable := by decide +kernel
set_option maxRecDepth 65536 in
theorem w_alone : about1.alone = true := by decide +kernel
set_option maxRecDepth 65536 in
theorem w_named : about1.methodNamed? x = some theMethod := by decide +kernel
set_option maxRecDepth 65536 in
theorem w_hears : about1.hears theMethod below0 = true := by decide +kernel
set_option maxRecDepth 65536 in
theorem w_ripe : about1.ripe theMethod args0 below0 = true := by decide +kernel
theorem w_running : about1.status = .running := rfl
set_option maxRecDepth 65536 in
theorem w_room : about1.hasRoom e0.platform room_1 = true :=
  launch0.hasRoom_least _ room_1 (by decide +kernel) (by decide +kernel) (by decide +kernel) (by decide +kernel) (by decide +kernel) (by decide +kernel)
theorem allAtoms_all (ts : List Jvm.Cond) (a : Array Jvm.Value) (st : Jvm.State) : (allAtoms ts).before a st = ts.all (fun c => c.before a st) := by
  induction ts with
  | nil => rfl
  | cons c t ih =>
    show (Jvm.Cond.and c (allAtoms t)).before a st = _
    rw [Jvm.Cond.before_and, ih, List.all_cons]
def words1 : List Jvm.Cond := Jvm.Cond.code x code maxLocals ret :: tables_1
/-- a 'code' word, met by the world's own term for the bytes: nothing is compared byte by byte -/
theorem code_word {y : MethodName} {bytes : ByteArray} {mx : Nat} {rt : Option FieldType} {a : Array Value} {s : State} {m : MethodId} {meth : Method} {c : Code} (h1 : s.methodNamed? y = some m) (h2 : s.vm.method? m = some meth) (h3 : meth.code = some c) (h4 : c.code = bytes)
    (h5 : (c.maxLocals == mx && c.exceptionTable.isEmpty && decide (c.maxStack ≤ mostOperands) && decide (meth.sig.returnType = rt) && !meth.locks && decide (parseMethodDescriptor y.desc = some meth.sig)) = true) : (Jvm.Cond.code y bytes mx rt).before a s = true := by
  simp only [Bool.and_eq_true, beq_iff_eq, Bool.not_eq_true', decide_eq_true_eq] at h5
  obtain ⟨⟨⟨⟨⟨g1, g2⟩, g3⟩, g4⟩, g5⟩, g6⟩ := h5
  simp [Cond.before, Cond.holds, Cond.value, h1, h2, h3, h4, g1, g2, g3, g4, g5, g6]
def isCode : Jvm.Cond → Bool
  | .code _ _ _ _ => true
  | _ => false
theorem all_split {L : List Jvm.Cond} {P : Jvm.Cond → Bool} (h1 : L.all (fun c => isCode c || P c) = true) (h2 : ∀ c ∈ L.filter isCode, P c = true) : L.all P = true := by
  refine List.all_eq_true.mpr fun c hc => ?_
  have h := List.all_eq_true.mp h1 c hc
  rcases Bool.eq_false_or_eq_true (isCode c) with hi | hi
  · exact h2 c (List.mem_filter.mpr ⟨hc, hi⟩)
  · simpa [hi] using h
set_option maxRecDepth 65536 in
theorem w_c0 : (Jvm.Cond.code x code maxLocals ret).before args0 about1 = true := code_word (m := ⟨1, 1⟩) (meth := k1m1) (c := k1c1) (by decide +kernel) rfl rfl rfl (by decide +kernel)
set_option maxRecDepth 65536 in
theorem w_c1 : (Jvm.Cond.code ({ cls := "com/example/version_parser/versionparser/SemVerReader", name := "isDigit", desc := "(I)Z" } : Jvm.MethodName) prog_17_method_21_code (1 : Nat) (Option.some Jvm.ClassFile.FieldType.boolean)).before args0 about1 = true := code_word (m := ⟨2, 0⟩) (meth := k2m0) (c := k2c0) (by decide +kernel) rfl rfl rfl (by decide +kernel)
set_option maxRecDepth 65536 in
theorem w_c2 : (Jvm.Cond.code ({ cls := "com/example/version_parser/versionparser/SemVerReaderIsDigitPinLaw", name := "expected", desc := "(I)Z" } : Jvm.MethodName) method_3_code (3 : Nat) (Option.some Jvm.ClassFile.FieldType.boolean)).before args0 about1 = true := code_word (m := ⟨1, 2⟩) (meth := k1m2) (c := k1c2) (by decide +kernel) rfl rfl rfl (by decide +kernel)
set_option maxRecDepth 65536 in
theorem w_c3 : (Jvm.Cond.code ({ cls := "java/lang/String", name := "charAt", desc := "(I)C" } : Jvm.MethodName) jdk_42_method_56_code (2 : Nat) (Option.some Jvm.ClassFile.FieldType.char)).before args0 about1 = true := code_word (m := ⟨8, 1⟩) (meth := k8m1) (c := k8c1) (by decide +kernel) rfl rfl rfl (by decide +kernel)
set_option maxRecDepth 65536 in
theorem w_c4 : (Jvm.Cond.code ({ cls := "java/lang/String", name := "isLatin1", desc := "()Z" } : Jvm.MethodName) jdk_42_method_154_code (1 : Nat) (Option.some Jvm.ClassFile.FieldType.boolean)).before args0 about1 = true := code_word (m := ⟨8, 2⟩) (meth := k8m2) (c := k8c2) (by decide +kernel) rfl rfl rfl (by decide +kernel)
set_option maxRecDepth 65536 in
theorem w_c5 : (Jvm.Cond.code ({ cls := "java/lang/StringLatin1", name := "charAt", desc := "([BI)C" } : Jvm.MethodName) jdk_43_method_2_code (2 : Nat) (Option.some Jvm.ClassFile.FieldType.char)).before args0 about1 = true := code_word (m := ⟨9, 1⟩) (meth := k9m1) (c := k9c1) (by decide +kernel) rfl rfl rfl (by decide +kernel)
set_option maxRecDepth 65536 in
theorem w_c6 : (Jvm.Cond.code ({ cls := "java/lang/String", name := "checkIndex", desc := "(II)V" } : Jvm.MethodName) jdk_42_method_155_code (2 : Nat) (Option.none : Option Jvm.ClassFile.FieldType)).before args0 about1 = true := code_word (m := ⟨8, 3⟩) (meth := k8m3) (c := k8c3) (by decide +kernel) rfl rfl rfl (by decide +kernel)
set_option maxRecDepth 65536 in
theorem w_c7 : (Jvm.Cond.code ({ cls := "jdk/internal/util/Preconditions", name := "checkIndex", desc := "(IILjava/util/function/BiFunction;)I" } : Jvm.MethodName) jdk_41_method_11_code (3 : Nat) (Option.some Jvm.ClassFile.FieldType.int)).before args0 about1 = true := code_word (m := ⟨10, 1⟩) (meth := k10m1) (c := k10c1) (by decide +kernel) rfl rfl rfl (by decide +kernel)
def codes1 : List Jvm.Cond := [Jvm.Cond.code x code maxLocals ret, Jvm.Cond.code ({ cls := "com/example/version_parser/versionparser/SemVerReader", name := "isDigit", desc := "(I)Z" } : Jvm.MethodName) prog_17_method_21_code (1 : Nat) (Option.some Jvm.ClassFile.FieldType.boolean), Jvm.Cond.code ({ cls := "com/example/version_parser/versionparser/SemVerReaderIsDigitPinLaw", name := "expected", desc := "(I)Z" } : Jvm.MethodName) method_3_code (3 : Nat) (Option.some Jvm.ClassFile.FieldType.boolean), Jvm.Cond.code ({ cls := "java/lang/String", name := "charAt", desc := "(I)C" } : Jvm.MethodName) jdk_42_method_56_code (2 : Nat) (Option.some Jvm.ClassFile.FieldType.char), Jvm.Cond.code ({ cls := "java/lang/String", name := "isLatin1", desc := "()Z" } : Jvm.MethodName) jdk_42_method_154_code (1 : Nat) (Option.some Jvm.ClassFile.FieldType.boolean), Jvm.Cond.code ({ cls := "java/lang/StringLatin1", name := "charAt", desc := "([BI)C" } : Jvm.MethodName) jdk_43_method_2_code (2 : Nat) (Option.some Jvm.ClassFile.FieldType.char), Jvm.Cond.code ({ cls := "java/lang/String", name := "checkIndex", desc := "(II)V" } : Jvm.MethodName) jdk_42_method_155_code (2 : Nat) (Option.none : Option Jvm.ClassFile.FieldType), Jvm.Cond.code ({ cls := "jdk/internal/util/Preconditions", name := "checkIndex", desc := "(IILjava/util/function/BiFunction;)I" } : Jvm.MethodName) jdk_41_method_11_code (3 : Nat) (Option.some Jvm.ClassFile.FieldType.int)]
set_option maxRecDepth 65536 in
theorem codes_eq : words1.filter isCode = codes1 := rfl
theorem w_codes : ∀ c ∈ words1.filter isCode, c.before args0 about1 = true := by
  rw [codes_eq]
  intro c hc
  simp only [codes1, List.mem_cons, List.not_mem_nil, or_false] at hc
  rcases hc with rfl | rfl | rfl | rfl | rfl | rfl | rfl | rfl
  · exact w_c0
  · exact w_c1
  · exact w_c2
  · exact w_c3
  · exact w_c4
  · exact w_c5
  · exact w_c6
  · exact w_c7
set_option maxRecDepth 65536 in
theorem w_t1 : (words1.take 24).all (fun c => isCode c || c.before args0 about1) = true := by decide +kernel
set_option maxRecDepth 65536 in
theorem w_t2 : (words1.drop 24).all (fun c => isCode c || c.before args0 about1) = true := by decide +kernel
theorem w_tables : (allAtoms (Jvm.Cond.code x code maxLocals ret :: tables_1)).before args0 about1 = true := by
  rw [allAtoms_all]
  show words1.all (fun c => c.before args0 about1) = true
  refine all_split ?_ w_codes
  rw [← List.take_append_drop 24 words1, List.all_append, w_t1, w_t2]
  rfl
set_option maxRecDepth 65536 in
theorem w_rest : rest_1_c.before args0 about1 = true := by decide +kernel
set_option maxRecDepth 65536 in
theorem w_case : (Jvm.Cond.and given_1 narrow_1).before args0 about1 = true := by decide +kernel
set_option maxRecDepth 65536 in
theorem w_consts : constsHeld consts_1 about1 := Jvm.Lit.constsHeldB_iff.mp (by decide +kernel)
theorem w_applies : (headSpec (Jvm.Cond.code x code maxLocals ret :: tables_1) room_1).applies x e0.platform about1 = true :=
  (Spec.applies_iff w_frames).mpr ⟨w_running, w_runnable, w_alone, w_named, w_hears, w_ripe, w_room, w_tables⟩
theorem atStart : AtStart classFile x code maxLocals ret World_1 tables_1 room_1 Calls_1 rest_1 Pre_1 launch0 p0 e0 about1 theMethod args0 below0 :=
  ⟨lists_1, trivial, launch0.admits_env _ _ _, launch0.least_env, fairChoices_fair.cas, fairChoices_fair.clock, w_frames, w_args, w_heap, w_applies, ⟨w_consts, trivial⟩, w_rest, w_case⟩
end start1
theorem witness_1 : WitnessClaimed_1 := ⟨start1.p0, start1.e0, start1.about1, start1.theMethod, start1.args0, start1.below0, start1.atStart⟩
end Jvm.Pilot.@@N@@
