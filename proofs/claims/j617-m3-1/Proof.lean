import JvmDerived
import JvmDerived.Pilot.@@N@@Statement
import JvmDerived.Pilot.@@N@@Code
set_option linter.unusedVariables false
set_option linter.unusedSimpArgs false
@@BLOCK:NumsL.lean.txt@@
namespace Jvm.RoadKit
open Sem ClassFile Op Lib Jvm.Stand Jvm.Free Jvm.LawKit
section New
variable {p : Program} {l : Launch} {e : Env} {R : Room} {s : State} {m : MethodId} {args : Array Value} {below : List Frame} {meth : Method} {c : Code} {T : State} {locs : List Loc} {cells slots : Nat}
theorem retI (X : Stand p l e R s m args below meth c T locs cells slots) (hx : p.tables.exec = Jvm.exec) {pc : Nat} {Ls : Array Slot} {z : Int32} {rest : List Value} (hret : meth.sig.returnType = some .int) (hd : decode c.code pc = .ok (.ireturn, 1)) {fs : List Frame}
    (hl : ∀ (f : JFrame) (acts : List Action), f.method = m → f.locked = none → f.entered = [] → (doReturn e (T.setTop f) acts (some (.int z))).1 = T.setFrames fs) : Steps p.tables e below (T.setTop (mkF m pc Ls (.int z :: rest))) (T.setFrames fs) := by
  have hm' : T.vm.method? m = some meth := X.method'
  have hn : narrow .int (.int z) = .int z := rfl
  show Steps p.tables e below (T.setTop { method := m, pc := pc, locals := Ls, stack := _ :: rest, locked := none }) _
  jvm_step X.here [X.here.top, hx, hd, hm', hret, hn]
  first | (intro acts; rw [hl _ acts rfl rfl rfl]) | rw [hl _ _ rfl rfl rfl]
  exact Steps.refl _
end New
end Jvm.RoadKit
namespace Jvm.Pilot.@@N@@
open Jvm Jvm.ClassFile Sem Op Lib Jvm.Free Jvm.Stand Jvm.LawKit Jvm.RoadKit Bundle Jvm.Pilot.@@N@@.Jvm.D
section Own
variable {p : Program} {l : Launch} {e : Env} {R : Room} {s : State} {m : MethodId} {args : Array Value} {below : List Frame} {meth : Method} {c : Code} {T : State} {locs : List Loc} {cells slots : Nat}
/-- from U the run comes to an end that Q allows -/
def own_Go (p : Program) (e : Env) (below : List Frame) (s : State) (kc ks : Nat) (Q : Option Value → Heap → List Loc → Prop) (U : State) : Prop :=
  ∃ s₂ o, Steps p.tables e below U s₂ ∧ s₂.status = .running ∧ Ended s₂ below o ∧ ∃ v L, o = .returned v ∧ Q v s₂.heap L ∧ FrameEnd s o s₂ L kc ks
theorem own_step {kc ks : Nat} {Q : Option Value → Heap → List Loc → Prop} {U U' : State} (k : ∀ t, Steps p.tables e below U' t → Steps p.tables e below U t) (g : own_Go p e below s kc ks Q U') : own_Go p e below s kc ks Q U := by
  obtain ⟨s₂, o, h, r⟩ := g
  exact ⟨s₂, o, k _ h, r⟩
theorem own_ret {kc ks : Nat} {Q : Option Value → Heap → List Loc → Prop} {U : State} (X : Stand p l e R s m args below meth c T locs cells slots) {v : Option Value} (hv : meth.sig.returnType = none → v = none) (hlocks : meth.locks = false) (hk : cells ≤ kc) (hs : slots ≤ ks) (hq : Q v T.heap locs)
    (k : ∀ fs, (∀ (f : JFrame) (acts : List Action), f.method = m → f.locked = none → f.entered = [] → (doReturn e (T.setTop f) acts v).1 = T.setFrames fs) → Steps p.tables e below U (T.setFrames fs)) : own_Go p e below s kc ks Q U := by
  obtain ⟨fs, hr, hrun, hended, hW, hsame⟩ := X.leave (v := v) hv hlocks
  exact ⟨_, _, k fs hr, hrun, hended, v, locs, rfl, hq, ⟨_, rfl⟩, hW, hsame.mono hk hs⟩
theorem own_narR {t : FieldType} {v : Value} (h : v.isRef = true) : narrow t v = v := by cases v <;> first | (cases h; done) | (cases t <;> rfl)
theorem own_fitR {t : String} {v : Value} (h : v.isRef = true) : fits (.object t) v = true := by cases v <;> first | (cases h; done) | rfl
theorem own_at {h : Heap} {a : Addr} {k : Cell} (e : T.heap = h) (q : h[a]? = some k) : T.heap[a]? = some k := e ▸ q
theorem own_pl0 {h : Heap} : ∀ a ∈ ([] : List Addr), ∀ c : Cell, h[a]? = some c → c.vm.isStatics = false := fun _ q => nomatch q
theorem own_plE {Z : State} {h : Heap} {a : Addr} {C : String} {ws : List Addr} (E : Exa Z h a C) (r : ∀ x ∈ ws, ∀ c : Cell, h[x]? = some c → c.vm.isStatics = false) : ∀ x ∈ a :: ws, ∀ c : Cell, h[x]? = some c → c.vm.isStatics = false := fun x hx c hc => by
  rcases List.mem_cons.mp hx with rfl | q
  · obtain ⟨cell, k, h1, -, -, h4, -⟩ := E
    cases h1.symm.trans hc; exact h4
  · exact r x q c hc
theorem own_plF {Z : State} {h : Heap} {a : Addr} {C n d : String} {v : Value} {ws : List Addr} (E : Fld Z h a C n d v) (r : ∀ x ∈ ws, ∀ c : Cell, h[x]? = some c → c.vm.isStatics = false) : ∀ x ∈ a :: ws, ∀ c : Cell, h[x]? = some c → c.vm.isStatics = false := fun x hx c hc => by
  rcases List.mem_cons.mp hx with rfl | q
  · exact old_plain E c hc
  · exact r x q c hc
theorem own_plV {Z : State} {h : Heap} {a : Addr} {k : ClassId} {ty : FieldType} {z : Int32} {vs : List Value} {d : Value} {ws : List Addr} (E : Arv Z h a k ty z vs d) (r : ∀ x ∈ ws, ∀ c : Cell, h[x]? = some c → c.vm.isStatics = false) : ∀ x ∈ a :: ws, ∀ c : Cell, h[x]? = some c → c.vm.isStatics = false := fun x hx c hc => by
  rcases List.mem_cons.mp hx with rfl | q
  · obtain ⟨cl, A, -⟩ := E
    cases A.1.symm.trans hc; exact A.plain
  · exact r x q c hc
theorem own_sta_keep {Z : State} {h h' : Heap} {C n d : String} {w : Value} {ws : List Addr} (F : Sta Z h C n d w) (K : Keep h h' ws) (r : ∀ x ∈ ws, ∀ c : Cell, h[x]? = some c → c.vm.isStatics = false) : Sta Z h' C n d w := by
  obtain ⟨cf, i, k, f, st, cell, h1, h2, h3, h4, h5, h6, h7⟩ := F
  exact ⟨cf, i, k, f, st, cell, h1, h2, h3, h4, K.2.1 st cell h5 (fun q => by rw [r st q cell h5] at h6; cases h6), h6, h7⟩
end Own
theorem own_ofNat (k : Int32) (h0 : 0 ≤ k.toInt) : k = Int32.ofNat k.toInt.toNat := by
  apply Int32.toInt_inj.mp
  have := k.toInt_lt
  rw [Int32.toInt_ofNat_of_lt] <;> omega
theorem own_shlF : ∀ k : Fin 32, ((1 : Int64) <<< ((Int32.ofNat k.val).toInt64 &&& 63)).toInt = 2 ^ k.val := by decide +kernel
theorem own_shl (k : Int32) (h0 : 0 ≤ k.toInt) (h1 : k.toInt < 32) : ((1 : Int64) <<< (k.toInt64 &&& 63)).toInt = 2 ^ k.toInt.toNat := by
  have := own_shlF ⟨k.toInt.toNat, by omega⟩
  rw [← own_ofNat k h0] at this
  exact this
theorem own_sum (m k : Int32) : (m.toInt64 + k.toInt64).toInt = m.toInt + k.toInt := by
  have h1 := m.le_toInt
  have h2 := m.toInt_lt
  have h3 := k.le_toInt
  have h4 := k.toInt_lt
  rw [Int64.toInt_add, Int32.toInt_toInt64, Int32.toInt_toInt64, Int.bmod_eq_of_le (by omega) (by omega)]
theorem own_sum1 (m k : Int32) : ((m.toInt64 + k.toInt64) + (1 : Int64)).toInt = m.toInt + k.toInt + 1 := by
  have h1 := m.le_toInt
  have h2 := m.toInt_lt
  have h3 := k.le_toInt
  have h4 := k.toInt_lt
  rw [Int64.toInt_add, own_sum]
  have : (1 : Int64).toInt = 1 := rfl
  rw [this, Int.bmod_eq_of_le (by omega) (by omega)]
def own_inv (m k : Int32) (d : Nat) : Prop := 1 ≤ m.toInt ∧ m.toInt ≤ 2147483616 ∧ k.toInt + d = 31 ∧ 2 ≤ k.toInt ∧ (k.toInt = 2 ∨ 2 ^ (k.toInt.toNat - 1) < m.toInt + k.toInt)
def own_ok (m k : Int32) : Prop := 1 ≤ m.toInt ∧ m.toInt ≤ 2147483616 ∧ 2 ≤ k.toInt ∧ k.toInt ≤ 31 ∧ m.toInt + k.toInt + 1 ≤ 2 ^ k.toInt.toNat ∧ (k.toInt = 2 ∨ 2 ^ (k.toInt.toNat - 1) < m.toInt + k.toInt)
theorem own_base {m k : Int32} (h0 : 0 ≤ k.toInt) (h1 : k.toInt < 32) : ((1 : Int64) <<< (k.toInt64 &&& 63)) < ((m.toInt64 + k.toInt64) + (1 : Int64)) ↔ (2 : Int) ^ k.toInt.toNat < m.toInt + k.toInt + 1 := by
  rw [Int64.lt_iff_toInt_lt, own_shl k h0 h1, own_sum1]
theorem own_inv_last {m k : Int32} (h : own_inv m k 0) : ¬ ((1 : Int64) <<< (k.toInt64 &&& 63)) < ((m.toInt64 + k.toInt64) + (1 : Int64)) := by
  obtain ⟨h1, h2, h3, h4, -⟩ := h
  rw [own_base (by omega) (by omega)]
  have : k.toInt.toNat = 31 := by omega
  rw [this]; omega
theorem own_inv_step {m k : Int32} {d : Nat} (h : own_inv m k (d + 1)) (c : ((1 : Int64) <<< (k.toInt64 &&& 63)) < ((m.toInt64 + k.toInt64) + (1 : Int64))) : own_inv m (k + 1) d := by
  obtain ⟨h1, h2, h3, h4, -⟩ := h
  rw [own_base (by omega) (by omega)] at c
  have e : (k + 1).toInt = k.toInt + 1 := by
    rw [Int32.toInt_add]; have : (1 : Int32).toInt = 1 := rfl
    rw [this, Int.bmod_eq_of_le (by omega) (by omega)]
  refine ⟨h1, h2, by omega, by omega, Or.inr ?_⟩
  rw [e]
  have : (k.toInt + 1).toNat - 1 = k.toInt.toNat := by omega
  rw [this]; omega
theorem own_inv_exit {m k : Int32} {d : Nat} (h : own_inv m k d) (c : ¬ ((1 : Int64) <<< (k.toInt64 &&& 63)) < ((m.toInt64 + k.toInt64) + (1 : Int64))) : own_ok m k := by
  obtain ⟨h1, h2, h3, h4, h5⟩ := h
  rw [own_base (by omega) (by omega)] at c
  exact ⟨h1, h2, h4, by omega, by omega, h5⟩
theorem own_inv_start {m : Int32} (h1 : 1 ≤ m.toInt) (h2 : m.toInt ≤ 2147483616) : own_inv m 2 29 := ⟨h1, h2, rfl, by decide, Or.inl rfl⟩
theorem own_lo {m : Int32} (h1 : 1 ≤ m.toInt) : ¬ m < (1 : Int32) := by rw [Int32.lt_iff_toInt_lt]; have : (1 : Int32).toInt = 1 := rfl; omega
theorem own_hi {m : Int32} (h1 : m.toInt ≤ 2147483616) : ¬ (2147483616 : Int32) < m := by rw [Int32.lt_iff_toInt_lt]; have : (2147483616 : Int32).toInt = 2147483616 := rfl; omega
theorem own_ok2 {m k : Int32} (h : own_ok m k) : ¬ k < (2 : Int32) := by rw [Int32.lt_iff_toInt_lt]; have : (2 : Int32).toInt = 2 := rfl; have := h.2.2.1; omega
theorem own_ok31 {m k : Int32} (h : own_ok m k) : ¬ (31 : Int32) < k := by rw [Int32.lt_iff_toInt_lt]; have : (31 : Int32).toInt = 31 := rfl; have := h.2.2.2.1; omega
theorem own_okA {m k : Int32} (h : own_ok m k) : ¬ ((1 : Int64) <<< (k.toInt64 &&& 63)) < ((m.toInt64 + k.toInt64) + (1 : Int64)) := by
  obtain ⟨h1, h2, h3, h4, h5, -⟩ := h
  rw [own_base (by omega) (by omega)]; omega
theorem own_okB {m k : Int32} (h : own_ok m k) : ((1 : Int64) <<< ((k - (1 : Int32)).toInt64 &&& 63)) < (m.toInt64 + k.toInt64) := by
  obtain ⟨h1, h2, h3, h4, h5, h6⟩ := h
  have e : (k - 1).toInt = k.toInt - 1 := by
    rw [Int32.toInt_sub]; have : (1 : Int32).toInt = 1 := rfl
    rw [this, Int.bmod_eq_of_le (by omega) (by omega)]
  rw [Int64.lt_iff_toInt_lt, own_shl _ (by omega) (by omega), own_sum, e]
  rcases h6 with h6 | h6
  · rw [h6]; show (2 : Int) < _; omega
  · have : (k.toInt - 1).toNat = k.toInt.toNat - 1 := by omega
    rw [this]; omega
theorem own_okC {m k : Int32} (h : own_ok m k) : (m + k).toInt64 = m.toInt64 + k.toInt64 := by
  obtain ⟨h1, h2, h3, h4, -⟩ := h
  apply Int64.toInt_inj.mp
  rw [own_sum, Int32.toInt_toInt64, Int32.toInt_add, Int.bmod_eq_of_le (by omega) (by omega)]
theorem own_mm {x m : Int32} (h : ((x &&& (2147483647 : Int32)) % (2147483616 : Int32)) + (1 : Int32) = m) : 1 ≤ m.toInt ∧ m.toInt ≤ 2147483616 := by
  subst h
  have h1 := Jvm.Kit.i32_mask x 2147483647 (k := 31) (by decide) (by decide)
  have h2 : ((x &&& (2147483647 : Int32)) % (2147483616 : Int32)).toInt = (x &&& (2147483647 : Int32)).toInt % 2147483616 := by
    rw [Jvm.Kit.i32_rem_nonneg (by omega)]; rfl
  have h3 : 0 ≤ (x &&& (2147483647 : Int32)).toInt % 2147483616 := Int.emod_nonneg _ (by decide)
  have h4 : (x &&& (2147483647 : Int32)).toInt % 2147483616 < 2147483616 := Int.emod_lt_of_pos _ (by decide)
  have e1 : (1 : Int32).toInt = 1 := rfl
  rw [Jvm.Kit.i32_add (by omega) (by omega), h2, e1]
  omega
theorem own_pn0 : plainName "com/example/bitmend/bitmend/code/HammingCode" = true := by first | (simp [plainName, overriddenIn]; done) | decide +kernel
theorem own_d2_0 : decode prog_9_method_1_code 0 = .ok (.aload_n 0, 1) := by decide +kernel
theorem own_d2_1 : decode prog_9_method_1_code 1 = .ok (.invokespecial 5, 3) := by decide +kernel
theorem own_d2_4 : decode prog_9_method_1_code 4 = .ok (.aload_n 0, 1) := by decide +kernel
theorem own_d2_5 : decode prog_9_method_1_code 5 = .ok (.iload_n 1, 1) := by decide +kernel
theorem own_d2_6 : decode prog_9_method_1_code 6 = .ok (.putfield 11, 3) := by decide +kernel
theorem own_d2_9 : decode prog_9_method_1_code 9 = .ok (.aload_n 0, 1) := by decide +kernel
theorem own_d2_10 : decode prog_9_method_1_code 10 = .ok (.iload_n 2, 1) := by decide +kernel
theorem own_d2_11 : decode prog_9_method_1_code 11 = .ok (.putfield 17, 3) := by decide +kernel
theorem own_d2_14 : decode prog_9_method_1_code 14 = .ok (.aload_n 0, 1) := by decide +kernel
theorem own_d2_15 : decode prog_9_method_1_code 15 = .ok (.iload_n 3, 1) := by decide +kernel
theorem own_d2_16 : decode prog_9_method_1_code 16 = .ok (.putfield 20, 3) := by decide +kernel
theorem own_d2_19 : decode prog_9_method_1_code 19 = .ok (.aload_n 0, 1) := by decide +kernel
theorem own_d2_20 : decode prog_9_method_1_code 20 = .ok (.aload 4, 2) := by decide +kernel
theorem own_d2_22 : decode prog_9_method_1_code 22 = .ok (.putfield 24, 3) := by decide +kernel
theorem own_d2_25 : decode prog_9_method_1_code 25 = .ok (.return_, 1) := by decide +kernel
def own_Q_hci (Z : State) (a1 : Addr) (p2 : Int32) (p3 : Int32) (p4 : Int32) (l1 : Addr) (u1 : Value) (u2 : Value) (u3 : Value) (u4 : Value) (h0 : Heap) (n0 : Nat) (v : Option Value) (h : Heap) (L : List Loc) : Prop := v = none ∧ Fr n0 L ∧ Keep h0 h [a1] ∧ (Fld Z h a1 "com/example/bitmend/bitmend/code/HammingCode" "dataBits" "I" (.int p2)) ∧ (Fld Z h a1 "com/example/bitmend/bitmend/code/HammingCode" "checkBits" "I" (.int p3)) ∧ (Fld Z h a1 "com/example/bitmend/bitmend/code/HammingCode" "extended" "Z" (.int (p4 &&& 1))) ∧ (Fld Z h a1 "com/example/bitmend/bitmend/code/HammingCode" "layout" "Lcom/example/bitmend/bitmend/code/Layout;" (.ref l1)) ∧ (Exa Z h a1 "com/example/bitmend/bitmend/code/HammingCode")
set_option maxRecDepth 65536 in
set_option maxHeartbeats 40000000 in
theorem own_m_hci (l : Launch) (Z : State) (a0 : Array Value) (hw : ∀ d ∈ tables_1, d.before a0 Z = true) (ws : List Jvm.Cond) (a1 : Addr) (p2 : Int32) (p3 : Int32) (p4 : Int32) (l1 : Addr) (u1 : Value) (u2 : Value) (u3 : Value) (u4 : Value) (h0 : Heap) (n0 : Nat) (Z0 : n0 ≤ h0.size) (g_a1 : n0 ≤ a1) (Fd : Fld Z h0 a1 "com/example/bitmend/bitmend/code/HammingCode" "dataBits" "I" u1) (Fk : Fld Z h0 a1 "com/example/bitmend/bitmend/code/HammingCode" "checkBits" "I" u2) (Fx : Fld Z h0 a1 "com/example/bitmend/bitmend/code/HammingCode" "extended" "Z" u3) (Fl : Fld Z h0 a1 "com/example/bitmend/bitmend/code/HammingCode" "layout" "Lcom/example/bitmend/bitmend/code/Layout;" u4) (E1 : Exa Z h0 a1 "com/example/bitmend/bitmend/code/HammingCode") :
    MetFree l (⟨"com/example/bitmend/bitmend/code/HammingCode", "<init>", "(IIZLcom/example/bitmend/bitmend/code/Layout;)V"⟩ : MethodName) (head1 (Jvm.Cond.code (⟨"com/example/bitmend/bitmend/code/HammingCode", "<init>", "(IIZLcom/example/bitmend/bitmend/code/Layout;)V"⟩ : MethodName) prog_9_method_1_code 5 none :: ws) ({ frames := 1, cells := 0, slots := 0, locals := 12 } : Room)) (fun a U => a = #[(.ref a1), (.int p2), (.int p3), (.int p4), (.ref l1)] ∧ Z.Warmed39 U.vm ∧ U.heap = h0) (fun _ _ _ _ _ => True) (fun _ U o U' => ∃ v L, o = .returned v ∧ own_Q_hci Z a1 p2 p3 p4 l1 u1 u2 u3 u4 h0 n0 v U'.heap L ∧ FrameEnd U o U' L ({ frames := 1, cells := 0, slots := 0, locals := 12 } : Room).cells ({ frames := 1, cells := 0, slots := 0, locals := 12 } : Room).slots) := by
  refine MetFree.of_bodySF (plainFor_of_name own_pn0) hisR ?_
  intro p e s m args below meth c s₁ Bd hml0 hP hK
  obtain ⟨rfl, hZ, hh⟩ := hP
  have hx := Bd.exec
  have hby := Bd.bytes
  have hml : c.maxLocals = 5 := hml0
  have hown : s.vm.findClass "com/example/bitmend/bitmend/code/HammingCode" = some m.cls := findClass_of_methodNamed Bd.named
  have hnm := (name_of_methodNamed Bd.named Bd.method).1
  have X0 : Stand p l e ({ frames := 1, cells := 0, slots := 0, locals := 12 } : Room) s m #[(.ref a1), (.int p2), (.int p3), (.int p4), (.ref l1)] below meth c s₁ [] 0 0 := Stand.of_body Bd
  have e0 : s₁.heap = h0 := by rw [← hh, Bd.state]; rfl
  have N0 := Fr.nil n0
  have K0 : Keep h0 h0 [a1] := Keep.refl _ _
  show own_Go p e below s ({ frames := 1, cells := 0, slots := 0, locals := 12 } : Room).cells ({ frames := 1, cells := 0, slots := 0, locals := 12 } : Room).slots (own_Q_hci Z a1 p2 p3 p4 l1 u1 u2 u3 u4 h0 n0) (s₁.setTop (entryFrame m #[(.ref a1), (.int p2), (.int p3), (.int p4), (.ref l1)] 5))
  have ef : entryFrame m #[(.ref a1), (.int p2), (.int p3), (.int p4), (.ref l1)] 5 = (mkF m 0 #[.val (.ref a1), .val (.int p2), .val (.int p3), .val (.int p4), .val (.ref l1)] []) := by first | rfl | (simp [entryFrame, mkF, argsToLocals, Value.category, maxLocals]; done)
  rw [ef]
  show own_Go p e below s _ _ _ (s₁.setTop (mkF m 0 #[.val (.ref a1), .val (.int p2), .val (.int p3), .val (.int p4), .val (.ref l1)] []))
  refine own_step (U' := (s₁.setTop (mkF m 1 #[.val (.ref a1), .val (.int p2), .val (.int p3), .val (.int p4), .val (.ref l1)] [(.ref a1)]))) (fun t ht => XS.aloadN X0.here hx rfl (hb hby own_d2_0) rfl rfl ht) ?_
  obtain ⟨T1, X1, e1, st1⟩ := initO X0 hx hZ hown (hw _ (List.mem_of_getElem? (i := 15) rfl)) (hw _ (List.mem_of_getElem? (i := 16) rfl)) (hw _ (List.mem_of_getElem? (i := 17) rfl)) e0 (g := (mkF m 1 #[.val (.ref a1), .val (.int p2), .val (.int p3), .val (.int p4), .val (.ref l1)] [(.ref a1)])) rfl (by rw [hml]; rfl) rfl (hb hby own_d2_1) (by decide) (W := 0) (by show 2 * 0 + _ ≤ _; exact Nat.le_of_eq rfl) (by decide)
  refine own_step (U' := (T1.setTop (mkF m 4 #[.val (.ref a1), .val (.int p2), .val (.int p3), .val (.int p4), .val (.ref l1)] []))) (fun t ht => st1 _ ht) ?_
  refine own_step (U' := (T1.setTop (mkF m 5 #[.val (.ref a1), .val (.int p2), .val (.int p3), .val (.int p4), .val (.ref l1)] [(.ref a1)]))) (fun t ht => XS.aloadN X1.here hx rfl (hb hby own_d2_4) rfl rfl ht) ?_
  refine own_step (U' := (T1.setTop (mkF m 6 #[.val (.ref a1), .val (.int p2), .val (.int p3), .val (.int p4), .val (.ref l1)] [(.int p2), (.ref a1)]))) (fun t ht => XS.iloadN X1.here hx rfl (hb hby own_d2_5) rfl ht) ?_
  obtain ⟨T2, h2, X2, e2, W2, st2⟩ := putF X1 hx hZ hown (host := "") (Or.inl (hw _ (List.mem_of_getElem? (i := 18) rfl))) Via.refl e1 Fd E1 (Or.inr ⟨(hw _ (List.mem_of_getElem? (i := 19) rfl)), rfl, hnm⟩) (hw _ (List.mem_of_getElem? (i := 8) rfl)) (ty := .int) (by decide) rfl rfl (g := (mkF m 6 #[.val (.ref a1), .val (.int p2), .val (.int p3), .val (.int p4), .val (.ref l1)] [(.int p2), (.ref a1)])) rfl rfl (hb hby own_d2_6)
  have f2_1 : Fld Z h2 a1 "com/example/bitmend/bitmend/code/HammingCode" "checkBits" "I" u2 := Fk.other W2 (Or.inr (slot_ne (Or.inr (hw _ (List.mem_of_getElem? (i := 21) rfl))) (Or.inr (hw _ (List.mem_of_getElem? (i := 19) rfl))) (by decide) (t := .int) (t' := .int) (by decide) (by decide)))
  have f2_2 : Fld Z h2 a1 "com/example/bitmend/bitmend/code/HammingCode" "extended" "Z" u3 := Fx.other W2 (Or.inr (slot_ne (Or.inr (hw _ (List.mem_of_getElem? (i := 23) rfl))) (Or.inr (hw _ (List.mem_of_getElem? (i := 19) rfl))) (by decide) (t := .boolean) (t' := .int) (by decide) (by decide)))
  have f2_3 : Fld Z h2 a1 "com/example/bitmend/bitmend/code/HammingCode" "layout" "Lcom/example/bitmend/bitmend/code/Layout;" u4 := Fl.other W2 (Or.inr (slot_ne (Or.inr (hw _ (List.mem_of_getElem? (i := 25) rfl))) (Or.inr (hw _ (List.mem_of_getElem? (i := 19) rfl))) (by decide) (t := (.object "com/example/bitmend/bitmend/code/Layout")) (t' := .int) (by decide) (by decide)))
  have f2_4 : Exa Z h2 a1 "com/example/bitmend/bitmend/code/HammingCode" := E1.wr W2
  have F2 := Fd.same W2
  have N2 := Fr.snoc X2 N0 g_a1
  have K2 : Keep h0 h2 [a1] := K0.wr W2 (Or.inl (by simp))
  refine own_step (U' := (T2.setTop (mkF m 9 #[.val (.ref a1), .val (.int p2), .val (.int p3), .val (.int p4), .val (.ref l1)] []))) (fun t ht => st2 _ ht) ?_
  refine own_step (U' := (T2.setTop (mkF m 10 #[.val (.ref a1), .val (.int p2), .val (.int p3), .val (.int p4), .val (.ref l1)] [(.ref a1)]))) (fun t ht => XS.aloadN X2.here hx rfl (hb hby own_d2_9) rfl rfl ht) ?_
  refine own_step (U' := (T2.setTop (mkF m 11 #[.val (.ref a1), .val (.int p2), .val (.int p3), .val (.int p4), .val (.ref l1)] [(.int p3), (.ref a1)]))) (fun t ht => XS.iloadN X2.here hx rfl (hb hby own_d2_10) rfl ht) ?_
  obtain ⟨T3, h3, X3, e3, W3, st3⟩ := putF X2 hx hZ hown (host := "") (Or.inl (hw _ (List.mem_of_getElem? (i := 20) rfl))) Via.refl e2 f2_1 f2_4 (Or.inr ⟨(hw _ (List.mem_of_getElem? (i := 21) rfl)), rfl, hnm⟩) (hw _ (List.mem_of_getElem? (i := 8) rfl)) (ty := .int) (by decide) rfl rfl (g := (mkF m 11 #[.val (.ref a1), .val (.int p2), .val (.int p3), .val (.int p4), .val (.ref l1)] [(.int p3), (.ref a1)])) rfl rfl (hb hby own_d2_11)
  have f3_1 : Fld Z h3 a1 "com/example/bitmend/bitmend/code/HammingCode" "extended" "Z" u3 := f2_2.other W3 (Or.inr (slot_ne (Or.inr (hw _ (List.mem_of_getElem? (i := 23) rfl))) (Or.inr (hw _ (List.mem_of_getElem? (i := 21) rfl))) (by decide) (t := .boolean) (t' := .int) (by decide) (by decide)))
  have f3_2 : Fld Z h3 a1 "com/example/bitmend/bitmend/code/HammingCode" "layout" "Lcom/example/bitmend/bitmend/code/Layout;" u4 := f2_3.other W3 (Or.inr (slot_ne (Or.inr (hw _ (List.mem_of_getElem? (i := 25) rfl))) (Or.inr (hw _ (List.mem_of_getElem? (i := 21) rfl))) (by decide) (t := (.object "com/example/bitmend/bitmend/code/Layout")) (t' := .int) (by decide) (by decide)))
  have f3_3 : Exa Z h3 a1 "com/example/bitmend/bitmend/code/HammingCode" := f2_4.wr W3
  have f3_4 : Fld Z h3 a1 "com/example/bitmend/bitmend/code/HammingCode" "dataBits" "I" (.int p2) := F2.other W3 (Or.inr (slot_ne (Or.inr (hw _ (List.mem_of_getElem? (i := 19) rfl))) (Or.inr (hw _ (List.mem_of_getElem? (i := 21) rfl))) (by decide) (t := .int) (t' := .int) (by decide) (by decide)))
  have F3 := f2_1.same W3
  have N3 := Fr.snoc X3 N2 g_a1
  have K3 : Keep h0 h3 [a1] := K2.wr W3 (Or.inl (by simp))
  refine own_step (U' := (T3.setTop (mkF m 14 #[.val (.ref a1), .val (.int p2), .val (.int p3), .val (.int p4), .val (.ref l1)] []))) (fun t ht => st3 _ ht) ?_
  refine own_step (U' := (T3.setTop (mkF m 15 #[.val (.ref a1), .val (.int p2), .val (.int p3), .val (.int p4), .val (.ref l1)] [(.ref a1)]))) (fun t ht => XS.aloadN X3.here hx rfl (hb hby own_d2_14) rfl rfl ht) ?_
  refine own_step (U' := (T3.setTop (mkF m 16 #[.val (.ref a1), .val (.int p2), .val (.int p3), .val (.int p4), .val (.ref l1)] [(.int p4), (.ref a1)]))) (fun t ht => XS.iloadN X3.here hx rfl (hb hby own_d2_15) rfl ht) ?_
  obtain ⟨T4, h4, X4, e4, W4, st4⟩ := putFN X3 hx hZ hown (hw _ (List.mem_of_getElem? (i := 22) rfl)) Via.refl e3 f3_1 f3_3 (Or.inr ⟨(hw _ (List.mem_of_getElem? (i := 23) rfl)), rfl, hnm⟩) (hw _ (List.mem_of_getElem? (i := 8) rfl)) (ty := .boolean) (v' := (.int (p4 &&& 1))) (by decide) rfl (fits_nar_bool _) (g := (mkF m 16 #[.val (.ref a1), .val (.int p2), .val (.int p3), .val (.int p4), .val (.ref l1)] [(.int p4), (.ref a1)])) rfl rfl (hb hby own_d2_16)
  have f4_1 : Fld Z h4 a1 "com/example/bitmend/bitmend/code/HammingCode" "layout" "Lcom/example/bitmend/bitmend/code/Layout;" u4 := f3_2.other W4 (Or.inr (slot_ne (Or.inr (hw _ (List.mem_of_getElem? (i := 25) rfl))) (Or.inr (hw _ (List.mem_of_getElem? (i := 23) rfl))) (by decide) (t := (.object "com/example/bitmend/bitmend/code/Layout")) (t' := .boolean) (by decide) (by decide)))
  have f4_2 : Exa Z h4 a1 "com/example/bitmend/bitmend/code/HammingCode" := f3_3.wr W4
  have f4_3 : Fld Z h4 a1 "com/example/bitmend/bitmend/code/HammingCode" "dataBits" "I" (.int p2) := f3_4.other W4 (Or.inr (slot_ne (Or.inr (hw _ (List.mem_of_getElem? (i := 19) rfl))) (Or.inr (hw _ (List.mem_of_getElem? (i := 23) rfl))) (by decide) (t := .int) (t' := .boolean) (by decide) (by decide)))
  have f4_4 : Fld Z h4 a1 "com/example/bitmend/bitmend/code/HammingCode" "checkBits" "I" (.int p3) := F3.other W4 (Or.inr (slot_ne (Or.inr (hw _ (List.mem_of_getElem? (i := 21) rfl))) (Or.inr (hw _ (List.mem_of_getElem? (i := 23) rfl))) (by decide) (t := .int) (t' := .boolean) (by decide) (by decide)))
  have F4 := f3_1.same W4
  have N4 := Fr.snoc X4 N3 g_a1
  have K4 : Keep h0 h4 [a1] := K3.wr W4 (Or.inl (by simp))
  refine own_step (U' := (T4.setTop (mkF m 19 #[.val (.ref a1), .val (.int p2), .val (.int p3), .val (.int p4), .val (.ref l1)] []))) (fun t ht => st4 _ ht) ?_
  refine own_step (U' := (T4.setTop (mkF m 20 #[.val (.ref a1), .val (.int p2), .val (.int p3), .val (.int p4), .val (.ref l1)] [(.ref a1)]))) (fun t ht => XS.aloadN X4.here hx rfl (hb hby own_d2_19) rfl rfl ht) ?_
  refine own_step (U' := (T4.setTop (mkF m 22 #[.val (.ref a1), .val (.int p2), .val (.int p3), .val (.int p4), .val (.ref l1)] [(.ref l1), (.ref a1)]))) (fun t ht => XS.aload X4.here hx rfl (hb hby own_d2_20) rfl rfl ht) ?_
  obtain ⟨T5, h5, X5, e5, W5, st5⟩ := putF X4 hx hZ hown (host := "") (Or.inl (hw _ (List.mem_of_getElem? (i := 24) rfl))) Via.refl e4 f4_1 f4_2 (Or.inr ⟨(hw _ (List.mem_of_getElem? (i := 25) rfl)), rfl, hnm⟩) (hw _ (List.mem_of_getElem? (i := 8) rfl)) (ty := (.object "com/example/bitmend/bitmend/code/Layout")) (by decide) rfl rfl (g := (mkF m 22 #[.val (.ref a1), .val (.int p2), .val (.int p3), .val (.int p4), .val (.ref l1)] [(.ref l1), (.ref a1)])) rfl rfl (hb hby own_d2_22)
  have f5_1 : Exa Z h5 a1 "com/example/bitmend/bitmend/code/HammingCode" := f4_2.wr W5
  have f5_2 : Fld Z h5 a1 "com/example/bitmend/bitmend/code/HammingCode" "dataBits" "I" (.int p2) := f4_3.other W5 (Or.inr (slot_ne (Or.inr (hw _ (List.mem_of_getElem? (i := 19) rfl))) (Or.inr (hw _ (List.mem_of_getElem? (i := 25) rfl))) (by decide) (t := .int) (t' := (.object "com/example/bitmend/bitmend/code/Layout")) (by decide) (by decide)))
  have f5_3 : Fld Z h5 a1 "com/example/bitmend/bitmend/code/HammingCode" "checkBits" "I" (.int p3) := f4_4.other W5 (Or.inr (slot_ne (Or.inr (hw _ (List.mem_of_getElem? (i := 21) rfl))) (Or.inr (hw _ (List.mem_of_getElem? (i := 25) rfl))) (by decide) (t := .int) (t' := (.object "com/example/bitmend/bitmend/code/Layout")) (by decide) (by decide)))
  have f5_4 : Fld Z h5 a1 "com/example/bitmend/bitmend/code/HammingCode" "extended" "Z" (.int (p4 &&& 1)) := F4.other W5 (Or.inr (slot_ne (Or.inr (hw _ (List.mem_of_getElem? (i := 23) rfl))) (Or.inr (hw _ (List.mem_of_getElem? (i := 25) rfl))) (by decide) (t := .boolean) (t' := (.object "com/example/bitmend/bitmend/code/Layout")) (by decide) (by decide)))
  have F5 := f4_1.same W5
  have N5 := Fr.snoc X5 N4 g_a1
  have K5 : Keep h0 h5 [a1] := K4.wr W5 (Or.inl (by simp))
  refine own_step (U' := (T5.setTop (mkF m 25 #[.val (.ref a1), .val (.int p2), .val (.int p3), .val (.int p4), .val (.ref l1)] []))) (fun t ht => st5 _ ht) ?_
  refine own_ret X5 (v := none) (fun _ => rfl) Bd.notSynchronized (by decide) (by decide) ?_ (fun fs hr => X5.returnOut hx Bd.returns (hb hby own_d2_25) hr)
  show own_Q_hci Z a1 p2 p3 p4 l1 u1 u2 u3 u4 h0 n0 _ T5.heap _
  rw [e5]
  exact ⟨rfl, N5, K5, f5_2, f5_3, f5_4, F5, f5_1⟩
theorem own_pd0 : parseMethodDescriptor "(IIZLcom/example/bitmend/bitmend/code/Layout;)V" = some ⟨[.int, .int, .boolean, (.object "com/example/bitmend/bitmend/code/Layout")], none⟩ := by decide +kernel
theorem own_d1_0 : decode prog_9_method_2_code 0 = .ok (.iload_n 0, 1) := by decide +kernel
theorem own_d1_1 : decode prog_9_method_2_code 1 = .ok (.iconst 1, 1) := by decide +kernel
theorem own_d1_2 : decode prog_9_method_2_code 2 = .ok (.if_icmp .lt 9, 3) := by decide +kernel
theorem own_d1_5 : decode prog_9_method_2_code 5 = .ok (.iload_n 0, 1) := by decide +kernel
theorem own_d1_6 : decode prog_9_method_2_code 6 = .ok (.ldc 28, 2) := by decide +kernel
theorem own_d1_8 : decode prog_9_method_2_code 8 = .ok (.if_icmp .le 17, 3) := by decide +kernel
theorem own_d1_25 : decode prog_9_method_2_code 25 = .ok (.iconst 2, 1) := by decide +kernel
theorem own_d1_26 : decode prog_9_method_2_code 26 = .ok (.istore_n 1, 1) := by decide +kernel
theorem own_d1_27 : decode prog_9_method_2_code 27 = .ok (.lconst 1, 1) := by decide +kernel
theorem own_d1_28 : decode prog_9_method_2_code 28 = .ok (.iload_n 1, 1) := by decide +kernel
theorem own_d1_29 : decode prog_9_method_2_code 29 = .ok (.lshl, 1) := by decide +kernel
theorem own_d1_30 : decode prog_9_method_2_code 30 = .ok (.iload_n 0, 1) := by decide +kernel
theorem own_d1_31 : decode prog_9_method_2_code 31 = .ok (.i2l, 1) := by decide +kernel
theorem own_d1_32 : decode prog_9_method_2_code 32 = .ok (.iload_n 1, 1) := by decide +kernel
theorem own_d1_33 : decode prog_9_method_2_code 33 = .ok (.i2l, 1) := by decide +kernel
theorem own_d1_34 : decode prog_9_method_2_code 34 = .ok (.ladd, 1) := by decide +kernel
theorem own_d1_35 : decode prog_9_method_2_code 35 = .ok (.lconst 1, 1) := by decide +kernel
theorem own_d1_36 : decode prog_9_method_2_code 36 = .ok (.ladd, 1) := by decide +kernel
theorem own_d1_37 : decode prog_9_method_2_code 37 = .ok (.lcmp, 1) := by decide +kernel
theorem own_d1_38 : decode prog_9_method_2_code 38 = .ok (.ifCond .ge 9, 3) := by decide +kernel
theorem own_d1_41 : decode prog_9_method_2_code 41 = .ok (.iinc 1 1, 3) := by decide +kernel
theorem own_d1_44 : decode prog_9_method_2_code 44 = .ok (.goto (-17), 3) := by decide +kernel
theorem own_d1_47 : decode prog_9_method_2_code 47 = .ok (.new 12, 3) := by decide +kernel
theorem own_d1_50 : decode prog_9_method_2_code 50 = .ok (.dup, 1) := by decide +kernel
theorem own_d1_51 : decode prog_9_method_2_code 51 = .ok (.iload_n 0, 1) := by decide +kernel
theorem own_d1_52 : decode prog_9_method_2_code 52 = .ok (.iload_n 1, 1) := by decide +kernel
theorem own_d1_53 : decode prog_9_method_2_code 53 = .ok (.iconst 0, 1) := by decide +kernel
theorem own_d1_54 : decode prog_9_method_2_code 54 = .ok (.getstatic 38, 3) := by decide +kernel
theorem own_d1_57 : decode prog_9_method_2_code 57 = .ok (.invokespecial 43, 3) := by decide +kernel
theorem own_d1_60 : decode prog_9_method_2_code 60 = .ok (.areturn, 1) := by decide +kernel
def own_Q_fdb (Z : State) (p1 : Int32) (l1 : Addr) (h0 : Heap) (n0 : Nat) (v : Option Value) (h : Heap) (L : List Loc) : Prop := ∃ (r : Addr) (k : Int32), v = some (.ref r) ∧ Fr n0 L ∧ Keep h0 h [] ∧ h0.size ≤ r ∧ own_ok p1 k ∧ (Fld Z h r "com/example/bitmend/bitmend/code/HammingCode" "dataBits" "I" (.int p1)) ∧ (Fld Z h r "com/example/bitmend/bitmend/code/HammingCode" "checkBits" "I" (.int k)) ∧ (Fld Z h r "com/example/bitmend/bitmend/code/HammingCode" "extended" "Z" (.int ((0 : Int32) &&& 1))) ∧ (Fld Z h r "com/example/bitmend/bitmend/code/HammingCode" "layout" "Lcom/example/bitmend/bitmend/code/Layout;" (.ref l1)) ∧ (Exa Z h r "com/example/bitmend/bitmend/code/HammingCode")
set_option maxRecDepth 65536 in
set_option maxHeartbeats 40000000 in
theorem own_m_fdb (l : Launch) (Z : State) (a0 : Array Value) (hw : ∀ d ∈ tables_1, d.before a0 Z = true) (ws : List Jvm.Cond) (p1 : Int32) (l1 : Addr) (h0 : Heap) (n0 : Nat) (Z0 : n0 ≤ h0.size) (S1 : Sta Z h0 "com/example/bitmend/bitmend/code/Layout" "POSITIONAL" "Lcom/example/bitmend/bitmend/code/Layout;" (.ref l1)) (hm1 : 1 ≤ p1.toInt) (hm2 : p1.toInt ≤ 2147483616) :
    MetFree l (⟨"com/example/bitmend/bitmend/code/HammingCode", "forDataBits", "(I)Lcom/example/bitmend/bitmend/code/HammingCode;"⟩ : MethodName) (head1 (Jvm.Cond.code (⟨"com/example/bitmend/bitmend/code/HammingCode", "forDataBits", "(I)Lcom/example/bitmend/bitmend/code/HammingCode;"⟩ : MethodName) prog_9_method_2_code 2 (some (.object "com/example/bitmend/bitmend/code/HammingCode")) :: ws) ({ frames := 2, cells := 1, slots := 6, locals := 29 } : Room)) (fun a U => a = #[(.int p1)] ∧ Z.Warmed39 U.vm ∧ U.heap = h0) (fun _ _ _ _ _ => True) (fun _ U o U' => ∃ v L, o = .returned v ∧ own_Q_fdb Z p1 l1 h0 n0 v U'.heap L ∧ FrameEnd U o U' L ({ frames := 2, cells := 1, slots := 6, locals := 29 } : Room).cells ({ frames := 2, cells := 1, slots := 6, locals := 29 } : Room).slots) := by
  refine MetFree.of_bodySF (plainFor_of_name own_pn0) hisR ?_
  intro p e s m args below meth c s₁ Bd hml0 hP hK
  obtain ⟨rfl, hZ, hh⟩ := hP
  have hx := Bd.exec
  have hby := Bd.bytes
  have hml : c.maxLocals = 2 := hml0
  have hown : s.vm.findClass "com/example/bitmend/bitmend/code/HammingCode" = some m.cls := findClass_of_methodNamed Bd.named
  have hnm := (name_of_methodNamed Bd.named Bd.method).1
  have X0 : Stand p l e ({ frames := 2, cells := 1, slots := 6, locals := 29 } : Room) s m #[(.int p1)] below meth c s₁ [] 0 0 := Stand.of_body Bd
  have e0 : s₁.heap = h0 := by rw [← hh, Bd.state]; rfl
  have N0 := Fr.nil n0
  have K0 : Keep h0 h0 [] := Keep.refl _ _
  show own_Go p e below s ({ frames := 2, cells := 1, slots := 6, locals := 29 } : Room).cells ({ frames := 2, cells := 1, slots := 6, locals := 29 } : Room).slots (own_Q_fdb Z p1 l1 h0 n0) (s₁.setTop (entryFrame m #[(.int p1)] 2))
  have ef : entryFrame m #[(.int p1)] 2 = (mkF m 0 #[.val (.int p1), .unset] []) := by first | rfl | (simp [entryFrame, mkF, argsToLocals, Value.category, maxLocals]; done)
  rw [ef]
  show own_Go p e below s _ _ _ (s₁.setTop (mkF m 0 #[.val (.int p1), .unset] []))
  refine own_step (U' := (s₁.setTop (mkF m 1 #[.val (.int p1), .unset] [(.int p1)]))) (fun t ht => XS.iloadN X0.here hx rfl (hb hby own_d1_0) rfl ht) ?_
  refine own_step (U' := (s₁.setTop (mkF m 2 #[.val (.int p1), .unset] [(.int (1 : Int32)), (.int p1)]))) (fun t ht => XS.iconst X0.here hx rfl (hb hby own_d1_1) ht) ?_
  refine own_step (U' := (s₁.setTop (mkF m 5 #[.val (.int p1), .unset] []))) (fun t ht => XS.icmpNo X0.here hx rfl (hb hby own_d1_2) rfl (XT.ii_lt_f ((own_lo hm1) : ¬ (p1 < (1 : Int32)))) ht) ?_
  refine own_step (U' := (s₁.setTop (mkF m 6 #[.val (.int p1), .unset] [(.int p1)]))) (fun t ht => XS.iloadN X0.here hx rfl (hb hby own_d1_5) rfl ht) ?_
  refine own_step (U' := (s₁.setTop (mkF m 8 #[.val (.int p1), .unset] [(.int (2147483616 : Int32)), (.int p1)]))) (fun t ht => X0.ldcInt hx hown (mvT hZ (hw _ (List.mem_of_getElem? (i := 6) rfl))) (g := (mkF m 6 #[.val (.int p1), .unset] [(.int p1)])) rfl (hb hby own_d1_6) _ ht) ?_
  refine own_step (U' := (s₁.setTop (mkF m 25 #[.val (.int p1), .unset] []))) (fun t ht => XS.icmpYes X0.here hx rfl (pc0 := 8) (pc' := 25) rfl (hb hby own_d1_8) rfl (XT.ii_le_t ((own_hi hm2) : ¬ ((2147483616 : Int32) < p1))) (by decide) (by decide) ht) ?_
  refine own_step (U' := (s₁.setTop (mkF m 26 #[.val (.int p1), .unset] [(.int (2 : Int32))]))) (fun t ht => XS.iconst X0.here hx rfl (hb hby own_d1_25) ht) ?_
  refine own_step (U' := (s₁.setTop (mkF m 27 #[.val (.int p1), .val (.int (2 : Int32))] []))) (fun t ht => XS.istoreN X0.here hx rfl (hb hby own_d1_26) rfl (l' := #[.val (.int p1), .val (.int (2 : Int32))]) rfl ht) ?_
  have loop : ∀ (d : Nat) (k : Int32), own_inv p1 k d → own_Go p e below s ({ frames := 2, cells := 1, slots := 6, locals := 29 } : Room).cells ({ frames := 2, cells := 1, slots := 6, locals := 29 } : Room).slots (own_Q_fdb Z p1 l1 h0 n0) (s₁.setTop (mkF m 27 #[.val (.int p1), .val (.int k)] [])) := by
    intro d
    induction d with
    | zero =>
      intro k hk
      refine own_step (U' := (s₁.setTop (mkF m 28 #[.val (.int p1), .val (.int k)] [(.long (1 : Int64))]))) (fun t ht => XT.lconstV X0.here hx rfl (1 : Int64) (hb hby own_d1_27) rfl ht) ?_
      refine own_step (U' := (s₁.setTop (mkF m 29 #[.val (.int p1), .val (.int k)] [(.int k), (.long (1 : Int64))]))) (fun t ht => XS.iloadN X0.here hx rfl (hb hby own_d1_28) rfl ht) ?_
      refine own_step (U' := (s₁.setTop (mkF m 30 #[.val (.int p1), .val (.int k)] [(.long ((1 : Int64) <<< (k.toInt64 &&& 63)))]))) (fun t ht => XT.lshl X0.here hx rfl (hb hby own_d1_29) rfl ht) ?_
      refine own_step (U' := (s₁.setTop (mkF m 31 #[.val (.int p1), .val (.int k)] [(.int p1), (.long ((1 : Int64) <<< (k.toInt64 &&& 63)))]))) (fun t ht => XS.iloadN X0.here hx rfl (hb hby own_d1_30) rfl ht) ?_
      refine own_step (U' := (s₁.setTop (mkF m 32 #[.val (.int p1), .val (.int k)] [(.long (p1.toInt64)), (.long ((1 : Int64) <<< (k.toInt64 &&& 63)))]))) (fun t ht => XT.i2l X0.here hx rfl (hb hby own_d1_31) rfl ht) ?_
      refine own_step (U' := (s₁.setTop (mkF m 33 #[.val (.int p1), .val (.int k)] [(.int k), (.long (p1.toInt64)), (.long ((1 : Int64) <<< (k.toInt64 &&& 63)))]))) (fun t ht => XS.iloadN X0.here hx rfl (hb hby own_d1_32) rfl ht) ?_
      refine own_step (U' := (s₁.setTop (mkF m 34 #[.val (.int p1), .val (.int k)] [(.long (k.toInt64)), (.long (p1.toInt64)), (.long ((1 : Int64) <<< (k.toInt64 &&& 63)))]))) (fun t ht => XT.i2l X0.here hx rfl (hb hby own_d1_33) rfl ht) ?_
      refine own_step (U' := (s₁.setTop (mkF m 35 #[.val (.int p1), .val (.int k)] [(.long ((p1.toInt64) + (k.toInt64))), (.long ((1 : Int64) <<< (k.toInt64 &&& 63)))]))) (fun t ht => XT.ladd X0.here hx rfl (hb hby own_d1_34) rfl ht) ?_
      refine own_step (U' := (s₁.setTop (mkF m 36 #[.val (.int p1), .val (.int k)] [(.long (1 : Int64)), (.long ((p1.toInt64) + (k.toInt64))), (.long ((1 : Int64) <<< (k.toInt64 &&& 63)))]))) (fun t ht => XT.lconstV X0.here hx rfl (1 : Int64) (hb hby own_d1_35) rfl ht) ?_
      refine own_step (U' := (s₁.setTop (mkF m 37 #[.val (.int p1), .val (.int k)] [(.long (((p1.toInt64) + (k.toInt64)) + (1 : Int64))), (.long ((1 : Int64) <<< (k.toInt64 &&& 63)))]))) (fun t ht => XT.ladd X0.here hx rfl (hb hby own_d1_36) rfl ht) ?_
      refine own_step (U' := (s₁.setTop (mkF m 38 #[.val (.int p1), .val (.int k)] [(.int (XT.cmpL ((1 : Int64) <<< (k.toInt64 &&& 63)) (((p1.toInt64) + (k.toInt64)) + (1 : Int64))))]))) (fun t ht => XT.lcmp X0.here hx rfl (hb hby own_d1_37) rfl ht) ?_
      refine own_step (U' := (s₁.setTop (mkF m 47 #[.val (.int p1), .val (.int k)] []))) (fun t ht => XS.ifYes X0.here hx rfl (pc0 := 38) (pc' := 47) rfl (hb hby own_d1_38) rfl (XT.ll_ge_t ((own_inv_last hk) : ¬ (((1 : Int64) <<< (k.toInt64 &&& 63)) < (((p1.toInt64) + (k.toInt64)) + (1 : Int64))))) (by decide) (by decide) ht) ?_
      obtain ⟨T6, h6, X6, e6, E6, A6, D6, -, st6⟩ := newO X0 hx hZ hown (hw _ (List.mem_of_getElem? (i := 7) rfl)) (hw _ (List.mem_of_getElem? (i := 8) rfl)) (hw _ (List.mem_of_getElem? (i := 4) rfl)) e0 (g := (mkF m 47 #[.val (.int p1), .val (.int k)] [])) rfl (hb hby own_d1_47) (by decide) (by decide)
      obtain ⟨b6, g6⟩ : ∃ z, z = (h0).size := ⟨_, rfl⟩
      rw [← g6] at A6 D6 st6
      have g_b6 : n0 ≤ b6 := Nat.le_trans (Nat.le_trans Z0 K0.1) (Nat.le_of_eq g6.symm)
      have sz_b6 : h0.size ≤ b6 := Nat.le_trans K0.1 (Nat.le_of_eq g6.symm)
      have f6_0 : Sta Z h6 "com/example/bitmend/bitmend/code/Layout" "POSITIONAL" "Lcom/example/bitmend/bitmend/code/Layout;" (.ref l1) := S1.ext E6
      have K6 : Keep h0 h6 [] := K0.ext E6
      have F6_19 : Fld Z h6 b6 "com/example/bitmend/bitmend/code/HammingCode" "dataBits" "I" (.int (0 : Int32)) := D6 (Or.inr (hw _ (List.mem_of_getElem? (i := 19) rfl))) (ty := .int) (by decide)
      have F6_21 : Fld Z h6 b6 "com/example/bitmend/bitmend/code/HammingCode" "checkBits" "I" (.int (0 : Int32)) := D6 (Or.inr (hw _ (List.mem_of_getElem? (i := 21) rfl))) (ty := .int) (by decide)
      have F6_23 : Fld Z h6 b6 "com/example/bitmend/bitmend/code/HammingCode" "extended" "Z" (.int (0 : Int32)) := D6 (Or.inr (hw _ (List.mem_of_getElem? (i := 23) rfl))) (ty := .boolean) (by decide)
      have F6_25 : Fld Z h6 b6 "com/example/bitmend/bitmend/code/HammingCode" "layout" "Lcom/example/bitmend/bitmend/code/Layout;" .null := D6 (Or.inr (hw _ (List.mem_of_getElem? (i := 25) rfl))) (ty := (.object "com/example/bitmend/bitmend/code/Layout")) (by decide)
      refine own_step (U' := (T6.setTop (mkF m 50 #[.val (.int p1), .val (.int k)] [(.ref b6)]))) (fun t ht => st6 _ ht) ?_
      refine own_step (U' := (T6.setTop (mkF m 51 #[.val (.int p1), .val (.int k)] [(.ref b6), (.ref b6)]))) (fun t ht => XS.dup X6.here hx rfl (hb hby own_d1_50) rfl rfl ht) ?_
      refine own_step (U' := (T6.setTop (mkF m 52 #[.val (.int p1), .val (.int k)] [(.int p1), (.ref b6), (.ref b6)]))) (fun t ht => XS.iloadN X6.here hx rfl (hb hby own_d1_51) rfl ht) ?_
      refine own_step (U' := (T6.setTop (mkF m 53 #[.val (.int p1), .val (.int k)] [(.int k), (.int p1), (.ref b6), (.ref b6)]))) (fun t ht => XS.iloadN X6.here hx rfl (hb hby own_d1_52) rfl ht) ?_
      refine own_step (U' := (T6.setTop (mkF m 54 #[.val (.int p1), .val (.int k)] [(.int (0 : Int32)), (.int k), (.int p1), (.ref b6), (.ref b6)]))) (fun t ht => XS.iconst X6.here hx rfl (hb hby own_d1_53) ht) ?_
      obtain ⟨T7, X7, e7, st7⟩ := getS2 X6 hx hZ hown (host := "") (Or.inl (hw _ (List.mem_of_getElem? (i := 9) rfl))) Via.refl e6 f6_0 (g := (mkF m 54 #[.val (.int p1), .val (.int k)] [(.int (0 : Int32)), (.int k), (.int p1), (.ref b6), (.ref b6)])) rfl (hb hby own_d1_54)
      refine own_step (U' := (T7.setTop (mkF m 57 #[.val (.int p1), .val (.int k)] [(.ref l1), (.int (0 : Int32)), (.int k), (.int p1), (.ref b6), (.ref b6)]))) (fun t ht => st7 _ ht) ?_
      obtain ⟨_, _, ⟨T8, L8, k8, n8⟩, -, X8, ⟨Lc8, hQ8, l8, y8, z8⟩, st8⟩ := X7.specialBack hx (y := (⟨"com/example/bitmend/bitmend/code/HammingCode", "<init>", "(IIZLcom/example/bitmend/bitmend/code/Layout;)V"⟩ : MethodName)) rfl hown (mvT hZ (hw _ (List.mem_of_getElem? (i := 12) rfl))) (mvT hZ (hw _ (List.mem_of_getElem? (i := 13) rfl))) (mvT hZ (hw _ (List.mem_of_getElem? (i := 14) rfl))) (by decide) (backOf (W := 1) (own_m_hci l Z a0 hw [] (b6) (p1) (k) ((0 : Int32)) (l1) ((.int (0 : Int32))) ((.int (0 : Int32))) ((.int (0 : Int32))) (.null) h6 n0 (Nat.le_trans Z0 K6.1) g_b6 F6_19 F6_21 F6_23 F6_25 A6) hZ (hw _ (List.mem_of_getElem? (i := 14) rfl)) (hw _ (List.mem_of_getElem? (i := 4) rfl)) (by decide) (by decide)) (g := (mkF m 57 #[.val (.int p1), .val (.int k)] [(.ref l1), (.int (0 : Int32)), (.int k), (.int p1), (.ref b6), (.ref b6)])) rfl (by rw [hml]; rfl) (Steps.refl _) (a := b6) (argsL := [(.int p1), (.int k), (.int (0 : Int32)), (.ref l1)]) (rest := [(.ref b6)]) (lenOf own_pd0 rfl) rfl (by show 2 * 0 + _ ≤ _; exact Nat.le_of_eq rfl) (hb hby own_d1_57) (fun _ _ => ⟨rfl, e7, (by decide : 1 + 0 ≤ _), (by decide : 6 + 0 ≤ _)⟩)
      dsimp only [Pt.U, Pt.locs, Pt.cells, Pt.slots] at X8 l8 y8 z8 st8 hQ8
      subst l8 y8 z8
      obtain ⟨rfl, Nq8, Kq8, Fq8_0, Fq8_1, Fq8_2, Fq8_3, Fq8_4⟩ := hQ8
      have N8 := Fr.app N0 Nq8
      have f8_0 : Sta Z T8.heap "com/example/bitmend/bitmend/code/Layout" "POSITIONAL" "Lcom/example/bitmend/bitmend/code/Layout;" (.ref l1) := own_sta_keep f6_0 Kq8 (own_plE A6 own_pl0)
      have f8_1 : Exa Z T8.heap b6 "com/example/bitmend/bitmend/code/HammingCode" := A6.keep Kq8
      have K8 : Keep h0 T8.heap [] := K6.trans Kq8 (allS (Or.inr sz_b6) all0)
      refine own_step (U' := (T8.setTop (mkF m 60 #[.val (.int p1), .val (.int k)] [(.ref b6)]))) (fun t ht => st8.trans ht) ?_
      refine own_ret X8 (v := (some (.ref b6))) (fun h => by rw [Bd.returns] at h; cases h) Bd.notSynchronized (by decide) (by decide) ?_ (fun fs hr => retOut X8 hx Bd.returns (own_narR rfl) (Or.inr (Or.inr (Or.inr (Or.inr ⟨rfl, rfl, rfl⟩)))) (hb hby own_d1_60) hr)
      show own_Q_fdb Z p1 l1 h0 n0 _ T8.heap _
      show own_Q_fdb Z p1 l1 h0 n0 _ T8.heap _
      exact ⟨b6, k, rfl, N8, K8, sz_b6, (own_inv_exit hk (own_inv_last hk)), Fq8_0, Fq8_1, Fq8_2, Fq8_3, Fq8_4⟩
    | succ d ih =>
      intro k hk
      refine own_step (U' := (s₁.setTop (mkF m 28 #[.val (.int p1), .val (.int k)] [(.long (1 : Int64))]))) (fun t ht => XT.lconstV X0.here hx rfl (1 : Int64) (hb hby own_d1_27) rfl ht) ?_
      refine own_step (U' := (s₁.setTop (mkF m 29 #[.val (.int p1), .val (.int k)] [(.int k), (.long (1 : Int64))]))) (fun t ht => XS.iloadN X0.here hx rfl (hb hby own_d1_28) rfl ht) ?_
      refine own_step (U' := (s₁.setTop (mkF m 30 #[.val (.int p1), .val (.int k)] [(.long ((1 : Int64) <<< (k.toInt64 &&& 63)))]))) (fun t ht => XT.lshl X0.here hx rfl (hb hby own_d1_29) rfl ht) ?_
      refine own_step (U' := (s₁.setTop (mkF m 31 #[.val (.int p1), .val (.int k)] [(.int p1), (.long ((1 : Int64) <<< (k.toInt64 &&& 63)))]))) (fun t ht => XS.iloadN X0.here hx rfl (hb hby own_d1_30) rfl ht) ?_
      refine own_step (U' := (s₁.setTop (mkF m 32 #[.val (.int p1), .val (.int k)] [(.long (p1.toInt64)), (.long ((1 : Int64) <<< (k.toInt64 &&& 63)))]))) (fun t ht => XT.i2l X0.here hx rfl (hb hby own_d1_31) rfl ht) ?_
      refine own_step (U' := (s₁.setTop (mkF m 33 #[.val (.int p1), .val (.int k)] [(.int k), (.long (p1.toInt64)), (.long ((1 : Int64) <<< (k.toInt64 &&& 63)))]))) (fun t ht => XS.iloadN X0.here hx rfl (hb hby own_d1_32) rfl ht) ?_
      refine own_step (U' := (s₁.setTop (mkF m 34 #[.val (.int p1), .val (.int k)] [(.long (k.toInt64)), (.long (p1.toInt64)), (.long ((1 : Int64) <<< (k.toInt64 &&& 63)))]))) (fun t ht => XT.i2l X0.here hx rfl (hb hby own_d1_33) rfl ht) ?_
      refine own_step (U' := (s₁.setTop (mkF m 35 #[.val (.int p1), .val (.int k)] [(.long ((p1.toInt64) + (k.toInt64))), (.long ((1 : Int64) <<< (k.toInt64 &&& 63)))]))) (fun t ht => XT.ladd X0.here hx rfl (hb hby own_d1_34) rfl ht) ?_
      refine own_step (U' := (s₁.setTop (mkF m 36 #[.val (.int p1), .val (.int k)] [(.long (1 : Int64)), (.long ((p1.toInt64) + (k.toInt64))), (.long ((1 : Int64) <<< (k.toInt64 &&& 63)))]))) (fun t ht => XT.lconstV X0.here hx rfl (1 : Int64) (hb hby own_d1_35) rfl ht) ?_
      refine own_step (U' := (s₁.setTop (mkF m 37 #[.val (.int p1), .val (.int k)] [(.long (((p1.toInt64) + (k.toInt64)) + (1 : Int64))), (.long ((1 : Int64) <<< (k.toInt64 &&& 63)))]))) (fun t ht => XT.ladd X0.here hx rfl (hb hby own_d1_36) rfl ht) ?_
      refine own_step (U' := (s₁.setTop (mkF m 38 #[.val (.int p1), .val (.int k)] [(.int (XT.cmpL ((1 : Int64) <<< (k.toInt64 &&& 63)) (((p1.toInt64) + (k.toInt64)) + (1 : Int64))))]))) (fun t ht => XT.lcmp X0.here hx rfl (hb hby own_d1_37) rfl ht) ?_
      by_cases hc38_9 : ((1 : Int64) <<< (k.toInt64 &&& 63)) < (((p1.toInt64) + (k.toInt64)) + (1 : Int64))
      ·
        refine own_step (U' := (s₁.setTop (mkF m 41 #[.val (.int p1), .val (.int k)] []))) (fun t ht => XS.ifNo X0.here hx rfl (hb hby own_d1_38) rfl (XT.ll_ge_f hc38_9) ht) ?_
        refine own_step (U' := (s₁.setTop (mkF m 44 #[.val (.int p1), .val (.int (k + (1 : Int32)))] []))) (fun t ht => XT.iincV X0.here hx rfl (1 : Int32) (hb hby own_d1_41) rfl rfl (l' := #[.val (.int p1), .val (.int (k + (1 : Int32)))]) rfl ht) ?_
        refine own_step (U' := (s₁.setTop (mkF m 27 #[.val (.int p1), .val (.int (k + (1 : Int32)))] []))) (fun t ht => XS.goto X0.here hx rfl (pc0 := 44) (pc' := 27) rfl (hb hby own_d1_44) (by decide) (by decide) ht) ?_
        exact ih _ (own_inv_step hk hc38_9)
      ·
        refine own_step (U' := (s₁.setTop (mkF m 47 #[.val (.int p1), .val (.int k)] []))) (fun t ht => XS.ifYes X0.here hx rfl (pc0 := 38) (pc' := 47) rfl (hb hby own_d1_38) rfl (XT.ll_ge_t hc38_9) (by decide) (by decide) ht) ?_
        obtain ⟨T10, h10, X10, e10, E10, A10, D10, -, st10⟩ := newO X0 hx hZ hown (hw _ (List.mem_of_getElem? (i := 7) rfl)) (hw _ (List.mem_of_getElem? (i := 8) rfl)) (hw _ (List.mem_of_getElem? (i := 4) rfl)) e0 (g := (mkF m 47 #[.val (.int p1), .val (.int k)] [])) rfl (hb hby own_d1_47) (by decide) (by decide)
        obtain ⟨b10, g10⟩ : ∃ z, z = (h0).size := ⟨_, rfl⟩
        rw [← g10] at A10 D10 st10
        have g_b10 : n0 ≤ b10 := Nat.le_trans (Nat.le_trans Z0 K0.1) (Nat.le_of_eq g10.symm)
        have sz_b10 : h0.size ≤ b10 := Nat.le_trans K0.1 (Nat.le_of_eq g10.symm)
        have f10_0 : Sta Z h10 "com/example/bitmend/bitmend/code/Layout" "POSITIONAL" "Lcom/example/bitmend/bitmend/code/Layout;" (.ref l1) := S1.ext E10
        have K10 : Keep h0 h10 [] := K0.ext E10
        have F10_19 : Fld Z h10 b10 "com/example/bitmend/bitmend/code/HammingCode" "dataBits" "I" (.int (0 : Int32)) := D10 (Or.inr (hw _ (List.mem_of_getElem? (i := 19) rfl))) (ty := .int) (by decide)
        have F10_21 : Fld Z h10 b10 "com/example/bitmend/bitmend/code/HammingCode" "checkBits" "I" (.int (0 : Int32)) := D10 (Or.inr (hw _ (List.mem_of_getElem? (i := 21) rfl))) (ty := .int) (by decide)
        have F10_23 : Fld Z h10 b10 "com/example/bitmend/bitmend/code/HammingCode" "extended" "Z" (.int (0 : Int32)) := D10 (Or.inr (hw _ (List.mem_of_getElem? (i := 23) rfl))) (ty := .boolean) (by decide)
        have F10_25 : Fld Z h10 b10 "com/example/bitmend/bitmend/code/HammingCode" "layout" "Lcom/example/bitmend/bitmend/code/Layout;" .null := D10 (Or.inr (hw _ (List.mem_of_getElem? (i := 25) rfl))) (ty := (.object "com/example/bitmend/bitmend/code/Layout")) (by decide)
        refine own_step (U' := (T10.setTop (mkF m 50 #[.val (.int p1), .val (.int k)] [(.ref b10)]))) (fun t ht => st10 _ ht) ?_
        refine own_step (U' := (T10.setTop (mkF m 51 #[.val (.int p1), .val (.int k)] [(.ref b10), (.ref b10)]))) (fun t ht => XS.dup X10.here hx rfl (hb hby own_d1_50) rfl rfl ht) ?_
        refine own_step (U' := (T10.setTop (mkF m 52 #[.val (.int p1), .val (.int k)] [(.int p1), (.ref b10), (.ref b10)]))) (fun t ht => XS.iloadN X10.here hx rfl (hb hby own_d1_51) rfl ht) ?_
        refine own_step (U' := (T10.setTop (mkF m 53 #[.val (.int p1), .val (.int k)] [(.int k), (.int p1), (.ref b10), (.ref b10)]))) (fun t ht => XS.iloadN X10.here hx rfl (hb hby own_d1_52) rfl ht) ?_
        refine own_step (U' := (T10.setTop (mkF m 54 #[.val (.int p1), .val (.int k)] [(.int (0 : Int32)), (.int k), (.int p1), (.ref b10), (.ref b10)]))) (fun t ht => XS.iconst X10.here hx rfl (hb hby own_d1_53) ht) ?_
        obtain ⟨T11, X11, e11, st11⟩ := getS2 X10 hx hZ hown (host := "") (Or.inl (hw _ (List.mem_of_getElem? (i := 9) rfl))) Via.refl e10 f10_0 (g := (mkF m 54 #[.val (.int p1), .val (.int k)] [(.int (0 : Int32)), (.int k), (.int p1), (.ref b10), (.ref b10)])) rfl (hb hby own_d1_54)
        refine own_step (U' := (T11.setTop (mkF m 57 #[.val (.int p1), .val (.int k)] [(.ref l1), (.int (0 : Int32)), (.int k), (.int p1), (.ref b10), (.ref b10)]))) (fun t ht => st11 _ ht) ?_
        obtain ⟨_, _, ⟨T12, L12, k12, n12⟩, -, X12, ⟨Lc12, hQ12, l12, y12, z12⟩, st12⟩ := X11.specialBack hx (y := (⟨"com/example/bitmend/bitmend/code/HammingCode", "<init>", "(IIZLcom/example/bitmend/bitmend/code/Layout;)V"⟩ : MethodName)) rfl hown (mvT hZ (hw _ (List.mem_of_getElem? (i := 12) rfl))) (mvT hZ (hw _ (List.mem_of_getElem? (i := 13) rfl))) (mvT hZ (hw _ (List.mem_of_getElem? (i := 14) rfl))) (by decide) (backOf (W := 1) (own_m_hci l Z a0 hw [] (b10) (p1) (k) ((0 : Int32)) (l1) ((.int (0 : Int32))) ((.int (0 : Int32))) ((.int (0 : Int32))) (.null) h10 n0 (Nat.le_trans Z0 K10.1) g_b10 F10_19 F10_21 F10_23 F10_25 A10) hZ (hw _ (List.mem_of_getElem? (i := 14) rfl)) (hw _ (List.mem_of_getElem? (i := 4) rfl)) (by decide) (by decide)) (g := (mkF m 57 #[.val (.int p1), .val (.int k)] [(.ref l1), (.int (0 : Int32)), (.int k), (.int p1), (.ref b10), (.ref b10)])) rfl (by rw [hml]; rfl) (Steps.refl _) (a := b10) (argsL := [(.int p1), (.int k), (.int (0 : Int32)), (.ref l1)]) (rest := [(.ref b10)]) (lenOf own_pd0 rfl) rfl (by show 2 * 0 + _ ≤ _; exact Nat.le_of_eq rfl) (hb hby own_d1_57) (fun _ _ => ⟨rfl, e11, (by decide : 1 + 0 ≤ _), (by decide : 6 + 0 ≤ _)⟩)
        dsimp only [Pt.U, Pt.locs, Pt.cells, Pt.slots] at X12 l12 y12 z12 st12 hQ12
        subst l12 y12 z12
        obtain ⟨rfl, Nq12, Kq12, Fq12_0, Fq12_1, Fq12_2, Fq12_3, Fq12_4⟩ := hQ12
        have N12 := Fr.app N0 Nq12
        have f12_0 : Sta Z T12.heap "com/example/bitmend/bitmend/code/Layout" "POSITIONAL" "Lcom/example/bitmend/bitmend/code/Layout;" (.ref l1) := own_sta_keep f10_0 Kq12 (own_plE A10 own_pl0)
        have f12_1 : Exa Z T12.heap b10 "com/example/bitmend/bitmend/code/HammingCode" := A10.keep Kq12
        have K12 : Keep h0 T12.heap [] := K10.trans Kq12 (allS (Or.inr sz_b10) all0)
        refine own_step (U' := (T12.setTop (mkF m 60 #[.val (.int p1), .val (.int k)] [(.ref b10)]))) (fun t ht => st12.trans ht) ?_
        refine own_ret X12 (v := (some (.ref b10))) (fun h => by rw [Bd.returns] at h; cases h) Bd.notSynchronized (by decide) (by decide) ?_ (fun fs hr => retOut X12 hx Bd.returns (own_narR rfl) (Or.inr (Or.inr (Or.inr (Or.inr ⟨rfl, rfl, rfl⟩)))) (hb hby own_d1_60) hr)
        show own_Q_fdb Z p1 l1 h0 n0 _ T12.heap _
        show own_Q_fdb Z p1 l1 h0 n0 _ T12.heap _
        exact ⟨b10, k, rfl, N12, K12, sz_b10, (own_inv_exit hk hc38_9), Fq12_0, Fq12_1, Fq12_2, Fq12_3, Fq12_4⟩
  exact loop 29 _ (own_inv_start hm1 hm2)
theorem own_d4_0 : decode prog_9_method_13_code 0 = .ok (.aload_n 0, 1) := by decide +kernel
theorem own_d4_1 : decode prog_9_method_13_code 1 = .ok (.getfield 17, 3) := by decide +kernel
theorem own_d4_4 : decode prog_9_method_13_code 4 = .ok (.ireturn, 1) := by decide +kernel
def own_Q_cbc (Z : State) (a1 : Addr) (c1 : Int32) (h0 : Heap) (n0 : Nat) (v : Option Value) (h : Heap) (L : List Loc) : Prop := v = some (.int c1) ∧ Fr n0 L ∧ h = h0
set_option maxRecDepth 65536 in
set_option maxHeartbeats 40000000 in
theorem own_m_cbc (l : Launch) (Z : State) (a0 : Array Value) (hw : ∀ d ∈ tables_1, d.before a0 Z = true) (ws : List Jvm.Cond) (a1 : Addr) (c1 : Int32) (h0 : Heap) (n0 : Nat) (Z0 : n0 ≤ h0.size) (F1 : Fld Z h0 a1 "com/example/bitmend/bitmend/code/HammingCode" "checkBits" "I" (.int c1)) :
    MetFree l (⟨"com/example/bitmend/bitmend/code/HammingCode", "checkBitCount", "()I"⟩ : MethodName) (head1 (Jvm.Cond.code (⟨"com/example/bitmend/bitmend/code/HammingCode", "checkBitCount", "()I"⟩ : MethodName) prog_9_method_13_code 1 (some .int) :: ws) ({ frames := 0, cells := 0, slots := 0, locals := 0 } : Room)) (fun a U => a = #[(.ref a1)] ∧ Z.Warmed39 U.vm ∧ U.heap = h0) (fun _ _ _ _ _ => True) (fun _ U o U' => ∃ v L, o = .returned v ∧ own_Q_cbc Z a1 c1 h0 n0 v U'.heap L ∧ FrameEnd U o U' L ({ frames := 0, cells := 0, slots := 0, locals := 0 } : Room).cells ({ frames := 0, cells := 0, slots := 0, locals := 0 } : Room).slots) := by
  refine MetFree.of_bodySF (plainFor_of_name own_pn0) hisR ?_
  intro p e s m args below meth c s₁ Bd hml0 hP hK
  obtain ⟨rfl, hZ, hh⟩ := hP
  have hx := Bd.exec
  have hby := Bd.bytes
  have hml : c.maxLocals = 1 := hml0
  have hown : s.vm.findClass "com/example/bitmend/bitmend/code/HammingCode" = some m.cls := findClass_of_methodNamed Bd.named
  have hnm := (name_of_methodNamed Bd.named Bd.method).1
  have X0 : Stand p l e ({ frames := 0, cells := 0, slots := 0, locals := 0 } : Room) s m #[(.ref a1)] below meth c s₁ [] 0 0 := Stand.of_body Bd
  have e0 : s₁.heap = h0 := by rw [← hh, Bd.state]; rfl
  have N0 := Fr.nil n0
  have K0 : Keep h0 h0 [] := Keep.refl _ _
  show own_Go p e below s ({ frames := 0, cells := 0, slots := 0, locals := 0 } : Room).cells ({ frames := 0, cells := 0, slots := 0, locals := 0 } : Room).slots (own_Q_cbc Z a1 c1 h0 n0) (s₁.setTop (entryFrame m #[(.ref a1)] 1))
  have ef : entryFrame m #[(.ref a1)] 1 = (mkF m 0 #[.val (.ref a1)] []) := by first | rfl | (simp [entryFrame, mkF, argsToLocals, Value.category, maxLocals]; done)
  rw [ef]
  show own_Go p e below s _ _ _ (s₁.setTop (mkF m 0 #[.val (.ref a1)] []))
  refine own_step (U' := (s₁.setTop (mkF m 1 #[.val (.ref a1)] [(.ref a1)]))) (fun t ht => XS.aloadN X0.here hx rfl (hb hby own_d4_0) rfl rfl ht) ?_
  obtain ⟨T13, X13, e13, st13⟩ := getF X0 hx hZ hown (host := "") (Or.inl (hw _ (List.mem_of_getElem? (i := 20) rfl))) Via.refl e0 F1 (g := (mkF m 1 #[.val (.ref a1)] [(.ref a1)])) rfl rfl (hb hby own_d4_1)
  refine own_step (U' := (T13.setTop (mkF m 4 #[.val (.ref a1)] [(.int c1)]))) (fun t ht => st13 _ ht) ?_
  refine own_ret X13 (v := (some (.int c1))) (fun h => by rw [Bd.returns] at h; cases h) Bd.notSynchronized (by decide) (by decide) ?_ (fun fs hr => retI X13 hx Bd.returns (hb hby own_d4_4) hr)
  show own_Q_cbc Z a1 c1 h0 n0 _ T13.heap _
  rw [e13]
  exact ⟨rfl, N0, rfl⟩
theorem own_d5_0 : decode prog_9_method_12_code 0 = .ok (.aload_n 0, 1) := by decide +kernel
theorem own_d5_1 : decode prog_9_method_12_code 1 = .ok (.getfield 11, 3) := by decide +kernel
theorem own_d5_4 : decode prog_9_method_12_code 4 = .ok (.ireturn, 1) := by decide +kernel
def own_Q_dbc (Z : State) (a1 : Addr) (c1 : Int32) (h0 : Heap) (n0 : Nat) (v : Option Value) (h : Heap) (L : List Loc) : Prop := v = some (.int c1) ∧ Fr n0 L ∧ h = h0
set_option maxRecDepth 65536 in
set_option maxHeartbeats 40000000 in
theorem own_m_dbc (l : Launch) (Z : State) (a0 : Array Value) (hw : ∀ d ∈ tables_1, d.before a0 Z = true) (ws : List Jvm.Cond) (a1 : Addr) (c1 : Int32) (h0 : Heap) (n0 : Nat) (Z0 : n0 ≤ h0.size) (F1 : Fld Z h0 a1 "com/example/bitmend/bitmend/code/HammingCode" "dataBits" "I" (.int c1)) :
    MetFree l (⟨"com/example/bitmend/bitmend/code/HammingCode", "dataBitCount", "()I"⟩ : MethodName) (head1 (Jvm.Cond.code (⟨"com/example/bitmend/bitmend/code/HammingCode", "dataBitCount", "()I"⟩ : MethodName) prog_9_method_12_code 1 (some .int) :: ws) ({ frames := 0, cells := 0, slots := 0, locals := 0 } : Room)) (fun a U => a = #[(.ref a1)] ∧ Z.Warmed39 U.vm ∧ U.heap = h0) (fun _ _ _ _ _ => True) (fun _ U o U' => ∃ v L, o = .returned v ∧ own_Q_dbc Z a1 c1 h0 n0 v U'.heap L ∧ FrameEnd U o U' L ({ frames := 0, cells := 0, slots := 0, locals := 0 } : Room).cells ({ frames := 0, cells := 0, slots := 0, locals := 0 } : Room).slots) := by
  refine MetFree.of_bodySF (plainFor_of_name own_pn0) hisR ?_
  intro p e s m args below meth c s₁ Bd hml0 hP hK
  obtain ⟨rfl, hZ, hh⟩ := hP
  have hx := Bd.exec
  have hby := Bd.bytes
  have hml : c.maxLocals = 1 := hml0
  have hown : s.vm.findClass "com/example/bitmend/bitmend/code/HammingCode" = some m.cls := findClass_of_methodNamed Bd.named
  have hnm := (name_of_methodNamed Bd.named Bd.method).1
  have X0 : Stand p l e ({ frames := 0, cells := 0, slots := 0, locals := 0 } : Room) s m #[(.ref a1)] below meth c s₁ [] 0 0 := Stand.of_body Bd
  have e0 : s₁.heap = h0 := by rw [← hh, Bd.state]; rfl
  have N0 := Fr.nil n0
  have K0 : Keep h0 h0 [] := Keep.refl _ _
  show own_Go p e below s ({ frames := 0, cells := 0, slots := 0, locals := 0 } : Room).cells ({ frames := 0, cells := 0, slots := 0, locals := 0 } : Room).slots (own_Q_dbc Z a1 c1 h0 n0) (s₁.setTop (entryFrame m #[(.ref a1)] 1))
  have ef : entryFrame m #[(.ref a1)] 1 = (mkF m 0 #[.val (.ref a1)] []) := by first | rfl | (simp [entryFrame, mkF, argsToLocals, Value.category, maxLocals]; done)
  rw [ef]
  show own_Go p e below s _ _ _ (s₁.setTop (mkF m 0 #[.val (.ref a1)] []))
  refine own_step (U' := (s₁.setTop (mkF m 1 #[.val (.ref a1)] [(.ref a1)]))) (fun t ht => XS.aloadN X0.here hx rfl (hb hby own_d5_0) rfl rfl ht) ?_
  obtain ⟨T14, X14, e14, st14⟩ := getF X0 hx hZ hown (host := "") (Or.inl (hw _ (List.mem_of_getElem? (i := 18) rfl))) Via.refl e0 F1 (g := (mkF m 1 #[.val (.ref a1)] [(.ref a1)])) rfl rfl (hb hby own_d5_1)
  refine own_step (U' := (T14.setTop (mkF m 4 #[.val (.ref a1)] [(.int c1)]))) (fun t ht => st14 _ ht) ?_
  refine own_ret X14 (v := (some (.int c1))) (fun h => by rw [Bd.returns] at h; cases h) Bd.notSynchronized (by decide) (by decide) ?_ (fun fs hr => retI X14 hx Bd.returns (hb hby own_d5_4) hr)
  show own_Q_dbc Z a1 c1 h0 n0 _ T14.heap _
  rw [e14]
  exact ⟨rfl, N0, rfl⟩
theorem own_d6_0 : decode prog_9_method_11_code 0 = .ok (.aload_n 0, 1) := by decide +kernel
theorem own_d6_1 : decode prog_9_method_11_code 1 = .ok (.getfield 20, 3) := by decide +kernel
theorem own_d6_4 : decode prog_9_method_11_code 4 = .ok (.ireturn, 1) := by decide +kernel
def own_Q_ext (Z : State) (a1 : Addr) (c1 : Int32) (h0 : Heap) (n0 : Nat) (v : Option Value) (h : Heap) (L : List Loc) : Prop := v = some (.int (nar .boolean c1)) ∧ Fr n0 L ∧ h = h0
set_option maxRecDepth 65536 in
set_option maxHeartbeats 40000000 in
theorem own_m_ext (l : Launch) (Z : State) (a0 : Array Value) (hw : ∀ d ∈ tables_1, d.before a0 Z = true) (ws : List Jvm.Cond) (a1 : Addr) (c1 : Int32) (h0 : Heap) (n0 : Nat) (Z0 : n0 ≤ h0.size) (F1 : Fld Z h0 a1 "com/example/bitmend/bitmend/code/HammingCode" "extended" "Z" (.int c1)) :
    MetFree l (⟨"com/example/bitmend/bitmend/code/HammingCode", "isExtended", "()Z"⟩ : MethodName) (head1 (Jvm.Cond.code (⟨"com/example/bitmend/bitmend/code/HammingCode", "isExtended", "()Z"⟩ : MethodName) prog_9_method_11_code 1 (some .boolean) :: ws) ({ frames := 0, cells := 0, slots := 0, locals := 0 } : Room)) (fun a U => a = #[(.ref a1)] ∧ Z.Warmed39 U.vm ∧ U.heap = h0) (fun _ _ _ _ _ => True) (fun _ U o U' => ∃ v L, o = .returned v ∧ own_Q_ext Z a1 c1 h0 n0 v U'.heap L ∧ FrameEnd U o U' L ({ frames := 0, cells := 0, slots := 0, locals := 0 } : Room).cells ({ frames := 0, cells := 0, slots := 0, locals := 0 } : Room).slots) := by
  refine MetFree.of_bodySF (plainFor_of_name own_pn0) hisR ?_
  intro p e s m args below meth c s₁ Bd hml0 hP hK
  obtain ⟨rfl, hZ, hh⟩ := hP
  have hx := Bd.exec
  have hby := Bd.bytes
  have hml : c.maxLocals = 1 := hml0
  have hown : s.vm.findClass "com/example/bitmend/bitmend/code/HammingCode" = some m.cls := findClass_of_methodNamed Bd.named
  have hnm := (name_of_methodNamed Bd.named Bd.method).1
  have X0 : Stand p l e ({ frames := 0, cells := 0, slots := 0, locals := 0 } : Room) s m #[(.ref a1)] below meth c s₁ [] 0 0 := Stand.of_body Bd
  have e0 : s₁.heap = h0 := by rw [← hh, Bd.state]; rfl
  have N0 := Fr.nil n0
  have K0 : Keep h0 h0 [] := Keep.refl _ _
  show own_Go p e below s ({ frames := 0, cells := 0, slots := 0, locals := 0 } : Room).cells ({ frames := 0, cells := 0, slots := 0, locals := 0 } : Room).slots (own_Q_ext Z a1 c1 h0 n0) (s₁.setTop (entryFrame m #[(.ref a1)] 1))
  have ef : entryFrame m #[(.ref a1)] 1 = (mkF m 0 #[.val (.ref a1)] []) := by first | rfl | (simp [entryFrame, mkF, argsToLocals, Value.category, maxLocals]; done)
  rw [ef]
  show own_Go p e below s _ _ _ (s₁.setTop (mkF m 0 #[.val (.ref a1)] []))
  refine own_step (U' := (s₁.setTop (mkF m 1 #[.val (.ref a1)] [(.ref a1)]))) (fun t ht => XS.aloadN X0.here hx rfl (hb hby own_d6_0) rfl rfl ht) ?_
  obtain ⟨T15, X15, e15, st15⟩ := getF X0 hx hZ hown (host := "") (Or.inl (hw _ (List.mem_of_getElem? (i := 22) rfl))) Via.refl e0 F1 (g := (mkF m 1 #[.val (.ref a1)] [(.ref a1)])) rfl rfl (hb hby own_d6_1)
  refine own_step (U' := (T15.setTop (mkF m 4 #[.val (.ref a1)] [(.int c1)]))) (fun t ht => st15 _ ht) ?_
  refine own_ret X15 (v := (some (.int (nar .boolean c1)))) (fun h => by rw [Bd.returns] at h; cases h) Bd.notSynchronized (by decide) (by decide) ?_ (fun fs hr => retN X15 hx (t := .boolean) Bd.returns (by simp) (hb hby own_d6_4) hr)
  show own_Q_ext Z a1 c1 h0 n0 _ T15.heap _
  rw [e15]
  exact ⟨rfl, N0, rfl⟩
theorem own_d7_0 : decode prog_9_method_10_code 0 = .ok (.aload_n 0, 1) := by decide +kernel
theorem own_d7_1 : decode prog_9_method_10_code 1 = .ok (.getfield 24, 3) := by decide +kernel
theorem own_d7_4 : decode prog_9_method_10_code 4 = .ok (.areturn, 1) := by decide +kernel
def own_Q_lay (Z : State) (a1 : Addr) (c1 : Addr) (h0 : Heap) (n0 : Nat) (v : Option Value) (h : Heap) (L : List Loc) : Prop := v = some (.ref c1) ∧ Fr n0 L ∧ h = h0
set_option maxRecDepth 65536 in
set_option maxHeartbeats 40000000 in
theorem own_m_lay (l : Launch) (Z : State) (a0 : Array Value) (hw : ∀ d ∈ tables_1, d.before a0 Z = true) (ws : List Jvm.Cond) (a1 : Addr) (c1 : Addr) (h0 : Heap) (n0 : Nat) (Z0 : n0 ≤ h0.size) (F1 : Fld Z h0 a1 "com/example/bitmend/bitmend/code/HammingCode" "layout" "Lcom/example/bitmend/bitmend/code/Layout;" (.ref c1)) :
    MetFree l (⟨"com/example/bitmend/bitmend/code/HammingCode", "layout", "()Lcom/example/bitmend/bitmend/code/Layout;"⟩ : MethodName) (head1 (Jvm.Cond.code (⟨"com/example/bitmend/bitmend/code/HammingCode", "layout", "()Lcom/example/bitmend/bitmend/code/Layout;"⟩ : MethodName) prog_9_method_10_code 1 (some (.object "com/example/bitmend/bitmend/code/Layout")) :: ws) ({ frames := 0, cells := 0, slots := 0, locals := 0 } : Room)) (fun a U => a = #[(.ref a1)] ∧ Z.Warmed39 U.vm ∧ U.heap = h0) (fun _ _ _ _ _ => True) (fun _ U o U' => ∃ v L, o = .returned v ∧ own_Q_lay Z a1 c1 h0 n0 v U'.heap L ∧ FrameEnd U o U' L ({ frames := 0, cells := 0, slots := 0, locals := 0 } : Room).cells ({ frames := 0, cells := 0, slots := 0, locals := 0 } : Room).slots) := by
  refine MetFree.of_bodySF (plainFor_of_name own_pn0) hisR ?_
  intro p e s m args below meth c s₁ Bd hml0 hP hK
  obtain ⟨rfl, hZ, hh⟩ := hP
  have hx := Bd.exec
  have hby := Bd.bytes
  have hml : c.maxLocals = 1 := hml0
  have hown : s.vm.findClass "com/example/bitmend/bitmend/code/HammingCode" = some m.cls := findClass_of_methodNamed Bd.named
  have hnm := (name_of_methodNamed Bd.named Bd.method).1
  have X0 : Stand p l e ({ frames := 0, cells := 0, slots := 0, locals := 0 } : Room) s m #[(.ref a1)] below meth c s₁ [] 0 0 := Stand.of_body Bd
  have e0 : s₁.heap = h0 := by rw [← hh, Bd.state]; rfl
  have N0 := Fr.nil n0
  have K0 : Keep h0 h0 [] := Keep.refl _ _
  show own_Go p e below s ({ frames := 0, cells := 0, slots := 0, locals := 0 } : Room).cells ({ frames := 0, cells := 0, slots := 0, locals := 0 } : Room).slots (own_Q_lay Z a1 c1 h0 n0) (s₁.setTop (entryFrame m #[(.ref a1)] 1))
  have ef : entryFrame m #[(.ref a1)] 1 = (mkF m 0 #[.val (.ref a1)] []) := by first | rfl | (simp [entryFrame, mkF, argsToLocals, Value.category, maxLocals]; done)
  rw [ef]
  show own_Go p e below s _ _ _ (s₁.setTop (mkF m 0 #[.val (.ref a1)] []))
  refine own_step (U' := (s₁.setTop (mkF m 1 #[.val (.ref a1)] [(.ref a1)]))) (fun t ht => XS.aloadN X0.here hx rfl (hb hby own_d7_0) rfl rfl ht) ?_
  obtain ⟨T16, X16, e16, st16⟩ := getF X0 hx hZ hown (host := "") (Or.inl (hw _ (List.mem_of_getElem? (i := 24) rfl))) Via.refl e0 F1 (g := (mkF m 1 #[.val (.ref a1)] [(.ref a1)])) rfl rfl (hb hby own_d7_1)
  refine own_step (U' := (T16.setTop (mkF m 4 #[.val (.ref a1)] [(.ref c1)]))) (fun t ht => st16 _ ht) ?_
  refine own_ret X16 (v := (some (.ref c1))) (fun h => by rw [Bd.returns] at h; cases h) Bd.notSynchronized (by decide) (by decide) ?_ (fun fs hr => retOut X16 hx Bd.returns (own_narR rfl) (Or.inr (Or.inr (Or.inr (Or.inr ⟨rfl, rfl, rfl⟩)))) (hb hby own_d7_4) hr)
  show own_Q_lay Z a1 c1 h0 n0 _ T16.heap _
  rw [e16]
  exact ⟨rfl, N0, rfl⟩
theorem own_d8_0 : decode prog_9_method_15_code 0 = .ok (.aload_n 0, 1) := by decide +kernel
theorem own_d8_1 : decode prog_9_method_15_code 1 = .ok (.getfield 11, 3) := by decide +kernel
theorem own_d8_4 : decode prog_9_method_15_code 4 = .ok (.aload_n 0, 1) := by decide +kernel
theorem own_d8_5 : decode prog_9_method_15_code 5 = .ok (.getfield 17, 3) := by decide +kernel
theorem own_d8_8 : decode prog_9_method_15_code 8 = .ok (.iadd, 1) := by decide +kernel
theorem own_d8_9 : decode prog_9_method_15_code 9 = .ok (.ireturn, 1) := by decide +kernel
def own_Q_pl (Z : State) (a1 : Addr) (c1 : Int32) (c2 : Int32) (h0 : Heap) (n0 : Nat) (v : Option Value) (h : Heap) (L : List Loc) : Prop := v = some (.int (c1 + c2)) ∧ Fr n0 L ∧ h = h0
set_option maxRecDepth 65536 in
set_option maxHeartbeats 40000000 in
theorem own_m_pl (l : Launch) (Z : State) (a0 : Array Value) (hw : ∀ d ∈ tables_1, d.before a0 Z = true) (ws : List Jvm.Cond) (a1 : Addr) (c1 : Int32) (c2 : Int32) (h0 : Heap) (n0 : Nat) (Z0 : n0 ≤ h0.size) (F1 : Fld Z h0 a1 "com/example/bitmend/bitmend/code/HammingCode" "dataBits" "I" (.int c1)) (F2 : Fld Z h0 a1 "com/example/bitmend/bitmend/code/HammingCode" "checkBits" "I" (.int c2)) :
    MetFree l (⟨"com/example/bitmend/bitmend/code/HammingCode", "positionalLength", "()I"⟩ : MethodName) (head1 (Jvm.Cond.code (⟨"com/example/bitmend/bitmend/code/HammingCode", "positionalLength", "()I"⟩ : MethodName) prog_9_method_15_code 1 (some .int) :: ws) ({ frames := 0, cells := 0, slots := 0, locals := 0 } : Room)) (fun a U => a = #[(.ref a1)] ∧ Z.Warmed39 U.vm ∧ U.heap = h0) (fun _ _ _ _ _ => True) (fun _ U o U' => ∃ v L, o = .returned v ∧ own_Q_pl Z a1 c1 c2 h0 n0 v U'.heap L ∧ FrameEnd U o U' L ({ frames := 0, cells := 0, slots := 0, locals := 0 } : Room).cells ({ frames := 0, cells := 0, slots := 0, locals := 0 } : Room).slots) := by
  refine MetFree.of_bodySF (plainFor_of_name own_pn0) hisR ?_
  intro p e s m args below meth c s₁ Bd hml0 hP hK
  obtain ⟨rfl, hZ, hh⟩ := hP
  have hx := Bd.exec
  have hby := Bd.bytes
  have hml : c.maxLocals = 1 := hml0
  have hown : s.vm.findClass "com/example/bitmend/bitmend/code/HammingCode" = some m.cls := findClass_of_methodNamed Bd.named
  have hnm := (name_of_methodNamed Bd.named Bd.method).1
  have X0 : Stand p l e ({ frames := 0, cells := 0, slots := 0, locals := 0 } : Room) s m #[(.ref a1)] below meth c s₁ [] 0 0 := Stand.of_body Bd
  have e0 : s₁.heap = h0 := by rw [← hh, Bd.state]; rfl
  have N0 := Fr.nil n0
  have K0 : Keep h0 h0 [] := Keep.refl _ _
  show own_Go p e below s ({ frames := 0, cells := 0, slots := 0, locals := 0 } : Room).cells ({ frames := 0, cells := 0, slots := 0, locals := 0 } : Room).slots (own_Q_pl Z a1 c1 c2 h0 n0) (s₁.setTop (entryFrame m #[(.ref a1)] 1))
  have ef : entryFrame m #[(.ref a1)] 1 = (mkF m 0 #[.val (.ref a1)] []) := by first | rfl | (simp [entryFrame, mkF, argsToLocals, Value.category, maxLocals]; done)
  rw [ef]
  show own_Go p e below s _ _ _ (s₁.setTop (mkF m 0 #[.val (.ref a1)] []))
  refine own_step (U' := (s₁.setTop (mkF m 1 #[.val (.ref a1)] [(.ref a1)]))) (fun t ht => XS.aloadN X0.here hx rfl (hb hby own_d8_0) rfl rfl ht) ?_
  obtain ⟨T17, X17, e17, st17⟩ := getF X0 hx hZ hown (host := "") (Or.inl (hw _ (List.mem_of_getElem? (i := 18) rfl))) Via.refl e0 F1 (g := (mkF m 1 #[.val (.ref a1)] [(.ref a1)])) rfl rfl (hb hby own_d8_1)
  refine own_step (U' := (T17.setTop (mkF m 4 #[.val (.ref a1)] [(.int c1)]))) (fun t ht => st17 _ ht) ?_
  refine own_step (U' := (T17.setTop (mkF m 5 #[.val (.ref a1)] [(.ref a1), (.int c1)]))) (fun t ht => XS.aloadN X17.here hx rfl (hb hby own_d8_4) rfl rfl ht) ?_
  obtain ⟨T18, X18, e18, st18⟩ := getF X17 hx hZ hown (host := "") (Or.inl (hw _ (List.mem_of_getElem? (i := 20) rfl))) Via.refl e17 F2 (g := (mkF m 5 #[.val (.ref a1)] [(.ref a1), (.int c1)])) rfl rfl (hb hby own_d8_5)
  refine own_step (U' := (T18.setTop (mkF m 8 #[.val (.ref a1)] [(.int c2), (.int c1)]))) (fun t ht => st18 _ ht) ?_
  refine own_step (U' := (T18.setTop (mkF m 9 #[.val (.ref a1)] [(.int (c1 + c2))]))) (fun t ht => XS.iadd X18.here hx rfl (hb hby own_d8_8) rfl ht) ?_
  refine own_ret X18 (v := (some (.int (c1 + c2)))) (fun h => by rw [Bd.returns] at h; cases h) Bd.notSynchronized (by decide) (by decide) ?_ (fun fs hr => retI X18 hx Bd.returns (hb hby own_d8_9) hr)
  show own_Q_pl Z a1 c1 c2 h0 n0 _ T18.heap _
  rw [e18]
  exact ⟨rfl, N0, rfl⟩
theorem own_pd1 : parseMethodDescriptor "()I" = some ⟨[], some .int⟩ := by decide +kernel
theorem own_d9_0 : decode prog_9_method_14_code 0 = .ok (.aload_n 0, 1) := by decide +kernel
theorem own_d9_1 : decode prog_9_method_14_code 1 = .ok (.getfield 20, 3) := by decide +kernel
theorem own_d9_4 : decode prog_9_method_14_code 4 = .ok (.ifCond .eq 12, 3) := by decide +kernel
theorem own_d9_16 : decode prog_9_method_14_code 16 = .ok (.aload_n 0, 1) := by decide +kernel
theorem own_d9_17 : decode prog_9_method_14_code 17 = .ok (.invokevirtual 88, 3) := by decide +kernel
theorem own_d9_20 : decode prog_9_method_14_code 20 = .ok (.ireturn, 1) := by decide +kernel
def own_Q_len (Z : State) (a1 : Addr) (c1 : Int32) (c2 : Int32) (c3 : Int32) (h0 : Heap) (n0 : Nat) (v : Option Value) (h : Heap) (L : List Loc) : Prop := v = some (.int (c1 + c2)) ∧ Fr n0 L ∧ h = h0
set_option maxRecDepth 65536 in
set_option maxHeartbeats 40000000 in
theorem own_m_len (l : Launch) (Z : State) (a0 : Array Value) (hw : ∀ d ∈ tables_1, d.before a0 Z = true) (ws : List Jvm.Cond) (a1 : Addr) (c1 : Int32) (c2 : Int32) (c3 : Int32) (h0 : Heap) (n0 : Nat) (Z0 : n0 ≤ h0.size) (F1 : Fld Z h0 a1 "com/example/bitmend/bitmend/code/HammingCode" "dataBits" "I" (.int c1)) (F2 : Fld Z h0 a1 "com/example/bitmend/bitmend/code/HammingCode" "checkBits" "I" (.int c2)) (F3 : Fld Z h0 a1 "com/example/bitmend/bitmend/code/HammingCode" "extended" "Z" (.int c3)) (E1 : Exa Z h0 a1 "com/example/bitmend/bitmend/code/HammingCode") (hc3 : c3 = 0) :
    MetFree l (⟨"com/example/bitmend/bitmend/code/HammingCode", "length", "()I"⟩ : MethodName) (head1 (Jvm.Cond.code (⟨"com/example/bitmend/bitmend/code/HammingCode", "length", "()I"⟩ : MethodName) prog_9_method_14_code 1 (some .int) :: ws) ({ frames := 1, cells := 0, slots := 0, locals := 12 } : Room)) (fun a U => a = #[(.ref a1)] ∧ Z.Warmed39 U.vm ∧ U.heap = h0) (fun _ _ _ _ _ => True) (fun _ U o U' => ∃ v L, o = .returned v ∧ own_Q_len Z a1 c1 c2 c3 h0 n0 v U'.heap L ∧ FrameEnd U o U' L ({ frames := 1, cells := 0, slots := 0, locals := 12 } : Room).cells ({ frames := 1, cells := 0, slots := 0, locals := 12 } : Room).slots) := by
  refine MetFree.of_bodySF (plainFor_of_name own_pn0) hisR ?_
  intro p e s m args below meth c s₁ Bd hml0 hP hK
  obtain ⟨rfl, hZ, hh⟩ := hP
  have hx := Bd.exec
  have hby := Bd.bytes
  have hml : c.maxLocals = 1 := hml0
  have hown : s.vm.findClass "com/example/bitmend/bitmend/code/HammingCode" = some m.cls := findClass_of_methodNamed Bd.named
  have hnm := (name_of_methodNamed Bd.named Bd.method).1
  have X0 : Stand p l e ({ frames := 1, cells := 0, slots := 0, locals := 12 } : Room) s m #[(.ref a1)] below meth c s₁ [] 0 0 := Stand.of_body Bd
  have e0 : s₁.heap = h0 := by rw [← hh, Bd.state]; rfl
  have N0 := Fr.nil n0
  have K0 : Keep h0 h0 [] := Keep.refl _ _
  show own_Go p e below s ({ frames := 1, cells := 0, slots := 0, locals := 12 } : Room).cells ({ frames := 1, cells := 0, slots := 0, locals := 12 } : Room).slots (own_Q_len Z a1 c1 c2 c3 h0 n0) (s₁.setTop (entryFrame m #[(.ref a1)] 1))
  have ef : entryFrame m #[(.ref a1)] 1 = (mkF m 0 #[.val (.ref a1)] []) := by first | rfl | (simp [entryFrame, mkF, argsToLocals, Value.category, maxLocals]; done)
  rw [ef]
  show own_Go p e below s _ _ _ (s₁.setTop (mkF m 0 #[.val (.ref a1)] []))
  refine own_step (U' := (s₁.setTop (mkF m 1 #[.val (.ref a1)] [(.ref a1)]))) (fun t ht => XS.aloadN X0.here hx rfl (hb hby own_d9_0) rfl rfl ht) ?_
  obtain ⟨T19, X19, e19, st19⟩ := getF X0 hx hZ hown (host := "") (Or.inl (hw _ (List.mem_of_getElem? (i := 22) rfl))) Via.refl e0 F3 (g := (mkF m 1 #[.val (.ref a1)] [(.ref a1)])) rfl rfl (hb hby own_d9_1)
  refine own_step (U' := (T19.setTop (mkF m 4 #[.val (.ref a1)] [(.int c3)]))) (fun t ht => st19 _ ht) ?_
  refine own_step (U' := (T19.setTop (mkF m 16 #[.val (.ref a1)] []))) (fun t ht => XS.ifYes X19.here hx rfl (pc0 := 4) (pc' := 16) rfl (hb hby own_d9_4) rfl (XT.i0_eq_t (hc3 : c3 = 0)) (by decide) (by decide) ht) ?_
  refine own_step (U' := (T19.setTop (mkF m 17 #[.val (.ref a1)] [(.ref a1)]))) (fun t ht => XS.aloadN X19.here hx rfl (hb hby own_d9_16) rfl rfl ht) ?_
  obtain ⟨cq20, kq20, q20a, q20b, q20c⟩ := isOf hZ e19 E1
  obtain ⟨_, _, ⟨T20, L20, k20, n20⟩, -, X20, ⟨Lc20, hQ20, l20, y20, z20⟩, st20⟩ := X19.virtualBack hx (y := (⟨"com/example/bitmend/bitmend/code/HammingCode", "positionalLength", "()I"⟩ : MethodName)) (z := (⟨"com/example/bitmend/bitmend/code/HammingCode", "positionalLength", "()I"⟩ : MethodName)) hown (mvT hZ (hw _ (List.mem_of_getElem? (i := 57) rfl))) (mvT hZ (hw _ (List.mem_of_getElem? (i := 48) rfl))) (notFace_of_selects (args := #[]) (mvT hZ (hw _ (List.mem_of_getElem? (i := 50) rfl)))) (mvT hZ (hw _ (List.mem_of_getElem? (i := 50) rfl))) (mvT hZ (hw _ (List.mem_of_getElem? (i := 49) rfl))) (by decide) (backOf (W := 0) (own_m_pl l Z a0 hw [] (a1) (c1) (c2) h0 n0 Z0 F1 F2) hZ (hw _ (List.mem_of_getElem? (i := 51) rfl)) (hw _ (List.mem_of_getElem? (i := 4) rfl)) (by decide) (by decide)) q20a q20c (g := (mkF m 17 #[.val (.ref a1)] [(.ref a1)])) rfl (by rw [hml]; rfl) (Steps.refl _) (argsL := []) (rest := []) (lenOf own_pd1 rfl) rfl (by show 2 * 0 + _ ≤ _; exact Nat.le_of_eq rfl) (hb hby own_d9_17) (fun _ _ => ⟨rfl, e19, (by decide : 0 + 0 ≤ _), (by decide : 0 + 0 ≤ _)⟩)
  dsimp only [Pt.U, Pt.locs, Pt.cells, Pt.slots] at X20 l20 y20 z20 st20 hQ20
  subst l20 y20 z20
  obtain ⟨rfl, Nq20, Kq20⟩ := hQ20
  have N20 := Fr.app N0 Nq20
  have e20 : T20.heap = h0 := Kq20
  refine own_step (U' := (T20.setTop (mkF m 20 #[.val (.ref a1)] [(.int (c1 + c2))]))) (fun t ht => st20.trans ht) ?_
  refine own_ret X20 (v := (some (.int (c1 + c2)))) (fun h => by rw [Bd.returns] at h; cases h) Bd.notSynchronized (by decide) (by decide) ?_ (fun fs hr => retI X20 hx Bd.returns (hb hby own_d9_20) hr)
  show own_Q_len Z a1 c1 c2 c3 h0 n0 _ T20.heap _
  rw [e20]
  exact ⟨rfl, N20, rfl⟩
theorem own_pn1 : plainName "com/example/bitmend/bitmend/code/HammingCodeForDataBitsPinLaw" = true := by first | (simp [plainName, overriddenIn]; done) | decide +kernel
theorem own_pd2 : parseMethodDescriptor "(I)Lcom/example/bitmend/bitmend/code/HammingCode;" = some ⟨[.int], some (.object "com/example/bitmend/bitmend/code/HammingCode")⟩ := by decide +kernel
theorem own_pd3 : parseMethodDescriptor "()Z" = some ⟨[], some .boolean⟩ := by decide +kernel
theorem own_pd4 : parseMethodDescriptor "()Lcom/example/bitmend/bitmend/code/Layout;" = some ⟨[], some (.object "com/example/bitmend/bitmend/code/Layout")⟩ := by decide +kernel
def own_Q_law (Z : State) (p1 : Int32) (l1 : Addr) (h0 : Heap) (n0 : Nat) (v : Option Value) (h : Heap) (L : List Loc) : Prop := v = some (.int 1) ∧ Fr n0 L
set_option maxRecDepth 65536 in
set_option maxHeartbeats 40000000 in
theorem own_m_law (l : Launch) (Z : State) (a0 : Array Value) (hw : ∀ d ∈ tables_1, d.before a0 Z = true) (ws : List Jvm.Cond) (p1 : Int32) (l1 : Addr) (h0 : Heap) (n0 : Nat) (Z0 : n0 ≤ h0.size) (S1 : Sta Z h0 "com/example/bitmend/bitmend/code/Layout" "POSITIONAL" "Lcom/example/bitmend/bitmend/code/Layout;" (.ref l1)) :
    MetFree l x (head1 (Jvm.Cond.code x code maxLocals ret :: ws) room_1) (fun a U => a = #[(.int p1)] ∧ Z.Warmed39 U.vm ∧ U.heap = h0) (fun _ _ _ _ _ => True) (fun _ U o U' => ∃ v L, o = .returned v ∧ own_Q_law Z p1 l1 h0 n0 v U'.heap L ∧ FrameEnd U o U' L 1 6) := by
  refine MetFree.of_bodySF (plainFor_of_name own_pn1) hisR ?_
  intro p e s m args below meth c s₁ Bd hml0 hP hK
  obtain ⟨rfl, hZ, hh⟩ := hP
  have hx := Bd.exec
  have hby := Bd.bytes
  have hml : c.maxLocals = 10 := hml0
  have hown : s.vm.findClass "com/example/bitmend/bitmend/code/HammingCodeForDataBitsPinLaw" = some m.cls := findClass_of_methodNamed Bd.named
  have hnm := (name_of_methodNamed Bd.named Bd.method).1
  have X0 : Stand p l e room_1 s m #[(.int p1)] below meth c s₁ [] 0 0 := Stand.of_body Bd
  have e0 : s₁.heap = h0 := by rw [← hh, Bd.state]; rfl
  have N0 := Fr.nil n0
  have K0 : Keep h0 h0 [] := Keep.refl _ _
  show own_Go p e below s 1 6 (own_Q_law Z p1 l1 h0 n0) (s₁.setTop (entryFrame m #[(.int p1)] maxLocals))
  have ef : entryFrame m #[(.int p1)] maxLocals = (mkF m 0 #[.val (.int p1), .unset, .unset, .unset, .unset, .unset, .unset, .unset, .unset, .unset] []) := by first | rfl | (simp [entryFrame, mkF, argsToLocals, Value.category, maxLocals]; done)
  rw [ef]
  show own_Go p e below s _ _ _ (s₁.setTop (mkF m 0 #[.val (.int p1), .unset, .unset, .unset, .unset, .unset, .unset, .unset, .unset, .unset] []))
  refine own_step (U' := (s₁.setTop (mkF m 1 #[.val (.int p1), .unset, .unset, .unset, .unset, .unset, .unset, .unset, .unset, .unset] [(.int p1)]))) (fun t ht => XS.iloadN X0.here hx rfl (hb hby at_0) rfl ht) ?_
  refine own_step (U' := (s₁.setTop (mkF m 3 #[.val (.int p1), .unset, .unset, .unset, .unset, .unset, .unset, .unset, .unset, .unset] [(.int (2147483647 : Int32)), (.int p1)]))) (fun t ht => X0.ldcInt hx hown (mvT hZ (hw _ (List.mem_of_getElem? (i := 0) rfl))) (g := (mkF m 1 #[.val (.int p1), .unset, .unset, .unset, .unset, .unset, .unset, .unset, .unset, .unset] [(.int p1)])) rfl (hb hby at_1) _ ht) ?_
  refine own_step (U' := (s₁.setTop (mkF m 4 #[.val (.int p1), .unset, .unset, .unset, .unset, .unset, .unset, .unset, .unset, .unset] [(.int (p1 &&& (2147483647 : Int32)))]))) (fun t ht => XS.iand X0.here hx rfl (hb hby at_3) rfl ht) ?_
  refine own_step (U' := (s₁.setTop (mkF m 6 #[.val (.int p1), .unset, .unset, .unset, .unset, .unset, .unset, .unset, .unset, .unset] [(.int (2147483616 : Int32)), (.int (p1 &&& (2147483647 : Int32)))]))) (fun t ht => X0.ldcInt hx hown (mvT hZ (hw _ (List.mem_of_getElem? (i := 1) rfl))) (g := (mkF m 4 #[.val (.int p1), .unset, .unset, .unset, .unset, .unset, .unset, .unset, .unset, .unset] [(.int (p1 &&& (2147483647 : Int32)))])) rfl (hb hby at_4) _ ht) ?_
  refine own_step (U' := (s₁.setTop (mkF m 7 #[.val (.int p1), .unset, .unset, .unset, .unset, .unset, .unset, .unset, .unset, .unset] [(.int ((p1 &&& (2147483647 : Int32)) % (2147483616 : Int32)))]))) (fun t ht => iremM X0 hx rfl (hb hby at_6) rfl (by decide) ht) ?_
  refine own_step (U' := (s₁.setTop (mkF m 8 #[.val (.int p1), .unset, .unset, .unset, .unset, .unset, .unset, .unset, .unset, .unset] [(.int (1 : Int32)), (.int ((p1 &&& (2147483647 : Int32)) % (2147483616 : Int32)))]))) (fun t ht => XS.iconst X0.here hx rfl (hb hby at_7) ht) ?_
  refine own_step (U' := (s₁.setTop (mkF m 9 #[.val (.int p1), .unset, .unset, .unset, .unset, .unset, .unset, .unset, .unset, .unset] [(.int (((p1 &&& (2147483647 : Int32)) % (2147483616 : Int32)) + (1 : Int32)))]))) (fun t ht => XS.iadd X0.here hx rfl (hb hby at_8) rfl ht) ?_
  refine own_step (U' := (s₁.setTop (mkF m 10 #[.val (.int p1), .val (.int (((p1 &&& (2147483647 : Int32)) % (2147483616 : Int32)) + (1 : Int32))), .unset, .unset, .unset, .unset, .unset, .unset, .unset, .unset] []))) (fun t ht => XS.istoreN X0.here hx rfl (hb hby at_9) rfl (l' := #[.val (.int p1), .val (.int (((p1 &&& (2147483647 : Int32)) % (2147483616 : Int32)) + (1 : Int32))), .unset, .unset, .unset, .unset, .unset, .unset, .unset, .unset]) rfl ht) ?_
  generalize h_mm : (((p1 &&& (2147483647 : Int32)) % (2147483616 : Int32)) + (1 : Int32)) = mm
  refine own_step (U' := (s₁.setTop (mkF m 11 #[.val (.int p1), .val (.int mm), .unset, .unset, .unset, .unset, .unset, .unset, .unset, .unset] [(.int mm)]))) (fun t ht => XS.iloadN X0.here hx rfl (hb hby at_10) rfl ht) ?_
  obtain ⟨_, _, ⟨T21, L21, k21, n21⟩, -, X21, ⟨Lc21, hQ21, l21, y21, z21⟩, st21⟩ := Jvm.LawKit.callS X0 hx (y := (⟨"com/example/bitmend/bitmend/code/HammingCode", "forDataBits", "(I)Lcom/example/bitmend/bitmend/code/HammingCode;"⟩ : MethodName)) hown (mvT hZ (hw _ (List.mem_of_getElem? (i := 2) rfl))) (mvT hZ (hw _ (List.mem_of_getElem? (i := 3) rfl))) (mvT hZ (hw _ (List.mem_of_getElem? (i := 4) rfl))) (mvT hZ (hw _ (List.mem_of_getElem? (i := 5) rfl))) (by decide) (backOf (W := 0) (own_m_fdb l Z a0 hw [] (mm) (l1) h0 n0 Z0 S1 (own_mm h_mm).1 (own_mm h_mm).2) hZ (hw _ (List.mem_of_getElem? (i := 5) rfl)) (hw _ (List.mem_of_getElem? (i := 4) rfl)) (by decide) (by decide)) (g := (mkF m 11 #[.val (.int p1), .val (.int mm), .unset, .unset, .unset, .unset, .unset, .unset, .unset, .unset] [(.int mm)])) rfl (by rw [hml]; rfl) (argsL := [(.int mm)]) (rest := []) (lenOf own_pd2 rfl) rfl (by show 2 * 0 + _ ≤ _; exact Nat.le_of_eq rfl) (hb hby at_11) (fun _ _ => ⟨rfl, e0, (by decide : 0 + 1 ≤ _), (by decide : 0 + 6 ≤ _)⟩)
  dsimp only [Pt.U, Pt.locs, Pt.cells, Pt.slots] at X21 l21 y21 z21 st21 hQ21
  subst l21 y21 z21
  obtain ⟨r_21, k_21, rfl, Nq21, Kq21, sq_r_21, p21_0, Fq21_0, Fq21_1, Fq21_2, Fq21_3, Fq21_4⟩ := hQ21
  have N21 := Fr.app N0 Nq21
  have g_r_21 : n0 ≤ r_21 := Nat.le_trans Z0 sq_r_21
  have sz_r_21 : h0.size ≤ r_21 := Nat.le_trans K0.1 sq_r_21
  have f21_0 : Sta Z T21.heap "com/example/bitmend/bitmend/code/Layout" "POSITIONAL" "Lcom/example/bitmend/bitmend/code/Layout;" (.ref l1) := own_sta_keep S1 Kq21 own_pl0
  have K21 : Keep h0 T21.heap [] := K0.trans Kq21 all0
  refine own_step (U' := (T21.setTop (mkF m 14 #[.val (.int p1), .val (.int mm), .unset, .unset, .unset, .unset, .unset, .unset, .unset, .unset] [(.ref r_21)]))) (fun t ht => st21 _ ht) ?_
  have hok := p21_0
  refine own_step (U' := (T21.setTop (mkF m 15 #[.val (.int p1), .val (.int mm), .val (.ref r_21), .unset, .unset, .unset, .unset, .unset, .unset, .unset] []))) (fun t ht => XS.astoreN X21.here hx rfl (hb hby at_14) rfl rfl (l' := #[.val (.int p1), .val (.int mm), .val (.ref r_21), .unset, .unset, .unset, .unset, .unset, .unset, .unset]) rfl ht) ?_
  refine own_step (U' := (T21.setTop (mkF m 16 #[.val (.int p1), .val (.int mm), .val (.ref r_21), .unset, .unset, .unset, .unset, .unset, .unset, .unset] [(.ref r_21)]))) (fun t ht => XS.aloadN X21.here hx rfl (hb hby at_15) rfl rfl ht) ?_
  obtain ⟨cq22, kq22, q22a, q22b, q22c⟩ := isOf hZ rfl Fq21_4
  obtain ⟨_, _, ⟨T22, L22, k22, n22⟩, -, X22, ⟨Lc22, hQ22, l22, y22, z22⟩, st22⟩ := X21.virtualBack hx (y := (⟨"com/example/bitmend/bitmend/code/HammingCode", "checkBitCount", "()I"⟩ : MethodName)) (z := (⟨"com/example/bitmend/bitmend/code/HammingCode", "checkBitCount", "()I"⟩ : MethodName)) hown (mvT hZ (hw _ (List.mem_of_getElem? (i := 26) rfl))) (mvT hZ (hw _ (List.mem_of_getElem? (i := 27) rfl))) (notFace_of_selects (args := #[]) (mvT hZ (hw _ (List.mem_of_getElem? (i := 29) rfl)))) (mvT hZ (hw _ (List.mem_of_getElem? (i := 29) rfl))) (mvT hZ (hw _ (List.mem_of_getElem? (i := 28) rfl))) (by decide) (backOf (W := 0) (own_m_cbc l Z a0 hw [] (r_21) (k_21) T21.heap n0 (Nat.le_trans Z0 K21.1) Fq21_1) hZ (hw _ (List.mem_of_getElem? (i := 30) rfl)) (hw _ (List.mem_of_getElem? (i := 4) rfl)) (by decide) (by decide)) q22a q22c (g := (mkF m 16 #[.val (.int p1), .val (.int mm), .val (.ref r_21), .unset, .unset, .unset, .unset, .unset, .unset, .unset] [(.ref r_21)])) rfl (by rw [hml]; rfl) (Steps.refl _) (argsL := []) (rest := []) (lenOf own_pd1 rfl) rfl (by show 2 * 0 + _ ≤ _; exact Nat.le_of_eq rfl) (hb hby at_16) (fun _ _ => ⟨rfl, rfl, (by decide : 1 + 0 ≤ _), (by decide : 6 + 0 ≤ _)⟩)
  dsimp only [Pt.U, Pt.locs, Pt.cells, Pt.slots] at X22 l22 y22 z22 st22 hQ22
  subst l22 y22 z22
  obtain ⟨rfl, Nq22, Kq22⟩ := hQ22
  have N22 := Fr.app N21 Nq22
  have e22 : T22.heap = T21.heap := Kq22
  refine own_step (U' := (T22.setTop (mkF m 19 #[.val (.int p1), .val (.int mm), .val (.ref r_21), .unset, .unset, .unset, .unset, .unset, .unset, .unset] [(.int k_21)]))) (fun t ht => st22.trans ht) ?_
  refine own_step (U' := (T22.setTop (mkF m 20 #[.val (.int p1), .val (.int mm), .val (.ref r_21), .val (.int k_21), .unset, .unset, .unset, .unset, .unset, .unset] []))) (fun t ht => XS.istoreN X22.here hx rfl (hb hby at_19) rfl (l' := #[.val (.int p1), .val (.int mm), .val (.ref r_21), .val (.int k_21), .unset, .unset, .unset, .unset, .unset, .unset]) rfl ht) ?_
  refine own_step (U' := (T22.setTop (mkF m 21 #[.val (.int p1), .val (.int mm), .val (.ref r_21), .val (.int k_21), .unset, .unset, .unset, .unset, .unset, .unset] [(.int k_21)]))) (fun t ht => XS.iloadN X22.here hx rfl (hb hby at_20) rfl ht) ?_
  refine own_step (U' := (T22.setTop (mkF m 22 #[.val (.int p1), .val (.int mm), .val (.ref r_21), .val (.int k_21), .unset, .unset, .unset, .unset, .unset, .unset] [(.int (2 : Int32)), (.int k_21)]))) (fun t ht => XS.iconst X22.here hx rfl (hb hby at_21) ht) ?_
  refine own_step (U' := (T22.setTop (mkF m 25 #[.val (.int p1), .val (.int mm), .val (.ref r_21), .val (.int k_21), .unset, .unset, .unset, .unset, .unset, .unset] []))) (fun t ht => XS.icmpNo X22.here hx rfl (hb hby at_22) rfl (XT.ii_lt_f ((own_ok2 hok) : ¬ (k_21 < (2 : Int32)))) ht) ?_
  refine own_step (U' := (T22.setTop (mkF m 26 #[.val (.int p1), .val (.int mm), .val (.ref r_21), .val (.int k_21), .unset, .unset, .unset, .unset, .unset, .unset] [(.int k_21)]))) (fun t ht => XS.iloadN X22.here hx rfl (hb hby at_25) rfl ht) ?_
  refine own_step (U' := (T22.setTop (mkF m 28 #[.val (.int p1), .val (.int mm), .val (.ref r_21), .val (.int k_21), .unset, .unset, .unset, .unset, .unset, .unset] [(.int (31 : Int32)), (.int k_21)]))) (fun t ht => XS.bipush X22.here hx rfl (hb hby at_26) ht) ?_
  refine own_step (U' := (T22.setTop (mkF m 33 #[.val (.int p1), .val (.int mm), .val (.ref r_21), .val (.int k_21), .unset, .unset, .unset, .unset, .unset, .unset] []))) (fun t ht => XS.icmpYes X22.here hx rfl (pc0 := 28) (pc' := 33) rfl (hb hby at_28) rfl (XT.ii_le_t ((own_ok31 hok) : ¬ ((31 : Int32) < k_21))) (by decide) (by decide) ht) ?_
  refine own_step (U' := (T22.setTop (mkF m 34 #[.val (.int p1), .val (.int mm), .val (.ref r_21), .val (.int k_21), .unset, .unset, .unset, .unset, .unset, .unset] [(.int mm)]))) (fun t ht => XS.iloadN X22.here hx rfl (hb hby at_33) rfl ht) ?_
  refine own_step (U' := (T22.setTop (mkF m 35 #[.val (.int p1), .val (.int mm), .val (.ref r_21), .val (.int k_21), .unset, .unset, .unset, .unset, .unset, .unset] [(.long (mm.toInt64))]))) (fun t ht => XT.i2l X22.here hx rfl (hb hby at_34) rfl ht) ?_
  refine own_step (U' := (T22.setTop (mkF m 36 #[.val (.int p1), .val (.int mm), .val (.ref r_21), .val (.int k_21), .unset, .unset, .unset, .unset, .unset, .unset] [(.int k_21), (.long (mm.toInt64))]))) (fun t ht => XS.iloadN X22.here hx rfl (hb hby at_35) rfl ht) ?_
  refine own_step (U' := (T22.setTop (mkF m 37 #[.val (.int p1), .val (.int mm), .val (.ref r_21), .val (.int k_21), .unset, .unset, .unset, .unset, .unset, .unset] [(.long (k_21.toInt64)), (.long (mm.toInt64))]))) (fun t ht => XT.i2l X22.here hx rfl (hb hby at_36) rfl ht) ?_
  refine own_step (U' := (T22.setTop (mkF m 38 #[.val (.int p1), .val (.int mm), .val (.ref r_21), .val (.int k_21), .unset, .unset, .unset, .unset, .unset, .unset] [(.long ((mm.toInt64) + (k_21.toInt64)))]))) (fun t ht => XT.ladd X22.here hx rfl (hb hby at_37) rfl ht) ?_
  refine own_step (U' := (T22.setTop (mkF m 39 #[.val (.int p1), .val (.int mm), .val (.ref r_21), .val (.int k_21), .unset, .unset, .unset, .unset, .unset, .unset] [(.long (1 : Int64)), (.long ((mm.toInt64) + (k_21.toInt64)))]))) (fun t ht => XT.lconstV X22.here hx rfl (1 : Int64) (hb hby at_38) rfl ht) ?_
  refine own_step (U' := (T22.setTop (mkF m 40 #[.val (.int p1), .val (.int mm), .val (.ref r_21), .val (.int k_21), .unset, .unset, .unset, .unset, .unset, .unset] [(.long (((mm.toInt64) + (k_21.toInt64)) + (1 : Int64)))]))) (fun t ht => XT.ladd X22.here hx rfl (hb hby at_39) rfl ht) ?_
  refine own_step (U' := (T22.setTop (mkF m 42 #[.val (.int p1), .val (.int mm), .val (.ref r_21), .val (.int k_21), .val (.long (((mm.toInt64) + (k_21.toInt64)) + (1 : Int64))), .second, .unset, .unset, .unset, .unset] []))) (fun t ht => XT.lstore X22.here hx rfl (hb hby at_40) rfl (l' := #[.val (.int p1), .val (.int mm), .val (.ref r_21), .val (.int k_21), .val (.long (((mm.toInt64) + (k_21.toInt64)) + (1 : Int64))), .second, .unset, .unset, .unset, .unset]) rfl ht) ?_
  refine own_step (U' := (T22.setTop (mkF m 43 #[.val (.int p1), .val (.int mm), .val (.ref r_21), .val (.int k_21), .val (.long (((mm.toInt64) + (k_21.toInt64)) + (1 : Int64))), .second, .unset, .unset, .unset, .unset] [(.long (1 : Int64))]))) (fun t ht => XT.lconstV X22.here hx rfl (1 : Int64) (hb hby at_42) rfl ht) ?_
  refine own_step (U' := (T22.setTop (mkF m 44 #[.val (.int p1), .val (.int mm), .val (.ref r_21), .val (.int k_21), .val (.long (((mm.toInt64) + (k_21.toInt64)) + (1 : Int64))), .second, .unset, .unset, .unset, .unset] [(.int k_21), (.long (1 : Int64))]))) (fun t ht => XS.iloadN X22.here hx rfl (hb hby at_43) rfl ht) ?_
  refine own_step (U' := (T22.setTop (mkF m 45 #[.val (.int p1), .val (.int mm), .val (.ref r_21), .val (.int k_21), .val (.long (((mm.toInt64) + (k_21.toInt64)) + (1 : Int64))), .second, .unset, .unset, .unset, .unset] [(.long ((1 : Int64) <<< (k_21.toInt64 &&& 63)))]))) (fun t ht => XT.lshl X22.here hx rfl (hb hby at_44) rfl ht) ?_
  refine own_step (U' := (T22.setTop (mkF m 47 #[.val (.int p1), .val (.int mm), .val (.ref r_21), .val (.int k_21), .val (.long (((mm.toInt64) + (k_21.toInt64)) + (1 : Int64))), .second, .unset, .unset, .unset, .unset] [(.long (((mm.toInt64) + (k_21.toInt64)) + (1 : Int64))), (.long ((1 : Int64) <<< (k_21.toInt64 &&& 63)))]))) (fun t ht => XT.lload X22.here hx rfl (hb hby at_45) rfl ht) ?_
  refine own_step (U' := (T22.setTop (mkF m 48 #[.val (.int p1), .val (.int mm), .val (.ref r_21), .val (.int k_21), .val (.long (((mm.toInt64) + (k_21.toInt64)) + (1 : Int64))), .second, .unset, .unset, .unset, .unset] [(.int (XT.cmpL ((1 : Int64) <<< (k_21.toInt64 &&& 63)) (((mm.toInt64) + (k_21.toInt64)) + (1 : Int64))))]))) (fun t ht => XT.lcmp X22.here hx rfl (hb hby at_47) rfl ht) ?_
  refine own_step (U' := (T22.setTop (mkF m 51 #[.val (.int p1), .val (.int mm), .val (.ref r_21), .val (.int k_21), .val (.long (((mm.toInt64) + (k_21.toInt64)) + (1 : Int64))), .second, .unset, .unset, .unset, .unset] []))) (fun t ht => XS.ifNo X22.here hx rfl (hb hby at_48) rfl (XT.ll_lt_f ((own_okA hok) : ¬ (((1 : Int64) <<< (k_21.toInt64 &&& 63)) < (((mm.toInt64) + (k_21.toInt64)) + (1 : Int64))))) ht) ?_
  refine own_step (U' := (T22.setTop (mkF m 52 #[.val (.int p1), .val (.int mm), .val (.ref r_21), .val (.int k_21), .val (.long (((mm.toInt64) + (k_21.toInt64)) + (1 : Int64))), .second, .unset, .unset, .unset, .unset] [(.int (1 : Int32))]))) (fun t ht => XS.iconst X22.here hx rfl (hb hby at_51) ht) ?_
  refine own_step (U' := (T22.setTop (mkF m 56 #[.val (.int p1), .val (.int mm), .val (.ref r_21), .val (.int k_21), .val (.long (((mm.toInt64) + (k_21.toInt64)) + (1 : Int64))), .second, .unset, .unset, .unset, .unset] [(.int (1 : Int32))]))) (fun t ht => XS.goto X22.here hx rfl (pc0 := 52) (pc' := 56) rfl (hb hby at_52) (by decide) (by decide) ht) ?_
  refine own_step (U' := (T22.setTop (mkF m 58 #[.val (.int p1), .val (.int mm), .val (.ref r_21), .val (.int k_21), .val (.long (((mm.toInt64) + (k_21.toInt64)) + (1 : Int64))), .second, .val (.int (1 : Int32)), .unset, .unset, .unset] []))) (fun t ht => XS.istore X22.here hx rfl (hb hby at_56) rfl (l' := #[.val (.int p1), .val (.int mm), .val (.ref r_21), .val (.int k_21), .val (.long (((mm.toInt64) + (k_21.toInt64)) + (1 : Int64))), .second, .val (.int (1 : Int32)), .unset, .unset, .unset]) rfl ht) ?_
  refine own_step (U' := (T22.setTop (mkF m 59 #[.val (.int p1), .val (.int mm), .val (.ref r_21), .val (.int k_21), .val (.long (((mm.toInt64) + (k_21.toInt64)) + (1 : Int64))), .second, .val (.int (1 : Int32)), .unset, .unset, .unset] [(.long (1 : Int64))]))) (fun t ht => XT.lconstV X22.here hx rfl (1 : Int64) (hb hby at_58) rfl ht) ?_
  refine own_step (U' := (T22.setTop (mkF m 60 #[.val (.int p1), .val (.int mm), .val (.ref r_21), .val (.int k_21), .val (.long (((mm.toInt64) + (k_21.toInt64)) + (1 : Int64))), .second, .val (.int (1 : Int32)), .unset, .unset, .unset] [(.int k_21), (.long (1 : Int64))]))) (fun t ht => XS.iloadN X22.here hx rfl (hb hby at_59) rfl ht) ?_
  refine own_step (U' := (T22.setTop (mkF m 61 #[.val (.int p1), .val (.int mm), .val (.ref r_21), .val (.int k_21), .val (.long (((mm.toInt64) + (k_21.toInt64)) + (1 : Int64))), .second, .val (.int (1 : Int32)), .unset, .unset, .unset] [(.int (1 : Int32)), (.int k_21), (.long (1 : Int64))]))) (fun t ht => XS.iconst X22.here hx rfl (hb hby at_60) ht) ?_
  refine own_step (U' := (T22.setTop (mkF m 62 #[.val (.int p1), .val (.int mm), .val (.ref r_21), .val (.int k_21), .val (.long (((mm.toInt64) + (k_21.toInt64)) + (1 : Int64))), .second, .val (.int (1 : Int32)), .unset, .unset, .unset] [(.int (k_21 - (1 : Int32))), (.long (1 : Int64))]))) (fun t ht => XS.isub X22.here hx rfl (hb hby at_61) rfl ht) ?_
  refine own_step (U' := (T22.setTop (mkF m 63 #[.val (.int p1), .val (.int mm), .val (.ref r_21), .val (.int k_21), .val (.long (((mm.toInt64) + (k_21.toInt64)) + (1 : Int64))), .second, .val (.int (1 : Int32)), .unset, .unset, .unset] [(.long ((1 : Int64) <<< ((k_21 - (1 : Int32)).toInt64 &&& 63)))]))) (fun t ht => XT.lshl X22.here hx rfl (hb hby at_62) rfl ht) ?_
  refine own_step (U' := (T22.setTop (mkF m 64 #[.val (.int p1), .val (.int mm), .val (.ref r_21), .val (.int k_21), .val (.long (((mm.toInt64) + (k_21.toInt64)) + (1 : Int64))), .second, .val (.int (1 : Int32)), .unset, .unset, .unset] [(.int mm), (.long ((1 : Int64) <<< ((k_21 - (1 : Int32)).toInt64 &&& 63)))]))) (fun t ht => XS.iloadN X22.here hx rfl (hb hby at_63) rfl ht) ?_
  refine own_step (U' := (T22.setTop (mkF m 65 #[.val (.int p1), .val (.int mm), .val (.ref r_21), .val (.int k_21), .val (.long (((mm.toInt64) + (k_21.toInt64)) + (1 : Int64))), .second, .val (.int (1 : Int32)), .unset, .unset, .unset] [(.long (mm.toInt64)), (.long ((1 : Int64) <<< ((k_21 - (1 : Int32)).toInt64 &&& 63)))]))) (fun t ht => XT.i2l X22.here hx rfl (hb hby at_64) rfl ht) ?_
  refine own_step (U' := (T22.setTop (mkF m 66 #[.val (.int p1), .val (.int mm), .val (.ref r_21), .val (.int k_21), .val (.long (((mm.toInt64) + (k_21.toInt64)) + (1 : Int64))), .second, .val (.int (1 : Int32)), .unset, .unset, .unset] [(.int k_21), (.long (mm.toInt64)), (.long ((1 : Int64) <<< ((k_21 - (1 : Int32)).toInt64 &&& 63)))]))) (fun t ht => XS.iloadN X22.here hx rfl (hb hby at_65) rfl ht) ?_
  refine own_step (U' := (T22.setTop (mkF m 67 #[.val (.int p1), .val (.int mm), .val (.ref r_21), .val (.int k_21), .val (.long (((mm.toInt64) + (k_21.toInt64)) + (1 : Int64))), .second, .val (.int (1 : Int32)), .unset, .unset, .unset] [(.long (k_21.toInt64)), (.long (mm.toInt64)), (.long ((1 : Int64) <<< ((k_21 - (1 : Int32)).toInt64 &&& 63)))]))) (fun t ht => XT.i2l X22.here hx rfl (hb hby at_66) rfl ht) ?_
  refine own_step (U' := (T22.setTop (mkF m 68 #[.val (.int p1), .val (.int mm), .val (.ref r_21), .val (.int k_21), .val (.long (((mm.toInt64) + (k_21.toInt64)) + (1 : Int64))), .second, .val (.int (1 : Int32)), .unset, .unset, .unset] [(.long ((mm.toInt64) + (k_21.toInt64))), (.long ((1 : Int64) <<< ((k_21 - (1 : Int32)).toInt64 &&& 63)))]))) (fun t ht => XT.ladd X22.here hx rfl (hb hby at_67) rfl ht) ?_
  refine own_step (U' := (T22.setTop (mkF m 69 #[.val (.int p1), .val (.int mm), .val (.ref r_21), .val (.int k_21), .val (.long (((mm.toInt64) + (k_21.toInt64)) + (1 : Int64))), .second, .val (.int (1 : Int32)), .unset, .unset, .unset] [(.int (XT.cmpL ((1 : Int64) <<< ((k_21 - (1 : Int32)).toInt64 &&& 63)) ((mm.toInt64) + (k_21.toInt64))))]))) (fun t ht => XT.lcmp X22.here hx rfl (hb hby at_68) rfl ht) ?_
  refine own_step (U' := (T22.setTop (mkF m 72 #[.val (.int p1), .val (.int mm), .val (.ref r_21), .val (.int k_21), .val (.long (((mm.toInt64) + (k_21.toInt64)) + (1 : Int64))), .second, .val (.int (1 : Int32)), .unset, .unset, .unset] []))) (fun t ht => XS.ifNo X22.here hx rfl (hb hby at_69) rfl (XT.ll_ge_f ((own_okB hok) : ((1 : Int64) <<< ((k_21 - (1 : Int32)).toInt64 &&& 63)) < ((mm.toInt64) + (k_21.toInt64)))) ht) ?_
  refine own_step (U' := (T22.setTop (mkF m 73 #[.val (.int p1), .val (.int mm), .val (.ref r_21), .val (.int k_21), .val (.long (((mm.toInt64) + (k_21.toInt64)) + (1 : Int64))), .second, .val (.int (1 : Int32)), .unset, .unset, .unset] [(.int (1 : Int32))]))) (fun t ht => XS.iconst X22.here hx rfl (hb hby at_72) ht) ?_
  refine own_step (U' := (T22.setTop (mkF m 77 #[.val (.int p1), .val (.int mm), .val (.ref r_21), .val (.int k_21), .val (.long (((mm.toInt64) + (k_21.toInt64)) + (1 : Int64))), .second, .val (.int (1 : Int32)), .unset, .unset, .unset] [(.int (1 : Int32))]))) (fun t ht => XS.goto X22.here hx rfl (pc0 := 73) (pc' := 77) rfl (hb hby at_73) (by decide) (by decide) ht) ?_
  refine own_step (U' := (T22.setTop (mkF m 79 #[.val (.int p1), .val (.int mm), .val (.ref r_21), .val (.int k_21), .val (.long (((mm.toInt64) + (k_21.toInt64)) + (1 : Int64))), .second, .val (.int (1 : Int32)), .val (.int (1 : Int32)), .unset, .unset] []))) (fun t ht => XS.istore X22.here hx rfl (hb hby at_77) rfl (l' := #[.val (.int p1), .val (.int mm), .val (.ref r_21), .val (.int k_21), .val (.long (((mm.toInt64) + (k_21.toInt64)) + (1 : Int64))), .second, .val (.int (1 : Int32)), .val (.int (1 : Int32)), .unset, .unset]) rfl ht) ?_
  refine own_step (U' := (T22.setTop (mkF m 80 #[.val (.int p1), .val (.int mm), .val (.ref r_21), .val (.int k_21), .val (.long (((mm.toInt64) + (k_21.toInt64)) + (1 : Int64))), .second, .val (.int (1 : Int32)), .val (.int (1 : Int32)), .unset, .unset] [(.int mm)]))) (fun t ht => XS.iloadN X22.here hx rfl (hb hby at_79) rfl ht) ?_
  refine own_step (U' := (T22.setTop (mkF m 81 #[.val (.int p1), .val (.int mm), .val (.ref r_21), .val (.int k_21), .val (.long (((mm.toInt64) + (k_21.toInt64)) + (1 : Int64))), .second, .val (.int (1 : Int32)), .val (.int (1 : Int32)), .unset, .unset] [(.long (mm.toInt64))]))) (fun t ht => XT.i2l X22.here hx rfl (hb hby at_80) rfl ht) ?_
  refine own_step (U' := (T22.setTop (mkF m 82 #[.val (.int p1), .val (.int mm), .val (.ref r_21), .val (.int k_21), .val (.long (((mm.toInt64) + (k_21.toInt64)) + (1 : Int64))), .second, .val (.int (1 : Int32)), .val (.int (1 : Int32)), .unset, .unset] [(.int k_21), (.long (mm.toInt64))]))) (fun t ht => XS.iloadN X22.here hx rfl (hb hby at_81) rfl ht) ?_
  refine own_step (U' := (T22.setTop (mkF m 83 #[.val (.int p1), .val (.int mm), .val (.ref r_21), .val (.int k_21), .val (.long (((mm.toInt64) + (k_21.toInt64)) + (1 : Int64))), .second, .val (.int (1 : Int32)), .val (.int (1 : Int32)), .unset, .unset] [(.long (k_21.toInt64)), (.long (mm.toInt64))]))) (fun t ht => XT.i2l X22.here hx rfl (hb hby at_82) rfl ht) ?_
  refine own_step (U' := (T22.setTop (mkF m 84 #[.val (.int p1), .val (.int mm), .val (.ref r_21), .val (.int k_21), .val (.long (((mm.toInt64) + (k_21.toInt64)) + (1 : Int64))), .second, .val (.int (1 : Int32)), .val (.int (1 : Int32)), .unset, .unset] [(.long ((mm.toInt64) + (k_21.toInt64)))]))) (fun t ht => XT.ladd X22.here hx rfl (hb hby at_83) rfl ht) ?_
  refine own_step (U' := (T22.setTop (mkF m 86 #[.val (.int p1), .val (.int mm), .val (.ref r_21), .val (.int k_21), .val (.long (((mm.toInt64) + (k_21.toInt64)) + (1 : Int64))), .second, .val (.int (1 : Int32)), .val (.int (1 : Int32)), .val (.long ((mm.toInt64) + (k_21.toInt64))), .second] []))) (fun t ht => XT.lstore X22.here hx rfl (hb hby at_84) rfl (l' := #[.val (.int p1), .val (.int mm), .val (.ref r_21), .val (.int k_21), .val (.long (((mm.toInt64) + (k_21.toInt64)) + (1 : Int64))), .second, .val (.int (1 : Int32)), .val (.int (1 : Int32)), .val (.long ((mm.toInt64) + (k_21.toInt64))), .second]) rfl ht) ?_
  refine own_step (U' := (T22.setTop (mkF m 88 #[.val (.int p1), .val (.int mm), .val (.ref r_21), .val (.int k_21), .val (.long (((mm.toInt64) + (k_21.toInt64)) + (1 : Int64))), .second, .val (.int (1 : Int32)), .val (.int (1 : Int32)), .val (.long ((mm.toInt64) + (k_21.toInt64))), .second] [(.int (1 : Int32))]))) (fun t ht => XS.iload X22.here hx rfl (hb hby at_86) rfl ht) ?_
  refine own_step (U' := (T22.setTop (mkF m 91 #[.val (.int p1), .val (.int mm), .val (.ref r_21), .val (.int k_21), .val (.long (((mm.toInt64) + (k_21.toInt64)) + (1 : Int64))), .second, .val (.int (1 : Int32)), .val (.int (1 : Int32)), .val (.long ((mm.toInt64) + (k_21.toInt64))), .second] []))) (fun t ht => XS.ifNo X22.here hx rfl (hb hby at_88) rfl (XT.i0_eq_f ((by decide) : ¬ ((1 : Int32) = 0))) ht) ?_
  refine own_step (U' := (T22.setTop (mkF m 93 #[.val (.int p1), .val (.int mm), .val (.ref r_21), .val (.int k_21), .val (.long (((mm.toInt64) + (k_21.toInt64)) + (1 : Int64))), .second, .val (.int (1 : Int32)), .val (.int (1 : Int32)), .val (.long ((mm.toInt64) + (k_21.toInt64))), .second] [(.int (1 : Int32))]))) (fun t ht => XS.iload X22.here hx rfl (hb hby at_91) rfl ht) ?_
  refine own_step (U' := (T22.setTop (mkF m 96 #[.val (.int p1), .val (.int mm), .val (.ref r_21), .val (.int k_21), .val (.long (((mm.toInt64) + (k_21.toInt64)) + (1 : Int64))), .second, .val (.int (1 : Int32)), .val (.int (1 : Int32)), .val (.long ((mm.toInt64) + (k_21.toInt64))), .second] []))) (fun t ht => XS.ifNo X22.here hx rfl (hb hby at_93) rfl (XT.i0_eq_f ((by decide) : ¬ ((1 : Int32) = 0))) ht) ?_
  refine own_step (U' := (T22.setTop (mkF m 97 #[.val (.int p1), .val (.int mm), .val (.ref r_21), .val (.int k_21), .val (.long (((mm.toInt64) + (k_21.toInt64)) + (1 : Int64))), .second, .val (.int (1 : Int32)), .val (.int (1 : Int32)), .val (.long ((mm.toInt64) + (k_21.toInt64))), .second] [(.ref r_21)]))) (fun t ht => XS.aloadN X22.here hx rfl (hb hby at_96) rfl rfl ht) ?_
  obtain ⟨cq23, kq23, q23a, q23b, q23c⟩ := isOf hZ e22 Fq21_4
  obtain ⟨_, _, ⟨T23, L23, k23, n23⟩, -, X23, ⟨Lc23, hQ23, l23, y23, z23⟩, st23⟩ := X22.virtualBack hx (y := (⟨"com/example/bitmend/bitmend/code/HammingCode", "dataBitCount", "()I"⟩ : MethodName)) (z := (⟨"com/example/bitmend/bitmend/code/HammingCode", "dataBitCount", "()I"⟩ : MethodName)) hown (mvT hZ (hw _ (List.mem_of_getElem? (i := 31) rfl))) (mvT hZ (hw _ (List.mem_of_getElem? (i := 32) rfl))) (notFace_of_selects (args := #[]) (mvT hZ (hw _ (List.mem_of_getElem? (i := 34) rfl)))) (mvT hZ (hw _ (List.mem_of_getElem? (i := 34) rfl))) (mvT hZ (hw _ (List.mem_of_getElem? (i := 33) rfl))) (by decide) (backOf (W := 0) (own_m_dbc l Z a0 hw [] (r_21) (mm) T21.heap n0 (Nat.le_trans Z0 K21.1) Fq21_0) hZ (hw _ (List.mem_of_getElem? (i := 35) rfl)) (hw _ (List.mem_of_getElem? (i := 4) rfl)) (by decide) (by decide)) q23a q23c (g := (mkF m 97 #[.val (.int p1), .val (.int mm), .val (.ref r_21), .val (.int k_21), .val (.long (((mm.toInt64) + (k_21.toInt64)) + (1 : Int64))), .second, .val (.int (1 : Int32)), .val (.int (1 : Int32)), .val (.long ((mm.toInt64) + (k_21.toInt64))), .second] [(.ref r_21)])) rfl (by rw [hml]; rfl) (Steps.refl _) (argsL := []) (rest := []) (lenOf own_pd1 rfl) rfl (by show 2 * 0 + _ ≤ _; exact Nat.le_of_eq rfl) (hb hby at_97) (fun _ _ => ⟨rfl, e22, (by decide : 1 + 0 ≤ _), (by decide : 6 + 0 ≤ _)⟩)
  dsimp only [Pt.U, Pt.locs, Pt.cells, Pt.slots] at X23 l23 y23 z23 st23 hQ23
  subst l23 y23 z23
  obtain ⟨rfl, Nq23, Kq23⟩ := hQ23
  have N23 := Fr.app N22 Nq23
  have e23 : T23.heap = T21.heap := Kq23
  refine own_step (U' := (T23.setTop (mkF m 100 #[.val (.int p1), .val (.int mm), .val (.ref r_21), .val (.int k_21), .val (.long (((mm.toInt64) + (k_21.toInt64)) + (1 : Int64))), .second, .val (.int (1 : Int32)), .val (.int (1 : Int32)), .val (.long ((mm.toInt64) + (k_21.toInt64))), .second] [(.int mm)]))) (fun t ht => st23.trans ht) ?_
  refine own_step (U' := (T23.setTop (mkF m 101 #[.val (.int p1), .val (.int mm), .val (.ref r_21), .val (.int k_21), .val (.long (((mm.toInt64) + (k_21.toInt64)) + (1 : Int64))), .second, .val (.int (1 : Int32)), .val (.int (1 : Int32)), .val (.long ((mm.toInt64) + (k_21.toInt64))), .second] [(.int mm), (.int mm)]))) (fun t ht => XS.iloadN X23.here hx rfl (hb hby at_100) rfl ht) ?_
  refine own_step (U' := (T23.setTop (mkF m 104 #[.val (.int p1), .val (.int mm), .val (.ref r_21), .val (.int k_21), .val (.long (((mm.toInt64) + (k_21.toInt64)) + (1 : Int64))), .second, .val (.int (1 : Int32)), .val (.int (1 : Int32)), .val (.long ((mm.toInt64) + (k_21.toInt64))), .second] []))) (fun t ht => XS.icmpNo X23.here hx rfl (hb hby at_101) rfl (XT.ii_ne_f (rfl : mm = mm)) ht) ?_
  refine own_step (U' := (T23.setTop (mkF m 105 #[.val (.int p1), .val (.int mm), .val (.ref r_21), .val (.int k_21), .val (.long (((mm.toInt64) + (k_21.toInt64)) + (1 : Int64))), .second, .val (.int (1 : Int32)), .val (.int (1 : Int32)), .val (.long ((mm.toInt64) + (k_21.toInt64))), .second] [(.ref r_21)]))) (fun t ht => XS.aloadN X23.here hx rfl (hb hby at_104) rfl rfl ht) ?_
  obtain ⟨cq24, kq24, q24a, q24b, q24c⟩ := isOf hZ e23 Fq21_4
  obtain ⟨_, _, ⟨T24, L24, k24, n24⟩, -, X24, ⟨Lc24, hQ24, l24, y24, z24⟩, st24⟩ := X23.virtualBack hx (y := (⟨"com/example/bitmend/bitmend/code/HammingCode", "isExtended", "()Z"⟩ : MethodName)) (z := (⟨"com/example/bitmend/bitmend/code/HammingCode", "isExtended", "()Z"⟩ : MethodName)) hown (mvT hZ (hw _ (List.mem_of_getElem? (i := 36) rfl))) (mvT hZ (hw _ (List.mem_of_getElem? (i := 37) rfl))) (notFace_of_selects (args := #[]) (mvT hZ (hw _ (List.mem_of_getElem? (i := 39) rfl)))) (mvT hZ (hw _ (List.mem_of_getElem? (i := 39) rfl))) (mvT hZ (hw _ (List.mem_of_getElem? (i := 38) rfl))) (by decide) (backOf (W := 0) (own_m_ext l Z a0 hw [] (r_21) (((0 : Int32) &&& 1)) T21.heap n0 (Nat.le_trans Z0 K21.1) Fq21_2) hZ (hw _ (List.mem_of_getElem? (i := 40) rfl)) (hw _ (List.mem_of_getElem? (i := 4) rfl)) (by decide) (by decide)) q24a q24c (g := (mkF m 105 #[.val (.int p1), .val (.int mm), .val (.ref r_21), .val (.int k_21), .val (.long (((mm.toInt64) + (k_21.toInt64)) + (1 : Int64))), .second, .val (.int (1 : Int32)), .val (.int (1 : Int32)), .val (.long ((mm.toInt64) + (k_21.toInt64))), .second] [(.ref r_21)])) rfl (by rw [hml]; rfl) (Steps.refl _) (argsL := []) (rest := []) (lenOf own_pd3 rfl) rfl (by show 2 * 0 + _ ≤ _; exact Nat.le_of_eq rfl) (hb hby at_105) (fun _ _ => ⟨rfl, e23, (by decide : 1 + 0 ≤ _), (by decide : 6 + 0 ≤ _)⟩)
  dsimp only [Pt.U, Pt.locs, Pt.cells, Pt.slots] at X24 l24 y24 z24 st24 hQ24
  subst l24 y24 z24
  obtain ⟨rfl, Nq24, Kq24⟩ := hQ24
  have N24 := Fr.app N23 Nq24
  have e24 : T24.heap = T21.heap := Kq24
  refine own_step (U' := (T24.setTop (mkF m 108 #[.val (.int p1), .val (.int mm), .val (.ref r_21), .val (.int k_21), .val (.long (((mm.toInt64) + (k_21.toInt64)) + (1 : Int64))), .second, .val (.int (1 : Int32)), .val (.int (1 : Int32)), .val (.long ((mm.toInt64) + (k_21.toInt64))), .second] [(.int (nar .boolean ((0 : Int32) &&& 1)))]))) (fun t ht => st24.trans ht) ?_
  refine own_step (U' := (T24.setTop (mkF m 111 #[.val (.int p1), .val (.int mm), .val (.ref r_21), .val (.int k_21), .val (.long (((mm.toInt64) + (k_21.toInt64)) + (1 : Int64))), .second, .val (.int (1 : Int32)), .val (.int (1 : Int32)), .val (.long ((mm.toInt64) + (k_21.toInt64))), .second] []))) (fun t ht => XS.ifNo X24.here hx rfl (hb hby at_108) rfl (XT.i0_ne_f ((by decide) : (nar .boolean ((0 : Int32) &&& 1)) = 0)) ht) ?_
  refine own_step (U' := (T24.setTop (mkF m 112 #[.val (.int p1), .val (.int mm), .val (.ref r_21), .val (.int k_21), .val (.long (((mm.toInt64) + (k_21.toInt64)) + (1 : Int64))), .second, .val (.int (1 : Int32)), .val (.int (1 : Int32)), .val (.long ((mm.toInt64) + (k_21.toInt64))), .second] [(.ref r_21)]))) (fun t ht => XS.aloadN X24.here hx rfl (hb hby at_111) rfl rfl ht) ?_
  obtain ⟨cq25, kq25, q25a, q25b, q25c⟩ := isOf hZ e24 Fq21_4
  obtain ⟨_, _, ⟨T25, L25, k25, n25⟩, -, X25, ⟨Lc25, hQ25, l25, y25, z25⟩, st25⟩ := X24.virtualBack hx (y := (⟨"com/example/bitmend/bitmend/code/HammingCode", "layout", "()Lcom/example/bitmend/bitmend/code/Layout;"⟩ : MethodName)) (z := (⟨"com/example/bitmend/bitmend/code/HammingCode", "layout", "()Lcom/example/bitmend/bitmend/code/Layout;"⟩ : MethodName)) hown (mvT hZ (hw _ (List.mem_of_getElem? (i := 41) rfl))) (mvT hZ (hw _ (List.mem_of_getElem? (i := 42) rfl))) (notFace_of_selects (args := #[]) (mvT hZ (hw _ (List.mem_of_getElem? (i := 44) rfl)))) (mvT hZ (hw _ (List.mem_of_getElem? (i := 44) rfl))) (mvT hZ (hw _ (List.mem_of_getElem? (i := 43) rfl))) (by decide) (backOf (W := 0) (own_m_lay l Z a0 hw [] (r_21) (l1) T21.heap n0 (Nat.le_trans Z0 K21.1) Fq21_3) hZ (hw _ (List.mem_of_getElem? (i := 45) rfl)) (hw _ (List.mem_of_getElem? (i := 4) rfl)) (by decide) (by decide)) q25a q25c (g := (mkF m 112 #[.val (.int p1), .val (.int mm), .val (.ref r_21), .val (.int k_21), .val (.long (((mm.toInt64) + (k_21.toInt64)) + (1 : Int64))), .second, .val (.int (1 : Int32)), .val (.int (1 : Int32)), .val (.long ((mm.toInt64) + (k_21.toInt64))), .second] [(.ref r_21)])) rfl (by rw [hml]; rfl) (Steps.refl _) (argsL := []) (rest := []) (lenOf own_pd4 rfl) rfl (by show 2 * 0 + _ ≤ _; exact Nat.le_of_eq rfl) (hb hby at_112) (fun _ _ => ⟨rfl, e24, (by decide : 1 + 0 ≤ _), (by decide : 6 + 0 ≤ _)⟩)
  dsimp only [Pt.U, Pt.locs, Pt.cells, Pt.slots] at X25 l25 y25 z25 st25 hQ25
  subst l25 y25 z25
  obtain ⟨rfl, Nq25, Kq25⟩ := hQ25
  have N25 := Fr.app N24 Nq25
  have e25 : T25.heap = T21.heap := Kq25
  refine own_step (U' := (T25.setTop (mkF m 115 #[.val (.int p1), .val (.int mm), .val (.ref r_21), .val (.int k_21), .val (.long (((mm.toInt64) + (k_21.toInt64)) + (1 : Int64))), .second, .val (.int (1 : Int32)), .val (.int (1 : Int32)), .val (.long ((mm.toInt64) + (k_21.toInt64))), .second] [(.ref l1)]))) (fun t ht => st25.trans ht) ?_
  obtain ⟨T26, X26, e26, st26⟩ := getS2 X25 hx hZ hown (host := "") (Or.inl (hw _ (List.mem_of_getElem? (i := 46) rfl))) Via.refl e25 f21_0 (g := (mkF m 115 #[.val (.int p1), .val (.int mm), .val (.ref r_21), .val (.int k_21), .val (.long (((mm.toInt64) + (k_21.toInt64)) + (1 : Int64))), .second, .val (.int (1 : Int32)), .val (.int (1 : Int32)), .val (.long ((mm.toInt64) + (k_21.toInt64))), .second] [(.ref l1)])) rfl (hb hby at_115)
  refine own_step (U' := (T26.setTop (mkF m 118 #[.val (.int p1), .val (.int mm), .val (.ref r_21), .val (.int k_21), .val (.long (((mm.toInt64) + (k_21.toInt64)) + (1 : Int64))), .second, .val (.int (1 : Int32)), .val (.int (1 : Int32)), .val (.long ((mm.toInt64) + (k_21.toInt64))), .second] [(.ref l1), (.ref l1)]))) (fun t ht => st26 _ ht) ?_
  refine own_step (U' := (T26.setTop (mkF m 121 #[.val (.int p1), .val (.int mm), .val (.ref r_21), .val (.int k_21), .val (.long (((mm.toInt64) + (k_21.toInt64)) + (1 : Int64))), .second, .val (.int (1 : Int32)), .val (.int (1 : Int32)), .val (.long ((mm.toInt64) + (k_21.toInt64))), .second] []))) (fun t ht => Jvm.RoadKit.acmp (g := (mkF m 118 #[.val (.int p1), .val (.int mm), .val (.ref r_21), .val (.int k_21), .val (.long (((mm.toInt64) + (k_21.toInt64)) + (1 : Int64))), .second, .val (.int (1 : Int32)), .val (.int (1 : Int32)), .val (.long ((mm.toInt64) + (k_21.toInt64))), .second] [(.ref l1), (.ref l1)])) X26 hx rfl rfl rfl (pc0 := 118) (pc' := 121) (same := true) rfl (hb hby at_118) rfl (decide_eq_true (rfl : (.ref l1 : Value) = (.ref l1 : Value))) (by decide) (by decide) ht) ?_
  refine own_step (U' := (T26.setTop (mkF m 122 #[.val (.int p1), .val (.int mm), .val (.ref r_21), .val (.int k_21), .val (.long (((mm.toInt64) + (k_21.toInt64)) + (1 : Int64))), .second, .val (.int (1 : Int32)), .val (.int (1 : Int32)), .val (.long ((mm.toInt64) + (k_21.toInt64))), .second] [(.ref r_21)]))) (fun t ht => XS.aloadN X26.here hx rfl (hb hby at_121) rfl rfl ht) ?_
  obtain ⟨cq27, kq27, q27a, q27b, q27c⟩ := isOf hZ e26 Fq21_4
  obtain ⟨_, _, ⟨T27, L27, k27, n27⟩, -, X27, ⟨Lc27, hQ27, l27, y27, z27⟩, st27⟩ := X26.virtualBack hx (y := (⟨"com/example/bitmend/bitmend/code/HammingCode", "positionalLength", "()I"⟩ : MethodName)) (z := (⟨"com/example/bitmend/bitmend/code/HammingCode", "positionalLength", "()I"⟩ : MethodName)) hown (mvT hZ (hw _ (List.mem_of_getElem? (i := 47) rfl))) (mvT hZ (hw _ (List.mem_of_getElem? (i := 48) rfl))) (notFace_of_selects (args := #[]) (mvT hZ (hw _ (List.mem_of_getElem? (i := 50) rfl)))) (mvT hZ (hw _ (List.mem_of_getElem? (i := 50) rfl))) (mvT hZ (hw _ (List.mem_of_getElem? (i := 49) rfl))) (by decide) (backOf (W := 0) (own_m_pl l Z a0 hw [] (r_21) (mm) (k_21) T21.heap n0 (Nat.le_trans Z0 K21.1) Fq21_0 Fq21_1) hZ (hw _ (List.mem_of_getElem? (i := 51) rfl)) (hw _ (List.mem_of_getElem? (i := 4) rfl)) (by decide) (by decide)) q27a q27c (g := (mkF m 122 #[.val (.int p1), .val (.int mm), .val (.ref r_21), .val (.int k_21), .val (.long (((mm.toInt64) + (k_21.toInt64)) + (1 : Int64))), .second, .val (.int (1 : Int32)), .val (.int (1 : Int32)), .val (.long ((mm.toInt64) + (k_21.toInt64))), .second] [(.ref r_21)])) rfl (by rw [hml]; rfl) (Steps.refl _) (argsL := []) (rest := []) (lenOf own_pd1 rfl) rfl (by show 2 * 0 + _ ≤ _; exact Nat.le_of_eq rfl) (hb hby at_122) (fun _ _ => ⟨rfl, e26, (by decide : 1 + 0 ≤ _), (by decide : 6 + 0 ≤ _)⟩)
  dsimp only [Pt.U, Pt.locs, Pt.cells, Pt.slots] at X27 l27 y27 z27 st27 hQ27
  subst l27 y27 z27
  obtain ⟨rfl, Nq27, Kq27⟩ := hQ27
  have N27 := Fr.app N25 Nq27
  have e27 : T27.heap = T21.heap := Kq27
  refine own_step (U' := (T27.setTop (mkF m 125 #[.val (.int p1), .val (.int mm), .val (.ref r_21), .val (.int k_21), .val (.long (((mm.toInt64) + (k_21.toInt64)) + (1 : Int64))), .second, .val (.int (1 : Int32)), .val (.int (1 : Int32)), .val (.long ((mm.toInt64) + (k_21.toInt64))), .second] [(.int (mm + k_21))]))) (fun t ht => st27.trans ht) ?_
  refine own_step (U' := (T27.setTop (mkF m 126 #[.val (.int p1), .val (.int mm), .val (.ref r_21), .val (.int k_21), .val (.long (((mm.toInt64) + (k_21.toInt64)) + (1 : Int64))), .second, .val (.int (1 : Int32)), .val (.int (1 : Int32)), .val (.long ((mm.toInt64) + (k_21.toInt64))), .second] [(.long ((mm + k_21).toInt64))]))) (fun t ht => XT.i2l X27.here hx rfl (hb hby at_125) rfl ht) ?_
  refine own_step (U' := (T27.setTop (mkF m 128 #[.val (.int p1), .val (.int mm), .val (.ref r_21), .val (.int k_21), .val (.long (((mm.toInt64) + (k_21.toInt64)) + (1 : Int64))), .second, .val (.int (1 : Int32)), .val (.int (1 : Int32)), .val (.long ((mm.toInt64) + (k_21.toInt64))), .second] [(.long ((mm.toInt64) + (k_21.toInt64))), (.long ((mm + k_21).toInt64))]))) (fun t ht => XT.lload X27.here hx rfl (hb hby at_126) rfl ht) ?_
  refine own_step (U' := (T27.setTop (mkF m 129 #[.val (.int p1), .val (.int mm), .val (.ref r_21), .val (.int k_21), .val (.long (((mm.toInt64) + (k_21.toInt64)) + (1 : Int64))), .second, .val (.int (1 : Int32)), .val (.int (1 : Int32)), .val (.long ((mm.toInt64) + (k_21.toInt64))), .second] [(.int (XT.cmpL ((mm + k_21).toInt64) ((mm.toInt64) + (k_21.toInt64))))]))) (fun t ht => XT.lcmp X27.here hx rfl (hb hby at_128) rfl ht) ?_
  refine own_step (U' := (T27.setTop (mkF m 132 #[.val (.int p1), .val (.int mm), .val (.ref r_21), .val (.int k_21), .val (.long (((mm.toInt64) + (k_21.toInt64)) + (1 : Int64))), .second, .val (.int (1 : Int32)), .val (.int (1 : Int32)), .val (.long ((mm.toInt64) + (k_21.toInt64))), .second] []))) (fun t ht => XS.ifNo X27.here hx rfl (hb hby at_129) rfl (XT.ll_ne_f ((own_okC hok) : ((mm + k_21).toInt64) = ((mm.toInt64) + (k_21.toInt64)))) ht) ?_
  refine own_step (U' := (T27.setTop (mkF m 133 #[.val (.int p1), .val (.int mm), .val (.ref r_21), .val (.int k_21), .val (.long (((mm.toInt64) + (k_21.toInt64)) + (1 : Int64))), .second, .val (.int (1 : Int32)), .val (.int (1 : Int32)), .val (.long ((mm.toInt64) + (k_21.toInt64))), .second] [(.ref r_21)]))) (fun t ht => XS.aloadN X27.here hx rfl (hb hby at_132) rfl rfl ht) ?_
  obtain ⟨cq28, kq28, q28a, q28b, q28c⟩ := isOf hZ e27 Fq21_4
  obtain ⟨_, _, ⟨T28, L28, k28, n28⟩, -, X28, ⟨Lc28, hQ28, l28, y28, z28⟩, st28⟩ := X27.virtualBack hx (y := (⟨"com/example/bitmend/bitmend/code/HammingCode", "length", "()I"⟩ : MethodName)) (z := (⟨"com/example/bitmend/bitmend/code/HammingCode", "length", "()I"⟩ : MethodName)) hown (mvT hZ (hw _ (List.mem_of_getElem? (i := 52) rfl))) (mvT hZ (hw _ (List.mem_of_getElem? (i := 53) rfl))) (notFace_of_selects (args := #[]) (mvT hZ (hw _ (List.mem_of_getElem? (i := 55) rfl)))) (mvT hZ (hw _ (List.mem_of_getElem? (i := 55) rfl))) (mvT hZ (hw _ (List.mem_of_getElem? (i := 54) rfl))) (by decide) (backOf (W := 0) (own_m_len l Z a0 hw [] (r_21) (mm) (k_21) (((0 : Int32) &&& 1)) T21.heap n0 (Nat.le_trans Z0 K21.1) Fq21_0 Fq21_1 Fq21_2 Fq21_4 (by decide)) hZ (hw _ (List.mem_of_getElem? (i := 56) rfl)) (hw _ (List.mem_of_getElem? (i := 4) rfl)) (by decide) (by decide)) q28a q28c (g := (mkF m 133 #[.val (.int p1), .val (.int mm), .val (.ref r_21), .val (.int k_21), .val (.long (((mm.toInt64) + (k_21.toInt64)) + (1 : Int64))), .second, .val (.int (1 : Int32)), .val (.int (1 : Int32)), .val (.long ((mm.toInt64) + (k_21.toInt64))), .second] [(.ref r_21)])) rfl (by rw [hml]; rfl) (Steps.refl _) (argsL := []) (rest := []) (lenOf own_pd1 rfl) rfl (by show 2 * 0 + _ ≤ _; exact Nat.le_of_eq rfl) (hb hby at_133) (fun _ _ => ⟨rfl, e27, (by decide : 1 + 0 ≤ _), (by decide : 6 + 0 ≤ _)⟩)
  dsimp only [Pt.U, Pt.locs, Pt.cells, Pt.slots] at X28 l28 y28 z28 st28 hQ28
  subst l28 y28 z28
  obtain ⟨rfl, Nq28, Kq28⟩ := hQ28
  have N28 := Fr.app N27 Nq28
  have e28 : T28.heap = T21.heap := Kq28
  refine own_step (U' := (T28.setTop (mkF m 136 #[.val (.int p1), .val (.int mm), .val (.ref r_21), .val (.int k_21), .val (.long (((mm.toInt64) + (k_21.toInt64)) + (1 : Int64))), .second, .val (.int (1 : Int32)), .val (.int (1 : Int32)), .val (.long ((mm.toInt64) + (k_21.toInt64))), .second] [(.int (mm + k_21))]))) (fun t ht => st28.trans ht) ?_
  refine own_step (U' := (T28.setTop (mkF m 137 #[.val (.int p1), .val (.int mm), .val (.ref r_21), .val (.int k_21), .val (.long (((mm.toInt64) + (k_21.toInt64)) + (1 : Int64))), .second, .val (.int (1 : Int32)), .val (.int (1 : Int32)), .val (.long ((mm.toInt64) + (k_21.toInt64))), .second] [(.long ((mm + k_21).toInt64))]))) (fun t ht => XT.i2l X28.here hx rfl (hb hby at_136) rfl ht) ?_
  refine own_step (U' := (T28.setTop (mkF m 139 #[.val (.int p1), .val (.int mm), .val (.ref r_21), .val (.int k_21), .val (.long (((mm.toInt64) + (k_21.toInt64)) + (1 : Int64))), .second, .val (.int (1 : Int32)), .val (.int (1 : Int32)), .val (.long ((mm.toInt64) + (k_21.toInt64))), .second] [(.long ((mm.toInt64) + (k_21.toInt64))), (.long ((mm + k_21).toInt64))]))) (fun t ht => XT.lload X28.here hx rfl (hb hby at_137) rfl ht) ?_
  refine own_step (U' := (T28.setTop (mkF m 140 #[.val (.int p1), .val (.int mm), .val (.ref r_21), .val (.int k_21), .val (.long (((mm.toInt64) + (k_21.toInt64)) + (1 : Int64))), .second, .val (.int (1 : Int32)), .val (.int (1 : Int32)), .val (.long ((mm.toInt64) + (k_21.toInt64))), .second] [(.int (XT.cmpL ((mm + k_21).toInt64) ((mm.toInt64) + (k_21.toInt64))))]))) (fun t ht => XT.lcmp X28.here hx rfl (hb hby at_139) rfl ht) ?_
  refine own_step (U' := (T28.setTop (mkF m 143 #[.val (.int p1), .val (.int mm), .val (.ref r_21), .val (.int k_21), .val (.long (((mm.toInt64) + (k_21.toInt64)) + (1 : Int64))), .second, .val (.int (1 : Int32)), .val (.int (1 : Int32)), .val (.long ((mm.toInt64) + (k_21.toInt64))), .second] []))) (fun t ht => XS.ifNo X28.here hx rfl (hb hby at_140) rfl (XT.ll_ne_f ((own_okC hok) : ((mm + k_21).toInt64) = ((mm.toInt64) + (k_21.toInt64)))) ht) ?_
  refine own_step (U' := (T28.setTop (mkF m 144 #[.val (.int p1), .val (.int mm), .val (.ref r_21), .val (.int k_21), .val (.long (((mm.toInt64) + (k_21.toInt64)) + (1 : Int64))), .second, .val (.int (1 : Int32)), .val (.int (1 : Int32)), .val (.long ((mm.toInt64) + (k_21.toInt64))), .second] [(.int (1 : Int32))]))) (fun t ht => XS.iconst X28.here hx rfl (hb hby at_143) ht) ?_
  refine own_step (U' := (T28.setTop (mkF m 148 #[.val (.int p1), .val (.int mm), .val (.ref r_21), .val (.int k_21), .val (.long (((mm.toInt64) + (k_21.toInt64)) + (1 : Int64))), .second, .val (.int (1 : Int32)), .val (.int (1 : Int32)), .val (.long ((mm.toInt64) + (k_21.toInt64))), .second] [(.int (1 : Int32))]))) (fun t ht => XS.goto X28.here hx rfl (pc0 := 144) (pc' := 148) rfl (hb hby at_144) (by decide) (by decide) ht) ?_
  refine own_ret X28 (v := (some (.int (nar .boolean (1 : Int32))))) (fun h => by rw [Bd.returns] at h; cases h) Bd.notSynchronized (by decide) (by decide) ?_ (fun fs hr => retN X28 hx (t := .boolean) Bd.returns (by simp) (hb hby at_148) hr)
  show own_Q_law Z p1 l1 h0 n0 _ T28.heap _
  rw [e28]
  exact ⟨rfl, N28⟩
set_option maxRecDepth 65536 in
set_option maxHeartbeats 40000000 in
theorem own_comes {Post : Tables → Env → Array Value → State → Outcome → State → Prop} (hpost : ∀ tb e args s v u, (limb_1_1.after args s (.returned v) u = true ∧ limb_1_2.after args s (.returned v) u = true ∧ True) → FrameEnd s (.returned v) u (Jvm.fieldLocs frame_1_writes args s ++ Jvm.arrayLocs frame_1_arrays args s ++ Jvm.staticLocs frame_1_statics s) 16 128 → Post tb e args s (.returned v) u) :
    ArmFor flags0 classFile x code maxLocals ret World_1 tables_1 room_1 Calls_1 rest_1 Pre_1 Post := by
  intro l hfl _ _ p e ha hc hk s m args below hf hA hF happ hP
  obtain ⟨hcalls, hrest, hpre⟩ := hP
  obtain ⟨-, -, -, hnamed, -, -, -, hat⟩ := (Spec.applies_iff hf).mp happ
  obtain ⟨hg, hn⟩ := and_e (Cond.before_iff.mp (show (Jvm.Cond.and given_1 narrow_1).before args s = true from hpre))
  obtain ⟨hcount, q0⟩ := and_e hg
  have a0 := q0
  obtain ⟨w0, rfl⟩ : ∃ w0 : Value, args = #[w0] := by
    have hs : args.size = 1 := by simpa [Cond.value, given_1] using hcount
    obtain ⟨L⟩ := args
    match L, hs with
    | [w0], _ => exact ⟨w0, rfl⟩
  obtain ⟨i0, e0⟩ := is_v a0
  obtain rfl : w0 = (.int i0) := Option.some.inj e0
  have hw := fun d (hd : d ∈ tables_1) => atoms_spec (ws := Jvm.Cond.code x code maxLocals ret :: tables_1) hat d (List.mem_cons_of_mem _ hd)
  have hfit : Fit s := fun {y c} hc i hi => by
    obtain ⟨ha, rfl⟩ := Array.getElem?_eq_some_iff.mp hc
    have q := List.all_eq_true.mp ((Array.all_eq_true_iff_forall_mem.mp hF) _ (Array.getElem_mem ha)) i (List.mem_range.mpr hi)
    simpa [Array.getElem?_eq_getElem hi] using q
  obtain ⟨xl, el⟩ := exa_v hn
  have Sl := Sta.start el (Or.inr ⟨hw _ (List.mem_of_getElem? (i := 10) rfl), hw _ (List.mem_of_getElem? (i := 11) rfl)⟩)
  obtain ⟨n, o, h1, h2, h3, _, L, rfl, ⟨rfl, N⟩, hq⟩ := own_m_law l s _ hw tables_1 i0 xl s.heap s.heap.size (Nat.le_refl _) Sl p e ha hc hk s m _ below hf ((Spec.applies_iff_loose hf).mp happ).1 ⟨rfl, State.Warmed39.refl s, rfl⟩ trivial
  refine ⟨n, _, h1, h2, h3, hpost _ _ _ _ _ _ ⟨Cond.after_iff.mpr rfl, Cond.after_iff.mpr (eq_i res_at (Term.int_eval (1)) rfl), trivial⟩ ⟨hq.1, hq.2.1, (hq.2.2.sift fun y hy => Or.inr (N y hy)).mono (by decide) (by decide)⟩⟩
theorem main_1_1 : Claimed_1_1 := own_comes fun _ _ _ _ _ _ h hF => ⟨h.1, hF⟩
theorem main_1_2 : Claimed_1_2 := own_comes fun _ _ _ _ _ _ h hF => ⟨h.2.1, hF⟩
end Jvm.Pilot.@@N@@
namespace Jvm.Pilot.@@N@@
open Jvm Jvm.ClassFile Sem Op Lib Jvm.Free Jvm.Stand Jvm.Pilot.@@N@@.Jvm.D
/-! MADE BY PROGRAM (witnessworld.py) out of the Statement's table words and the real class files: 13 classes; the members and pool entries that the words name. The judged class is class 1, her method 1. -/
namespace start1
open Jvm.ClassFile
def u (s : String) : CpInfo := .utf8 (stringToUtf16 s)
/-- a pool by its gaps: so many unusable entries, then the entry; so many at the end -/
def gap : Nat → List CpInfo → List CpInfo
  | 0, r => r
  | n + 1, r => .unusable :: gap n r
def poolList (es : List (Nat × CpInfo)) (last : Nat) : List CpInfo := es.foldr (fun e r => gap e.1 (e.2 :: r)) (gap last [])
def pool (es : List (Nat × CpInfo)) (last : Nat) : Array CpInfo := ⟨poolList es last⟩
def fileOf (pool : Array CpInfo) (this : Nat) (attrs : Array Attribute := #[]) (ms : Array MethodInfo := #[]) (fl : Nat := 33) (sup : Nat := 0) (ifs : Array Nat := #[]) (fds : Array FieldInfo := #[]) : ClassFile where
  minorVersion := 0
  majorVersion := 65
  constantPool := pool
  accessFlags := fl
  thisClass := this
  superClass := sup
  interfaces := ifs
  fields := fds
  methods := ms
  attributes := attrs
def plain (name : String) (sup : Option ClassId) : Class where
  name := name
  kind := .ordinary
  loader := none
  accessFlags := 33
  super := sup
  interfaces := #[]
  cf := none
  fields := #[]
  methods := #[]
  instanceTypes := #[]
  staticTypes := #[]
  resolved := #[]
  callSites := []
  init := .initialized
  statics := none
  mirror := none

def pool0 : Array CpInfo := pool [(5, u "<init>"), (0, u "()V"), (1, .class_ 10), (1, u "java/lang/Object")] 113

def k0c0 : Code := { maxStack := 0, maxLocals := 1, code := object_method_1_code, exceptionTable := #[], attributes := #[] }
def k0m0 : Method := { name := "<init>", desc := "()V", sig := { parameters := [], returnType := none }, accessFlags := 1, code := some k0c0 }
/-- java/lang/Object -/
def k0 : Class := { plain "java/lang/Object" none with
  accessFlags := 33
  interfaces := #[]
  cf := some (fileOf pool0 8 #[] #[{ accessFlags := 1, nameIndex := 5, descriptorIndex := 6, attributes := #[] }] 33 0 #[] #[])
  fields := #[]
  methods := #[k0m0]
  instanceTypes := #[]
  staticTypes := #[]
  resolved := Array.replicate 124 none
  statics := none }

def pool1 : Array CpInfo := pool [(2, .class_ 4), (1, u "java/lang/Object"), (0, u "<init>"), (0, u "()V"), (0, .integer 2147483647), (0, .class_ 9), (0, u "com/example/bitmend/bitmend/code/HammingCode"), (0, .integer 2147483616), (0, .methodref 8 12), (0, .nameAndType 13 14), (0, u "forDataBits"), (0, u "(I)Lcom/example/bitmend/bitmend/code/HammingCode;"), (0, .methodref 8 16), (0, .nameAndType 17 18), (0, u "checkBitCount"), (0, u "()I"), (0, .methodref 8 20), (0, .nameAndType 21 18), (0, u "dataBitCount"), (0, .methodref 8 23), (0, .nameAndType 24 25), (0, u "isExtended"), (0, u "()Z"), (0, .methodref 8 27), (0, .nameAndType 28 29), (0, u "layout"), (0, u "()Lcom/example/bitmend/bitmend/code/Layout;"), (0, .fieldref 31 32), (0, .class_ 33), (0, .nameAndType 34 35), (0, u "com/example/bitmend/bitmend/code/Layout"), (0, u "POSITIONAL"), (0, u "Lcom/example/bitmend/bitmend/code/Layout;"), (0, .methodref 8 37), (0, .nameAndType 38 18), (0, u "positionalLength"), (0, .methodref 8 40), (0, .nameAndType 41 18), (0, u "length"), (0, .class_ 43), (0, u "com/example/bitmend/bitmend/code/HammingCodeForDataBitsPinLaw"), (2, u "law"), (0, u "(I)Z")] 3

def k1m0 : Method := { name := "<init>", desc := "()V", sig := { parameters := [], returnType := none }, accessFlags := 1, code := none }
def k1c1 : Code := { maxStack := 6, maxLocals := 10, code := code, exceptionTable := #[], attributes := #[] }
def k1m1 : Method := { name := "law", desc := "(I)Z", sig := { parameters := [.int], returnType := some .boolean }, accessFlags := 9, code := some k1c1 }
/-- com/example/bitmend/bitmend/code/HammingCodeForDataBitsPinLaw -/
def k1 : Class := { plain "com/example/bitmend/bitmend/code/HammingCodeForDataBitsPinLaw" (some 0) with
  accessFlags := 49
  interfaces := #[]
  cf := some (fileOf pool1 42 #[] #[{ accessFlags := 1, nameIndex := 5, descriptorIndex := 6, attributes := #[] }, { accessFlags := 9, nameIndex := 46, descriptorIndex := 47, attributes := #[] }] 49 2 #[] #[])
  fields := #[]
  methods := #[k1m0, k1m1]
  instanceTypes := #[]
  staticTypes := #[]
  resolved := Array.replicate 51 none
  statics := none }

def pool2 : Array CpInfo := pool [(5, .methodref 6 7), (0, .class_ 8), (0, .nameAndType 9 10), (0, u "java/lang/Object"), (0, u "<init>"), (0, u "()V"), (0, .fieldref 12 13), (0, .class_ 14), (0, .nameAndType 15 16), (0, u "com/example/bitmend/bitmend/code/HammingCode"), (0, u "dataBits"), (0, u "I"), (0, .fieldref 12 18), (0, .nameAndType 19 16), (0, u "checkBits"), (0, .fieldref 12 21), (0, .nameAndType 22 23), (0, u "extended"), (0, u "Z"), (0, .fieldref 12 25), (0, .nameAndType 26 27), (0, u "layout"), (0, u "Lcom/example/bitmend/bitmend/code/Layout;"), (0, .integer 2147483616), (9, .fieldref 39 40), (0, .class_ 41), (0, .nameAndType 42 27), (0, u "com/example/bitmend/bitmend/code/Layout"), (0, u "POSITIONAL"), (0, .methodref 12 44), (0, .nameAndType 9 45), (0, u "(IIZLcom/example/bitmend/bitmend/code/Layout;)V"), (11, u "forDataBits"), (0, u "(I)Lcom/example/bitmend/bitmend/code/HammingCode;"), (29, .methodref 12 89), (0, .nameAndType 90 91), (0, u "positionalLength"), (0, u "()I"), (82, u "length"), (23, .class_ 200), (1, u "com/example/bitmend/bitmend/code/HammingCode$1"), (57, u "packedTables"), (2, .class_ 263), (1, u "com/example/bitmend/bitmend/code/HammingCode$PackedTables"), (40, u "byteTables"), (8, .class_ 315), (1, u "com/example/bitmend/bitmend/code/HammingCode$ByteTables"), (72, u "Lcom/example/bitmend/bitmend/code/HammingCode$PackedTables;"), (11, u "Lcom/example/bitmend/bitmend/code/HammingCode$ByteTables;"), (19, u "BIG_ENDIAN_LONGS"), (0, u "Ljava/lang/invoke/VarHandle;"), (38, u "MAX_DATA_BITS"), (1, u "MAX_PACKED_LENGTH"), (1, u "MAX_BYTES_LENGTH"), (9, u "()Lcom/example/bitmend/bitmend/code/Layout;"), (0, u "isExtended"), (0, u "()Z"), (0, u "dataBitCount"), (0, u "checkBitCount")] 115

def k2c0 : Code := { maxStack := 2, maxLocals := 5, code := prog_9_method_1_code, exceptionTable := #[], attributes := #[] }
def k2m0 : Method := { name := "<init>", desc := "(IIZLcom/example/bitmend/bitmend/code/Layout;)V", sig := { parameters := [.int, .int, .boolean, (.object "com/example/bitmend/bitmend/code/Layout")], returnType := none }, accessFlags := 2, code := some k2c0 }
def k2c1 : Code := { maxStack := 6, maxLocals := 2, code := prog_9_method_2_code, exceptionTable := #[], attributes := #[] }
def k2m1 : Method := { name := "forDataBits", desc := "(I)Lcom/example/bitmend/bitmend/code/HammingCode;", sig := { parameters := [.int], returnType := some (.object "com/example/bitmend/bitmend/code/HammingCode") }, accessFlags := 9, code := some k2c1 }
def k2c2 : Code := { maxStack := 1, maxLocals := 1, code := prog_9_method_10_code, exceptionTable := #[], attributes := #[] }
def k2m2 : Method := { name := "layout", desc := "()Lcom/example/bitmend/bitmend/code/Layout;", sig := { parameters := [], returnType := some (.object "com/example/bitmend/bitmend/code/Layout") }, accessFlags := 1, code := some k2c2 }
def k2c3 : Code := { maxStack := 1, maxLocals := 1, code := prog_9_method_11_code, exceptionTable := #[], attributes := #[] }
def k2m3 : Method := { name := "isExtended", desc := "()Z", sig := { parameters := [], returnType := some .boolean }, accessFlags := 1, code := some k2c3 }
def k2c4 : Code := { maxStack := 1, maxLocals := 1, code := prog_9_method_12_code, exceptionTable := #[], attributes := #[] }
def k2m4 : Method := { name := "dataBitCount", desc := "()I", sig := { parameters := [], returnType := some .int }, accessFlags := 1, code := some k2c4 }
def k2c5 : Code := { maxStack := 1, maxLocals := 1, code := prog_9_method_13_code, exceptionTable := #[], attributes := #[] }
def k2m5 : Method := { name := "checkBitCount", desc := "()I", sig := { parameters := [], returnType := some .int }, accessFlags := 1, code := some k2c5 }
def k2c6 : Code := { maxStack := 2, maxLocals := 1, code := prog_9_method_14_code, exceptionTable := #[], attributes := #[] }
def k2m6 : Method := { name := "length", desc := "()I", sig := { parameters := [], returnType := some .int }, accessFlags := 1, code := some k2c6 }
def k2c7 : Code := { maxStack := 2, maxLocals := 1, code := prog_9_method_15_code, exceptionTable := #[], attributes := #[] }
def k2m7 : Method := { name := "positionalLength", desc := "()I", sig := { parameters := [], returnType := some .int }, accessFlags := 1, code := some k2c7 }
/-- com/example/bitmend/bitmend/code/HammingCode -/
def k2 : Class := { plain "com/example/bitmend/bitmend/code/HammingCode" (some 0) with
  accessFlags := 49
  interfaces := #[]
  cf := some (fileOf pool2 12 #[.nestMembers #[198, 313, 261]] #[{ accessFlags := 2, nameIndex := 9, descriptorIndex := 45, attributes := #[] }, { accessFlags := 9, nameIndex := 57, descriptorIndex := 58, attributes := #[] }, { accessFlags := 1, nameIndex := 26, descriptorIndex := 474, attributes := #[] }, { accessFlags := 1, nameIndex := 475, descriptorIndex := 476, attributes := #[] }, { accessFlags := 1, nameIndex := 477, descriptorIndex := 91, attributes := #[] }, { accessFlags := 1, nameIndex := 478, descriptorIndex := 91, attributes := #[] }, { accessFlags := 1, nameIndex := 174, descriptorIndex := 91, attributes := #[] }, { accessFlags := 1, nameIndex := 90, descriptorIndex := 91, attributes := #[] }] 49 6 #[] #[{ accessFlags := 25, nameIndex := 460, descriptorIndex := 16, attributes := #[] }, { accessFlags := 25, nameIndex := 462, descriptorIndex := 16, attributes := #[] }, { accessFlags := 25, nameIndex := 464, descriptorIndex := 16, attributes := #[] }, { accessFlags := 26, nameIndex := 420, descriptorIndex := 421, attributes := #[] }, { accessFlags := 18, nameIndex := 15, descriptorIndex := 16, attributes := #[] }, { accessFlags := 18, nameIndex := 19, descriptorIndex := 16, attributes := #[] }, { accessFlags := 18, nameIndex := 22, descriptorIndex := 23, attributes := #[] }, { accessFlags := 18, nameIndex := 26, descriptorIndex := 27, attributes := #[] }, { accessFlags := 2, nameIndex := 258, descriptorIndex := 388, attributes := #[] }, { accessFlags := 2, nameIndex := 304, descriptorIndex := 400, attributes := #[] }])
  fields := #[{ name := "MAX_DATA_BITS", type := .int, accessFlags := 25, slot := 0, constantValue := 0 }, { name := "MAX_PACKED_LENGTH", type := .int, accessFlags := 25, slot := 1, constantValue := 0 }, { name := "MAX_BYTES_LENGTH", type := .int, accessFlags := 25, slot := 2, constantValue := 0 }, { name := "BIG_ENDIAN_LONGS", type := (.object "java/lang/invoke/VarHandle"), accessFlags := 26, slot := 3, constantValue := 0 }, { name := "dataBits", type := .int, accessFlags := 18, slot := 0, constantValue := 0 }, { name := "checkBits", type := .int, accessFlags := 18, slot := 1, constantValue := 0 }, { name := "extended", type := .boolean, accessFlags := 18, slot := 2, constantValue := 0 }, { name := "layout", type := (.object "com/example/bitmend/bitmend/code/Layout"), accessFlags := 18, slot := 3, constantValue := 0 }, { name := "packedTables", type := (.object "com/example/bitmend/bitmend/code/HammingCode$PackedTables"), accessFlags := 2, slot := 4, constantValue := 0 }, { name := "byteTables", type := (.object "com/example/bitmend/bitmend/code/HammingCode$ByteTables"), accessFlags := 2, slot := 5, constantValue := 0 }]
  methods := #[k2m0, k2m1, k2m2, k2m3, k2m4, k2m5, k2m6, k2m7]
  instanceTypes := #[.int, .int, .boolean, (.object "com/example/bitmend/bitmend/code/Layout"), (.object "com/example/bitmend/bitmend/code/HammingCode$PackedTables"), (.object "com/example/bitmend/bitmend/code/HammingCode$ByteTables")]
  staticTypes := #[.int, .int, .int, (.object "java/lang/invoke/VarHandle")]
  resolved := Array.replicate 594 none
  statics := none }

def pool3 : Array CpInfo := pool [(1, .class_ 2), (0, u "java/lang/constant/Constable"), (0, .class_ 4), (0, u "java/lang/Object")] 6

/-- java/lang/constant/Constable -/
def k3 : Class := { plain "java/lang/constant/Constable" (some 0) with
  accessFlags := 1537
  interfaces := #[]
  cf := some (fileOf pool3 1 #[] #[] 1537 3 #[] #[])
  fields := #[]
  methods := #[]
  instanceTypes := #[]
  staticTypes := #[]
  resolved := Array.replicate 11 none
  statics := none }

def pool4 : Array CpInfo := pool [(1, .class_ 2), (0, u "java/lang/Comparable"), (0, .class_ 4), (0, u "java/lang/Object")] 7

/-- java/lang/Comparable -/
def k4 : Class := { plain "java/lang/Comparable" (some 0) with
  accessFlags := 1537
  interfaces := #[]
  cf := some (fileOf pool4 1 #[] #[] 1537 3 #[] #[])
  fields := #[]
  methods := #[]
  instanceTypes := #[]
  staticTypes := #[]
  resolved := Array.replicate 12 none
  statics := none }

def pool5 : Array CpInfo := pool [(1, .class_ 2), (0, u "java/io/Serializable"), (0, .class_ 4), (0, u "java/lang/Object")] 2

/-- java/io/Serializable -/
def k5 : Class := { plain "java/io/Serializable" (some 0) with
  accessFlags := 1537
  interfaces := #[]
  cf := some (fileOf pool5 1 #[] #[] 1537 3 #[] #[])
  fields := #[]
  methods := #[]
  instanceTypes := #[]
  staticTypes := #[]
  resolved := Array.replicate 7 none
  statics := none }

def pool6 : Array CpInfo := pool [(2, .class_ 4), (1, u "java/lang/Enum"), (0, u "name"), (0, u "Ljava/lang/String;"), (2, u "ordinal"), (0, u "I"), (1, .class_ 14), (1, u "java/lang/Object"), (4, u "hash"), (86, .class_ 108), (1, u "java/lang/Enum$EnumDesc"), (2, .class_ 112), (0, u "java/lang/constant/Constable"), (0, .class_ 114), (0, u "java/lang/Comparable"), (0, .class_ 116), (0, u "java/io/Serializable")] 87

/-- java/lang/Enum -/
def k6 : Class := { plain "java/lang/Enum" (some 0) with
  accessFlags := 1057
  interfaces := #[3, 4, 5]
  cf := some (fileOf pool6 2 #[.nestMembers #[106]] #[] 1057 12 #[111, 113, 115] #[{ accessFlags := 18, nameIndex := 5, descriptorIndex := 6, attributes := #[] }, { accessFlags := 18, nameIndex := 9, descriptorIndex := 10, attributes := #[] }, { accessFlags := 2, nameIndex := 19, descriptorIndex := 10, attributes := #[] }])
  fields := #[{ name := "name", type := (.object "java/lang/String"), accessFlags := 18, slot := 0, constantValue := 0 }, { name := "ordinal", type := .int, accessFlags := 18, slot := 1, constantValue := 0 }, { name := "hash", type := .int, accessFlags := 2, slot := 2, constantValue := 0 }]
  methods := #[]
  instanceTypes := #[(.object "java/lang/String"), .int, .int]
  staticTypes := #[]
  resolved := Array.replicate 204 none
  statics := none }

def pool7 : Array CpInfo := pool [(1, .class_ 2), (0, u "com/example/bitmend/bitmend/code/Layout"), (2, u "POSITIONAL"), (0, u "Lcom/example/bitmend/bitmend/code/Layout;"), (2, u "SYSTEMATIC"), (2, u "CYCLIC"), (2, u "$VALUES"), (0, u "[Lcom/example/bitmend/bitmend/code/Layout;"), (6, .class_ 25), (1, u "java/lang/Enum")] 42

/-- com/example/bitmend/bitmend/code/Layout -/
def k7 : Class := { plain "com/example/bitmend/bitmend/code/Layout" (some 6) with
  accessFlags := 16433
  interfaces := #[]
  cf := some (fileOf pool7 1 #[] #[] 16433 23 #[] #[{ accessFlags := 16409, nameIndex := 5, descriptorIndex := 6, attributes := #[] }, { accessFlags := 16409, nameIndex := 9, descriptorIndex := 6, attributes := #[] }, { accessFlags := 16409, nameIndex := 12, descriptorIndex := 6, attributes := #[] }, { accessFlags := 4122, nameIndex := 15, descriptorIndex := 16, attributes := #[] }])
  fields := #[{ name := "POSITIONAL", type := (.object "com/example/bitmend/bitmend/code/Layout"), accessFlags := 16409, slot := 0, constantValue := 0 }, { name := "SYSTEMATIC", type := (.object "com/example/bitmend/bitmend/code/Layout"), accessFlags := 16409, slot := 1, constantValue := 0 }, { name := "CYCLIC", type := (.object "com/example/bitmend/bitmend/code/Layout"), accessFlags := 16409, slot := 2, constantValue := 0 }, { name := "$VALUES", type := (.array (.object "com/example/bitmend/bitmend/code/Layout")), accessFlags := 4122, slot := 3, constantValue := 0 }]
  methods := #[]
  instanceTypes := #[(.object "java/lang/String"), .int, .int]
  staticTypes := #[(.object "com/example/bitmend/bitmend/code/Layout"), (.object "com/example/bitmend/bitmend/code/Layout"), (.object "com/example/bitmend/bitmend/code/Layout"), (.array (.object "com/example/bitmend/bitmend/code/Layout"))]
  resolved := Array.replicate 68 none
  statics := some 0 }

def pool8 : Array CpInfo := pool [(1, u "java/lang/Cloneable"), (0, .class_ 1), (0, u "java/lang/Object"), (0, .class_ 3)] 3

/-- java/lang/Cloneable -/
def k8 : Class := { plain "java/lang/Cloneable" (some 0) with
  accessFlags := 1537
  interfaces := #[]
  cf := some (fileOf pool8 2 #[] #[] 1537 4 #[] #[])
  fields := #[]
  methods := #[]
  instanceTypes := #[]
  staticTypes := #[]
  resolved := Array.replicate 8 none
  statics := none }

/-- the primitive byte -/
def k9 : Class := { plain "byte" none with kind := .primitive 'B', accessFlags := 0x411 }
/-- [B -/
def k10 : Class := { plain "[B" (some 0) with kind := .array 9 .byte, interfaces := #[8, 5], accessFlags := 1041 }

/-- the primitive int -/
def k11 : Class := { plain "int" none with kind := .primitive 'I', accessFlags := 0x411 }
/-- [I -/
def k12 : Class := { plain "[I" (some 0) with kind := .array 11 .int, interfaces := #[8, 5], accessFlags := 1041 }

def heap : Heap := #[{ cls := 7, slots := #[.ref 1, .null, .null, .null], vm := .statics 7 },
  { cls := 7, slots := #[.null, .int 0, .int 0], vm := .none }]
def classes : Array Class := #[k0, k1, k2, k3, k4, k5, k6, k7, k8, k9, k10, k11, k12]
def interned : List (Array UInt16 × Addr) := []
def slotsUsed : Nat := 7
def theMethod : MethodId := ⟨1, 1⟩
def args0 : Array Value := #[.int 5]
def aboutOver (below : List Frame) : State where
  vm := { classes := classes, interned := interned.toArray }
  heap := heap
  slotsUsed := slotsUsed
  threads := #[{ frames := .invoking theMethod args0 :: below }]
def below0 : List Frame := [.native { method := ⟨0, 0⟩, args := #[] }]
def about1 : State := aboutOver below0
def p0 : Program := .bare "" "" ""
def e0 : Env := launch0.env 0 0 0
theorem w_frames : about1.frames = Frame.invoking theMethod args0 :: below0 := rfl
set_option maxRecDepth 65536 in
theorem w_args : argsFit about1.vm theMethod args0 = true := by decide +kernel
set_option maxRecDepth 65536 in
theorem w_heap : heapFits about1 = true := by decide +kernel
set_option maxRecDepth 65536 in
theorem w_runnable : about1.curStatus? = some .runnable := by decide +kernel
set_option maxRecDepth 65536 in
theorem w_alone : about1.alone = true := by decide +kernel
set_option maxRecDepth 65536 in
theorem w_named : about1.methodNamed? x = some theMethod := by decide +kernel
set_option maxRecDepth 65536 in
theorem w_hears : about1.hears theMethod below0 = true := by decide +kernel
set_option maxRecDepth 65536 in
theorem w_ripe : about1.ripe theMethod args0 below0 = true := by decide +kernel
theorem w_running : about1.status = .running := rfl
set_option maxRecDepth 65536 in
theorem w_room : about1.hasRoom e0.platform room_1 = true :=
  launch0.hasRoom_least _ room_1 (by decide +kernel) (by decide +kernel) (by decide +kernel) (by decide +kernel) (by decide +kernel) (by decide +kernel)
theorem allAtoms_all (ts : List Jvm.Cond) (a : Array Jvm.Value) (st : Jvm.State) : (allAtoms ts).before a st = ts.all (fun c => c.before a st) := by
  induction ts with
  | nil => rfl
  | cons c t ih =>
    show (Jvm.Cond.and c (allAtoms t)).before a st = _
    rw [Jvm.Cond.before_and, ih, List.all_cons]
def words1 : List Jvm.Cond := Jvm.Cond.code x code maxLocals ret :: tables_1
/-- a 'code' word, met by the world's own term for the bytes: nothing is compared byte by byte -/
theorem code_word {y : MethodName} {bytes : ByteArray} {mx : Nat} {rt : Option FieldType} {a : Array Value} {s : State} {m : MethodId} {meth : Method} {c : Code} (h1 : s.methodNamed? y = some m) (h2 : s.vm.method? m = some meth) (h3 : meth.code = some c) (h4 : c.code = bytes)
    (h5 : (c.maxLocals == mx && c.exceptionTable.isEmpty && decide (c.maxStack ≤ mostOperands) && decide (meth.sig.returnType = rt) && !meth.locks && decide (parseMethodDescriptor y.desc = some meth.sig)) = true) : (Jvm.Cond.code y bytes mx rt).before a s = true := by
  simp only [Bool.and_eq_true, beq_iff_eq, Bool.not_eq_true', decide_eq_true_eq] at h5
  obtain ⟨⟨⟨⟨⟨g1, g2⟩, g3⟩, g4⟩, g5⟩, g6⟩ := h5
  simp [Cond.before, Cond.holds, Cond.value, h1, h2, h3, h4, g1, g2, g3, g4, g5, g6]
def isCode : Jvm.Cond → Bool
  | .code _ _ _ _ => true
  | _ => false
theorem all_split {L : List Jvm.Cond} {P : Jvm.Cond → Bool} (h1 : L.all (fun c => isCode c || P c) = true) (h2 : ∀ c ∈ L.filter isCode, P c = true) : L.all P = true := by
  refine List.all_eq_true.mpr fun c hc => ?_
  have h := List.all_eq_true.mp h1 c hc
  rcases Bool.eq_false_or_eq_true (isCode c) with hi | hi
  · exact h2 c (List.mem_filter.mpr ⟨hc, hi⟩)
  · simpa [hi] using h
set_option maxRecDepth 65536 in
theorem w_c0 : (Jvm.Cond.code x code maxLocals ret).before args0 about1 = true := code_word (m := ⟨1, 1⟩) (meth := k1m1) (c := k1c1) (by decide +kernel) rfl rfl rfl (by decide +kernel)
set_option maxRecDepth 65536 in
theorem w_c1 : (Jvm.Cond.code ({ cls := "com/example/bitmend/bitmend/code/HammingCode", name := "forDataBits", desc := "(I)Lcom/example/bitmend/bitmend/code/HammingCode;" } : Jvm.MethodName) prog_9_method_2_code (2 : Nat) (Option.some (Jvm.ClassFile.FieldType.object "com/example/bitmend/bitmend/code/HammingCode"))).before args0 about1 = true := code_word (m := ⟨2, 1⟩) (meth := k2m1) (c := k2c1) (by decide +kernel) rfl rfl rfl (by decide +kernel)
set_option maxRecDepth 65536 in
theorem w_c2 : (Jvm.Cond.code ({ cls := "com/example/bitmend/bitmend/code/HammingCode", name := "<init>", desc := "(IIZLcom/example/bitmend/bitmend/code/Layout;)V" } : Jvm.MethodName) prog_9_method_1_code (5 : Nat) (Option.none : Option Jvm.ClassFile.FieldType)).before args0 about1 = true := code_word (m := ⟨2, 0⟩) (meth := k2m0) (c := k2c0) (by decide +kernel) rfl rfl rfl (by decide +kernel)
set_option maxRecDepth 65536 in
theorem w_c3 : (Jvm.Cond.code ({ cls := "java/lang/Object", name := "<init>", desc := "()V" } : Jvm.MethodName) object_method_1_code (1 : Nat) (Option.none : Option Jvm.ClassFile.FieldType)).before args0 about1 = true := code_word (m := ⟨0, 0⟩) (meth := k0m0) (c := k0c0) (by decide +kernel) rfl rfl rfl (by decide +kernel)
set_option maxRecDepth 65536 in
theorem w_c4 : (Jvm.Cond.code ({ cls := "com/example/bitmend/bitmend/code/HammingCode", name := "checkBitCount", desc := "()I" } : Jvm.MethodName) prog_9_method_13_code (1 : Nat) (Option.some Jvm.ClassFile.FieldType.int)).before args0 about1 = true := code_word (m := ⟨2, 5⟩) (meth := k2m5) (c := k2c5) (by decide +kernel) rfl rfl rfl (by decide +kernel)
set_option maxRecDepth 65536 in
theorem w_c5 : (Jvm.Cond.code ({ cls := "com/example/bitmend/bitmend/code/HammingCode", name := "dataBitCount", desc := "()I" } : Jvm.MethodName) prog_9_method_12_code (1 : Nat) (Option.some Jvm.ClassFile.FieldType.int)).before args0 about1 = true := code_word (m := ⟨2, 4⟩) (meth := k2m4) (c := k2c4) (by decide +kernel) rfl rfl rfl (by decide +kernel)
set_option maxRecDepth 65536 in
theorem w_c6 : (Jvm.Cond.code ({ cls := "com/example/bitmend/bitmend/code/HammingCode", name := "isExtended", desc := "()Z" } : Jvm.MethodName) prog_9_method_11_code (1 : Nat) (Option.some Jvm.ClassFile.FieldType.boolean)).before args0 about1 = true := code_word (m := ⟨2, 3⟩) (meth := k2m3) (c := k2c3) (by decide +kernel) rfl rfl rfl (by decide +kernel)
set_option maxRecDepth 65536 in
theorem w_c7 : (Jvm.Cond.code ({ cls := "com/example/bitmend/bitmend/code/HammingCode", name := "layout", desc := "()Lcom/example/bitmend/bitmend/code/Layout;" } : Jvm.MethodName) prog_9_method_10_code (1 : Nat) (Option.some (Jvm.ClassFile.FieldType.object "com/example/bitmend/bitmend/code/Layout"))).before args0 about1 = true := code_word (m := ⟨2, 2⟩) (meth := k2m2) (c := k2c2) (by decide +kernel) rfl rfl rfl (by decide +kernel)
set_option maxRecDepth 65536 in
theorem w_c8 : (Jvm.Cond.code ({ cls := "com/example/bitmend/bitmend/code/HammingCode", name := "positionalLength", desc := "()I" } : Jvm.MethodName) prog_9_method_15_code (1 : Nat) (Option.some Jvm.ClassFile.FieldType.int)).before args0 about1 = true := code_word (m := ⟨2, 7⟩) (meth := k2m7) (c := k2c7) (by decide +kernel) rfl rfl rfl (by decide +kernel)
set_option maxRecDepth 65536 in
theorem w_c9 : (Jvm.Cond.code ({ cls := "com/example/bitmend/bitmend/code/HammingCode", name := "length", desc := "()I" } : Jvm.MethodName) prog_9_method_14_code (1 : Nat) (Option.some Jvm.ClassFile.FieldType.int)).before args0 about1 = true := code_word (m := ⟨2, 6⟩) (meth := k2m6) (c := k2c6) (by decide +kernel) rfl rfl rfl (by decide +kernel)
def codes1 : List Jvm.Cond := [Jvm.Cond.code x code maxLocals ret, Jvm.Cond.code ({ cls := "com/example/bitmend/bitmend/code/HammingCode", name := "forDataBits", desc := "(I)Lcom/example/bitmend/bitmend/code/HammingCode;" } : Jvm.MethodName) prog_9_method_2_code (2 : Nat) (Option.some (Jvm.ClassFile.FieldType.object "com/example/bitmend/bitmend/code/HammingCode")), Jvm.Cond.code ({ cls := "com/example/bitmend/bitmend/code/HammingCode", name := "<init>", desc := "(IIZLcom/example/bitmend/bitmend/code/Layout;)V" } : Jvm.MethodName) prog_9_method_1_code (5 : Nat) (Option.none : Option Jvm.ClassFile.FieldType), Jvm.Cond.code ({ cls := "java/lang/Object", name := "<init>", desc := "()V" } : Jvm.MethodName) object_method_1_code (1 : Nat) (Option.none : Option Jvm.ClassFile.FieldType), Jvm.Cond.code ({ cls := "com/example/bitmend/bitmend/code/HammingCode", name := "checkBitCount", desc := "()I" } : Jvm.MethodName) prog_9_method_13_code (1 : Nat) (Option.some Jvm.ClassFile.FieldType.int), Jvm.Cond.code ({ cls := "com/example/bitmend/bitmend/code/HammingCode", name := "dataBitCount", desc := "()I" } : Jvm.MethodName) prog_9_method_12_code (1 : Nat) (Option.some Jvm.ClassFile.FieldType.int), Jvm.Cond.code ({ cls := "com/example/bitmend/bitmend/code/HammingCode", name := "isExtended", desc := "()Z" } : Jvm.MethodName) prog_9_method_11_code (1 : Nat) (Option.some Jvm.ClassFile.FieldType.boolean), Jvm.Cond.code ({ cls := "com/example/bitmend/bitmend/code/HammingCode", name := "layout", desc := "()Lcom/example/bitmend/bitmend/code/Layout;" } : Jvm.MethodName) prog_9_method_10_code (1 : Nat) (Option.some (Jvm.ClassFile.FieldType.object "com/example/bitmend/bitmend/code/Layout")), Jvm.Cond.code ({ cls := "com/example/bitmend/bitmend/code/HammingCode", name := "positionalLength", desc := "()I" } : Jvm.MethodName) prog_9_method_15_code (1 : Nat) (Option.some Jvm.ClassFile.FieldType.int), Jvm.Cond.code ({ cls := "com/example/bitmend/bitmend/code/HammingCode", name := "length", desc := "()I" } : Jvm.MethodName) prog_9_method_14_code (1 : Nat) (Option.some Jvm.ClassFile.FieldType.int)]
set_option maxRecDepth 65536 in
theorem codes_eq : words1.filter isCode = codes1 := rfl
theorem w_codes : ∀ c ∈ words1.filter isCode, c.before args0 about1 = true := by
  rw [codes_eq]
  intro c hc
  simp only [codes1, List.mem_cons, List.not_mem_nil, or_false] at hc
  rcases hc with rfl | rfl | rfl | rfl | rfl | rfl | rfl | rfl | rfl | rfl
  · exact w_c0
  · exact w_c1
  · exact w_c2
  · exact w_c3
  · exact w_c4
  · exact w_c5
  · exact w_c6
  · exact w_c7
  · exact w_c8
  · exact w_c9
set_option maxRecDepth 65536 in
theorem w_t1 : (words1.take 24).all (fun c => isCode c || c.before args0 about1) = true := by decide +kernel
set_option maxRecDepth 65536 in
theorem w_t2 : ((words1.drop 24).take 24).all (fun c => isCode c || c.before args0 about1) = true := by decide +kernel
set_option maxRecDepth 65536 in
theorem w_t3 : ((words1.drop 24).drop 24).all (fun c => isCode c || c.before args0 about1) = true := by decide +kernel
theorem w_tables : (allAtoms (Jvm.Cond.code x code maxLocals ret :: tables_1)).before args0 about1 = true := by
  rw [allAtoms_all]
  show words1.all (fun c => c.before args0 about1) = true
  refine all_split ?_ w_codes
  rw [← List.take_append_drop 24 words1, List.all_append, w_t1, ← List.take_append_drop 24 (words1.drop 24), List.all_append, w_t2, w_t3]
  rfl
set_option maxRecDepth 65536 in
theorem w_case : (Jvm.Cond.and given_1 narrow_1).before args0 about1 = true := by decide +kernel
theorem w_applies : (headSpec (Jvm.Cond.code x code maxLocals ret :: tables_1) room_1).applies x e0.platform about1 = true :=
  (Spec.applies_iff w_frames).mpr ⟨w_running, w_runnable, w_alone, w_named, w_hears, w_ripe, w_room, w_tables⟩
theorem atStart : AtStart classFile x code maxLocals ret World_1 tables_1 room_1 Calls_1 rest_1 Pre_1 launch0 p0 e0 about1 theMethod args0 below0 :=
  ⟨lists_1, trivial, launch0.admits_env _ _ _, launch0.least_env, fairChoices_fair.cas, fairChoices_fair.clock, w_frames, w_args, w_heap, w_applies, trivial, trivial, w_case⟩
end start1
theorem witness_1 : WitnessClaimed_1 := ⟨start1.p0, start1.e0, start1.about1, start1.theMethod, start1.args0, start1.below0, start1.atStart⟩
end Jvm.Pilot.@@N@@
