import JvmDerived
import JvmDerived.Pilot.@@N@@Statement
import JvmDerived.Pilot.@@N@@Code
set_option linter.unusedVariables false
set_option linter.unusedSimpArgs false
@@BLOCK:NumsL.lean.txt@@
@@BLOCK:LamKit.lean.txt@@
namespace Jvm.RoadKit
open Sem ClassFile Op Lib Jvm.Stand Jvm.Free Jvm.LawKit
section New
variable {p : Program} {l : Launch} {e : Env} {R : Room} {s : State} {m : MethodId} {args : Array Value} {below : List Frame} {meth : Method} {c : Code} {T : State} {locs : List Loc} {cells slots : Nat}
theorem retI (X : Stand p l e R s m args below meth c T locs cells slots) (hx : p.tables.exec = Jvm.exec) {pc : Nat} {Ls : Array Slot} {z : Int32} {rest : List Value} (hret : meth.sig.returnType = some .int) (hd : decode c.code pc = .ok (.ireturn, 1)) {fs : List Frame}
    (hl : ∀ (f : JFrame) (acts : List Action), f.method = m → f.locked = none → f.entered = [] → (doReturn e (T.setTop f) acts (some (.int z))).1 = T.setFrames fs) : Steps p.tables e below (T.setTop (mkF m pc Ls (.int z :: rest))) (T.setFrames fs) := by
  have hm' : T.vm.method? m = some meth := X.method'
  have hn : narrow .int (.int z) = .int z := rfl
  show Steps p.tables e below (T.setTop { method := m, pc := pc, locals := Ls, stack := _ :: rest, locked := none }) _
  jvm_step X.here [X.here.top, hx, hd, hm', hret, hn]
  first | (intro acts; rw [hl _ acts rfl rfl rfl]) | rw [hl _ _ rfl rfl rfl]
  exact Steps.refl _
end New
end Jvm.RoadKit
namespace Jvm.Pilot.@@N@@
open Jvm Jvm.ClassFile Sem Op Lib Jvm.Free Jvm.Stand Jvm.LawKit Jvm.RoadKit Bundle Jvm.Pilot.@@N@@.Jvm.D
section Own
variable {p : Program} {l : Launch} {e : Env} {R : Room} {s : State} {m : MethodId} {args : Array Value} {below : List Frame} {meth : Method} {c : Code} {T : State} {locs : List Loc} {cells slots : Nat}
/-- from U the run comes to an end that Q allows -/
def own_Go (p : Program) (e : Env) (below : List Frame) (s : State) (kc ks : Nat) (Q : Option Value → Heap → List Loc → Prop) (U : State) : Prop :=
  ∃ s₂ o, Steps p.tables e below U s₂ ∧ s₂.status = .running ∧ Ended s₂ below o ∧ ∃ v L, o = .returned v ∧ Q v s₂.heap L ∧ FrameEnd s o s₂ L kc ks
theorem own_step {kc ks : Nat} {Q : Option Value → Heap → List Loc → Prop} {U U' : State} (k : ∀ t, Steps p.tables e below U' t → Steps p.tables e below U t) (g : own_Go p e below s kc ks Q U') : own_Go p e below s kc ks Q U := by
  obtain ⟨s₂, o, h, r⟩ := g
  exact ⟨s₂, o, k _ h, r⟩
theorem own_ret {kc ks : Nat} {Q : Option Value → Heap → List Loc → Prop} {U : State} (X : Stand p l e R s m args below meth c T locs cells slots) {v : Option Value} (hv : meth.sig.returnType = none → v = none) (hlocks : meth.locks = false) (hk : cells ≤ kc) (hs : slots ≤ ks) (hq : Q v T.heap locs)
    (k : ∀ fs, (∀ (f : JFrame) (acts : List Action), f.method = m → f.locked = none → f.entered = [] → (doReturn e (T.setTop f) acts v).1 = T.setFrames fs) → Steps p.tables e below U (T.setFrames fs)) : own_Go p e below s kc ks Q U := by
  obtain ⟨fs, hr, hrun, hended, hW, hsame⟩ := X.leave (v := v) hv hlocks
  exact ⟨_, _, k fs hr, hrun, hended, v, locs, rfl, hq, ⟨_, rfl⟩, hW, hsame.mono hk hs⟩
def own_GoW (p : Program) (e : Env) (below : List Frame) (s : State) (kc ks : Nat) (Q : Option Value → Heap → List Loc → Prop) (U : State) : Prop :=
  ∃ s₂ o, Steps p.tables e below U s₂ ∧ s₂.status = .running ∧ Ended s₂ below o ∧ ∃ v L, o = .returned v ∧ Q v s₂.heap L ∧ ReturnedEndW s o s₂ L kc ks
theorem own_stepW {kc ks : Nat} {Q : Option Value → Heap → List Loc → Prop} {U U' : State} (k : ∀ t, Steps p.tables e below U' t → Steps p.tables e below U t) (g : own_GoW p e below s kc ks Q U') : own_GoW p e below s kc ks Q U := by
  obtain ⟨s₂, o, h, r⟩ := g
  exact ⟨s₂, o, k _ h, r⟩
theorem own_retW {kc ks : Nat} {Q : Option Value → Heap → List Loc → Prop} {U : State} {vm₁ : Vm} {n : Nat} (X : Stand p l e R (s.setVm vm₁) m args below meth c T locs cells slots) (hS : s.Since vm₁ n) (hn : n ≤ T.heap.size) {v : Option Value} (hv : meth.sig.returnType = none → v = none) (hlocks : meth.locks = false) (hk : cells ≤ kc) (hs : slots ≤ ks) (hq : Q v T.heap locs)
    (k : ∀ fs, (∀ (f : JFrame) (acts : List Action), f.method = m → f.locked = none → f.entered = [] → (doReturn e (T.setTop f) acts v).1 = T.setFrames fs) → Steps p.tables e below U (T.setFrames fs)) : own_GoW p e below s kc ks Q U := by
  obtain ⟨fs, hr, hrun, hended, h1, h2, h3, h4⟩ := X.leaveW hS hn (v := v) hv hlocks
  exact ⟨_, _, k fs hr, hrun, hended, v, locs, rfl, hq, h1, h2, h3, h4.mono hk hs⟩
theorem own_narR {t : FieldType} {v : Value} (h : v.isRef = true) : narrow t v = v := by cases v <;> first | (cases h; done) | (cases t <;> rfl)
theorem own_fitR {t : String} {v : Value} (h : v.isRef = true) : fits (.object t) v = true := by cases v <;> first | (cases h; done) | rfl
theorem own_at {h : Heap} {a : Addr} {k : Cell} (e : T.heap = h) (q : h[a]? = some k) : T.heap[a]? = some k := e ▸ q
theorem own_pl0 {h : Heap} : ∀ a ∈ ([] : List Addr), ∀ c : Cell, h[a]? = some c → c.vm.isStatics = false := fun _ q => nomatch q
theorem own_plE {Z : State} {h : Heap} {a : Addr} {C : String} {ws : List Addr} (E : Exa Z h a C) (r : ∀ x ∈ ws, ∀ c : Cell, h[x]? = some c → c.vm.isStatics = false) : ∀ x ∈ a :: ws, ∀ c : Cell, h[x]? = some c → c.vm.isStatics = false := fun x hx c hc => by
  rcases List.mem_cons.mp hx with rfl | q
  · obtain ⟨cell, k, h1, -, -, h4, -⟩ := E
    cases h1.symm.trans hc; exact h4
  · exact r x q c hc
theorem own_plF {Z : State} {h : Heap} {a : Addr} {C n d : String} {v : Value} {ws : List Addr} (E : Fld Z h a C n d v) (r : ∀ x ∈ ws, ∀ c : Cell, h[x]? = some c → c.vm.isStatics = false) : ∀ x ∈ a :: ws, ∀ c : Cell, h[x]? = some c → c.vm.isStatics = false := fun x hx c hc => by
  rcases List.mem_cons.mp hx with rfl | q
  · exact old_plain E c hc
  · exact r x q c hc
theorem own_plV {Z : State} {h : Heap} {a : Addr} {k : ClassId} {ty : FieldType} {z : Int32} {vs : List Value} {d : Value} {ws : List Addr} (E : Arv Z h a k ty z vs d) (r : ∀ x ∈ ws, ∀ c : Cell, h[x]? = some c → c.vm.isStatics = false) : ∀ x ∈ a :: ws, ∀ c : Cell, h[x]? = some c → c.vm.isStatics = false := fun x hx c hc => by
  rcases List.mem_cons.mp hx with rfl | q
  · obtain ⟨cl, A, -⟩ := E
    cases A.1.symm.trans hc; exact A.plain
  · exact r x q c hc
theorem own_sta_keep {Z : State} {h h' : Heap} {C n d : String} {w : Value} {ws : List Addr} (F : Sta Z h C n d w) (K : Keep h h' ws) (r : ∀ x ∈ ws, ∀ c : Cell, h[x]? = some c → c.vm.isStatics = false) : Sta Z h' C n d w := by
  obtain ⟨cf, i, k, f, st, cell, h1, h2, h3, h4, h5, h6, h7⟩ := F
  exact ⟨cf, i, k, f, st, cell, h1, h2, h3, h4, K.2.1 st cell h5 (fun q => by rw [r st q cell h5] at h6; cases h6), h6, h7⟩
end Own
def own_min (a b : Int32) : Int32 := if b < a then b else a
def own_max (a b : Int32) : Int32 := if a < b then b else a
def own_minJ (a b : Int64) : Int64 := if b < a then b else a
def own_bud (mm : Int32) : Int32 := (own_minJ ((2 : Int64) * (mm.toInt64)) (2147483647 : Int64)).toInt32
def own_spn (sp p : Int32) : Int32 := (own_minJ (((sp.toInt64) + (8 : Int64)) + (p.toInt64)) (2147483647 : Int64)).toInt32
def own_mask (p : Int32) : Int64 := if p = 8 then (-1) else (((1 : Int64) <<< (((8 : Int32) * p).toInt64 &&& 63)) - (1 : Int64))
def own_g (xs : List Int32) (j : Int32) : Int32 := xs.getD j.toNatClampNeg 0
def own_ch (c : Int32) : Int32 := c.toUInt32.toUInt16.toUInt32.toInt32
theorem own_clamp {j : Int32} {i : Nat} (h : j.toInt = (i : Int)) : j.toNatClampNeg = i := by
  have e : j.toNatClampNeg = j.toInt.toNat := rfl
  rw [e, h]; omega
theorem own_gN {xs : List Int32} {j : Int32} {i : Nat} (h : j.toInt = (i : Int)) : own_g xs j = xs.getD i 0 := by rw [own_g, own_clamp h]
theorem own_ldI (xs : List Int32) (j : Int32) : (xs.map Value.int).getD j.toNatClampNeg (.int (0 : Int32)) = .int (own_g xs j) := by
  simp only [own_g, List.getD_eq_getElem?_getD, List.getElem?_map]
  cases xs[j.toNatClampNeg]? <;> rfl
theorem own_inN {j z : Int32} {i M : Nat} (hj : j.toInt = (i : Int)) (hz : z.toInt = (M : Int)) (h : i < M) : ¬ j < 0 ∧ j < z := by
  rw [Int32.lt_iff_toInt_lt, Int32.lt_iff_toInt_lt, hj, hz]
  have e0 : (0 : Int32).toInt = 0 := rfl
  rw [e0]; omega
theorem own_lti {x y : Int32} {i e : Nat} (h : x.toInt = (i : Int)) (g : y.toInt = (e : Int)) : x < y ↔ i < e := by
  rw [Int32.lt_iff_toInt_lt, h, g]; omega
theorem own_addN {x y : Int32} {i j : Nat} (hx : x.toInt = (i : Int)) (hy : y.toInt = (j : Int)) (h : i + j < 100) : (x + y).toInt = ((i + j : Nat) : Int) := by
  rw [Jvm.Kit.i32_add (by omega) (by omega), hx, hy]; omega
theorem own_subN {x y : Int32} {i j : Nat} (hx : x.toInt = (i : Int)) (hy : y.toInt = (j : Int)) (h : j ≤ i) (hi : i < 100) : (x - y).toInt = ((i - j : Nat) : Int) := by
  rw [Jvm.Kit.i32_sub (by omega) (by omega), hx, hy]; omega
theorem own_incN {x : Int32} {i : Nat} (h : x.toInt = (i : Int)) (hi : i < 90) : (x + (1 : Int32)).toInt = ((i + 1 : Nat) : Int) := own_addN h (j := 1) rfl (by omega)
theorem own_decN {x : Int32} {i : Nat} (h : x.toInt = ((i + 1 : Nat) : Int)) (hi : i < 90) : (x + (-1 : Int32)).toInt = (i : Int) := by
  have e : (-1 : Int32).toInt = -1 := rfl
  rw [Jvm.Kit.i32_add (by omega) (by omega), h, e]; omega
theorem own_nn {z : Int32} {M : Nat} (hz : z.toInt = (M : Int)) : ¬ z < 0 := by
  rw [Int32.lt_iff_toInt_lt, hz]
  have e0 : (0 : Int32).toInt = 0 := rfl
  rw [e0]; omega
theorem own_cap {z : Int32} {M : Nat} (hz : z.toInt = (M : Int)) (h : M ≤ 8) : z.toNatClampNeg ≤ 8 := by rw [own_clamp hz]; exact h
theorem own_rep (M : Nat) : ∀ i, ((List.replicate M (0 : Int32)).map Value.int).getD i (.int (0 : Int32)) = ([] : List Value).getD i (.int (0 : Int32)) := fun i => by
  simp only [List.getD_eq_getElem?_getD, List.getElem?_map, List.getElem?_replicate]
  by_cases h : i < M <;> simp [h]
theorem own_setV {Z : State} {h h' : Heap} {a : Addr} {k : ClassId} {ty : FieldType} {z j v : Int32} {xs : List Int32} {c : Cell} (A : Arr Z h a c ty) (q1 : c.cls = k) (S : c.slots.size = z.toNatClampNeg) (q3 : ¬ z < 0) (H : Has c (xs.map Value.int) (.int (0 : Int32))) (G : ∀ i, i < c.slots.size → fits ty ((xs.map Value.int).getD i (.int (0 : Int32))) = true) (hv : fits ty (.int v) = true) (W : Wr h h' a j.toNatClampNeg (.int v)) {i : Nat} (hj : j.toInt = (i : Int)) (hi : i < xs.length) : Arv Z h' a k ty z ((xs.set i v).map Value.int) (.int (0 : Int32)) := by
  rw [List.map_set]
  exact Arv.set A q1 S q3 H G hv W i (own_clamp hj) (by simpa using hi)
theorem own_gset {xs : List Int32} {i : Nat} {v : Int32} (hi : i < xs.length) (j : Nat) : (xs.set i v).getD j 0 = if i = j then v else xs.getD j 0 := by
  simp only [List.getD_eq_getElem?_getD, List.getElem?_set]
  by_cases h : i = j
  · subst h; simp [hi]
  · simp [h]
theorem own_rep0 (M j : Nat) : (List.replicate M (0 : Int32)).getD j 0 = 0 := by
  simp only [List.getD_eq_getElem?_getD, List.getElem?_replicate]
  by_cases h : j < M <;> simp [h]
theorem own_chg {cs : List Int32} (hch : ∀ c ∈ cs, own_ch c = c) (j : Int32) : (own_g cs j).toUInt32.toUInt16.toUInt32.toInt32 = own_g cs j := by
  show own_ch (own_g cs j) = own_g cs j
  simp only [own_g, List.getD_eq_getElem?_getD]
  cases e : cs[j.toNatClampNeg]? with
  | none => rfl
  | some c => exact hch c (List.mem_of_getElem? e)
theorem own_ch2 (c : Int32) : own_ch (c.toUInt32.toUInt16.toUInt32.toInt32) = c.toUInt32.toUInt16.toUInt32.toInt32 := by
  show (c.toUInt32.toUInt16.toUInt32.toInt32).toUInt32.toUInt16.toUInt32.toInt32 = _
  have e : (c.toUInt32.toUInt16.toUInt32.toInt32).toUInt32 = c.toUInt32.toUInt16.toUInt32 := by rfl
  rw [e, UInt16.toUInt16_toUInt32]
/-! agree, isPeriod, smallestPeriod -/
def own_ag (cs : List Int32) (m p i : Int32) : Int32 := if i + p < m then (if own_g cs i = own_g cs (i + p) then 1 else 0) else 1
def own_isp (cs : List Int32) (m p : Int32) : Int32 := if own_ag cs m p 0 = 0 then 0 else if own_ag cs m p 1 = 0 then 0 else if own_ag cs m p 2 = 0 then 0 else if own_ag cs m p 3 = 0 then 0 else if own_ag cs m p 4 = 0 then 0 else if own_ag cs m p 5 = 0 then 0 else if own_ag cs m p 6 = 0 then 0 else 1
def own_sp (cs : List Int32) (m : Int32) : Int32 := if own_isp cs m 1 = 0 then (if own_isp cs m 2 = 0 then (if own_isp cs m 3 = 0 then (if own_isp cs m 4 = 0 then (if own_isp cs m 5 = 0 then (if own_isp cs m 6 = 0 then (if own_isp cs m 7 = 0 then (8) else 7) else 6) else 5) else 4) else 3) else 2) else 1
theorem own_ag0 {cs : List Int32} {m p i : Int32} {M q k : Nat} (hm : m.toInt = (M : Int)) (hq : p.toInt = (q : Int)) (h7 : q ≤ 7) (hi : i.toInt = (k : Int)) (hk : k ≤ 6) : own_ag cs m p i = 0 ↔ (k + q < M ∧ ¬ cs.getD k 0 = cs.getD (k + q) 0) := by
  have h1 := own_addN hi hq (by omega)
  have h2 := own_lti h1 hm
  rw [own_ag, own_gN hi, own_gN h1]
  by_cases c : i + p < m
  · rw [if_pos c]
    by_cases d : cs.getD k 0 = cs.getD (k + q) 0
    · rw [if_pos d]; exact ⟨fun z => absurd z (by decide), fun z => absurd d z.2⟩
    · rw [if_neg d]; exact ⟨fun _ => ⟨h2.mp c, d⟩, fun _ => rfl⟩
  · rw [if_neg c]; exact ⟨fun z => absurd z (by decide), fun z => absurd (h2.mpr z.1) c⟩
theorem own_agin {m p i : Int32} {M q k : Nat} (hm : m.toInt = (M : Int)) (hq : p.toInt = (q : Int)) (h7 : q ≤ 7) (hi : i.toInt = (k : Int)) (hk : k ≤ 6) (c : i + p < m) : (¬ i < 0 ∧ i < m) ∧ (¬ (i + p) < 0 ∧ (i + p) < m) := by
  have h1 := own_addN hi hq (by omega)
  have h2 := (own_lti h1 hm).mp c
  exact ⟨own_inN hi hm (by omega), own_inN h1 hm (by omega)⟩
theorem own_isp0 {cs : List Int32} {m p : Int32} {M q : Nat} (hm : m.toInt = (M : Int)) (hq : p.toInt = (q : Int)) (hM : M ≤ 8) (h1 : 1 ≤ q) (h7 : q ≤ 7) : own_isp cs m p = 0 ↔ ¬ (∀ i, i + q < M → cs.getD i 0 = cs.getD (i + q) 0) := by
  have a0 := own_ag0 (cs := cs) hm hq h7 (i := 0) (k := 0) rfl (by omega)
  have a1 := own_ag0 (cs := cs) hm hq h7 (i := 1) (k := 1) rfl (by omega)
  have a2 := own_ag0 (cs := cs) hm hq h7 (i := 2) (k := 2) rfl (by omega)
  have a3 := own_ag0 (cs := cs) hm hq h7 (i := 3) (k := 3) rfl (by omega)
  have a4 := own_ag0 (cs := cs) hm hq h7 (i := 4) (k := 4) rfl (by omega)
  have a5 := own_ag0 (cs := cs) hm hq h7 (i := 5) (k := 5) rfl (by omega)
  have a6 := own_ag0 (cs := cs) hm hq h7 (i := 6) (k := 6) rfl (by omega)
  unfold own_isp
  constructor
  · intro h hall
    have n0 : ¬ own_ag cs m p 0 = 0 := fun z => (a0.mp z).2 (hall 0 (a0.mp z).1)
    have n1 : ¬ own_ag cs m p 1 = 0 := fun z => (a1.mp z).2 (hall 1 (a1.mp z).1)
    have n2 : ¬ own_ag cs m p 2 = 0 := fun z => (a2.mp z).2 (hall 2 (a2.mp z).1)
    have n3 : ¬ own_ag cs m p 3 = 0 := fun z => (a3.mp z).2 (hall 3 (a3.mp z).1)
    have n4 : ¬ own_ag cs m p 4 = 0 := fun z => (a4.mp z).2 (hall 4 (a4.mp z).1)
    have n5 : ¬ own_ag cs m p 5 = 0 := fun z => (a5.mp z).2 (hall 5 (a5.mp z).1)
    have n6 : ¬ own_ag cs m p 6 = 0 := fun z => (a6.mp z).2 (hall 6 (a6.mp z).1)
    rw [if_neg n0, if_neg n1, if_neg n2, if_neg n3, if_neg n4, if_neg n5, if_neg n6] at h
    exact absurd h (by decide)
  · intro h
    by_cases c0 : own_ag cs m p 0 = 0
    · rw [if_pos c0]
    by_cases c1 : own_ag cs m p 1 = 0
    · rw [if_neg c0, if_pos c1]
    by_cases c2 : own_ag cs m p 2 = 0
    · rw [if_neg c0, if_neg c1, if_pos c2]
    by_cases c3 : own_ag cs m p 3 = 0
    · rw [if_neg c0, if_neg c1, if_neg c2, if_pos c3]
    by_cases c4 : own_ag cs m p 4 = 0
    · rw [if_neg c0, if_neg c1, if_neg c2, if_neg c3, if_pos c4]
    by_cases c5 : own_ag cs m p 5 = 0
    · rw [if_neg c0, if_neg c1, if_neg c2, if_neg c3, if_neg c4, if_pos c5]
    by_cases c6 : own_ag cs m p 6 = 0
    · rw [if_neg c0, if_neg c1, if_neg c2, if_neg c3, if_neg c4, if_neg c5, if_pos c6]
    exfalso; apply h; intro i hi
    have hc : i = 0 ∨ i = 1 ∨ i = 2 ∨ i = 3 ∨ i = 4 ∨ i = 5 ∨ i = 6 := by omega
    rcases hc with rfl | rfl | rfl | rfl | rfl | rfl | rfl
    · exact Classical.byContradiction fun z => c0 (a0.mpr ⟨hi, z⟩)
    · exact Classical.byContradiction fun z => c1 (a1.mpr ⟨hi, z⟩)
    · exact Classical.byContradiction fun z => c2 (a2.mpr ⟨hi, z⟩)
    · exact Classical.byContradiction fun z => c3 (a3.mpr ⟨hi, z⟩)
    · exact Classical.byContradiction fun z => c4 (a4.mpr ⟨hi, z⟩)
    · exact Classical.byContradiction fun z => c5 (a5.mpr ⟨hi, z⟩)
    · exact Classical.byContradiction fun z => c6 (a6.mpr ⟨hi, z⟩)
/-! borders -/
def own_bd (rs : List Int32) (n b : Nat) : Prop := ∀ j, j < b → rs.getD j 0 = rs.getD (n - b + j) 0
def own_lb (rs : List Int32) (n b : Nat) : Prop := b < n ∧ own_bd rs n b ∧ ∀ b', b' < n → own_bd rs n b' → b' ≤ b
def own_FI (rs fs : List Int32) (i : Nat) : Prop := ∀ j, j < i → ∃ f : Nat, (fs.getD j 0).toInt = (f : Int) ∧ own_lb rs (j + 1) f
def own_IN (rs : List Int32) (i b : Nat) : Prop := b < i ∧ own_bd rs i b ∧ ∀ b', b < b' → b' < i → own_bd rs i b' → rs.getD b' 0 ≠ rs.getD i 0
theorem own_lb1 (rs : List Int32) : own_lb rs 1 0 := ⟨by omega, fun j hj => absurd hj (Nat.not_lt_zero j), fun b' q _ => by omega⟩
theorem own_IN0 {rs : List Int32} {i b : Nat} (h : own_lb rs i b) : own_IN rs i b := ⟨h.1, h.2.1, fun b' q1 q2 q3 => absurd (h.2.2 b' q2 q3) (by omega)⟩
theorem own_INs {rs : List Int32} {i b f : Nat} (h : own_IN rs i b) (hne : rs.getD b 0 ≠ rs.getD i 0) (hf : own_lb rs b f) : own_IN rs i f := by
  obtain ⟨a1, a2, a3⟩ := h
  obtain ⟨f1, f2, f3⟩ := hf
  refine ⟨by omega, ?_, ?_⟩
  · intro j hj
    have q1 := f2 j hj
    have q2 := a2 (b - f + j) (by omega)
    rw [show i - b + (b - f + j) = i - f + j by omega] at q2
    exact q1.trans q2
  · intro b' q1 q2 q3
    rcases Nat.lt_trichotomy b' b with c | c | c
    · exfalso
      have q4 : own_bd rs b b' := fun j hj => by
        have e1 := q3 j hj
        have e2 := a2 (b - b' + j) (by omega)
        rw [show i - b + (b - b' + j) = i - b' + j by omega] at e2
        exact e1.trans e2.symm
      have := f3 b' c q4
      omega
    · subst c; exact hne
    · exact a3 b' c q2 q3
theorem own_bdp {rs : List Int32} {i b : Nat} (h2 : b + 1 < i + 1) (q : own_bd rs (i + 1) (b + 1)) : own_bd rs i b ∧ rs.getD b 0 = rs.getD i 0 := by
  constructor
  · intro j hj
    have e := q j (by omega)
    rw [show i + 1 - (b + 1) + j = i - b + j by omega] at e
    exact e
  · have e := q b (by omega)
    rw [show i + 1 - (b + 1) + b = i by omega] at e
    exact e
theorem own_INy {rs : List Int32} {i b : Nat} (h : own_IN rs i b) (he : rs.getD b 0 = rs.getD i 0) : own_lb rs (i + 1) (b + 1) := by
  obtain ⟨a1, a2, a3⟩ := h
  refine ⟨by omega, ?_, ?_⟩
  · intro j hj
    rw [show i + 1 - (b + 1) + j = i - b + j by omega]
    by_cases c : j < b
    · exact a2 j c
    · have e : j = b := by omega
      rw [e, show i - b + b = i by omega]; exact he
  · intro b' q1 q2
    cases b' with
    | zero => omega
    | succ k =>
      by_cases c : k ≤ b
      · omega
      · obtain ⟨r1, r2⟩ := own_bdp q1 q2
        exact absurd r2 (a3 k (by omega) (by omega) r1)
theorem own_INz {rs : List Int32} {i : Nat} (h : own_IN rs i 0) (hne : rs.getD 0 0 ≠ rs.getD i 0) : own_lb rs (i + 1) 0 := by
  obtain ⟨a1, a2, a3⟩ := h
  refine ⟨by omega, fun j hj => absurd hj (Nat.not_lt_zero j), ?_⟩
  intro b' q1 q2
  cases b' with
  | zero => omega
  | succ k =>
    obtain ⟨r1, r2⟩ := own_bdp q1 q2
    cases k with
    | zero => exact absurd r2 hne
    | succ k => exact absurd r2 (a3 _ (by omega) (by omega) r1)
theorem own_FIs {rs fs : List Int32} {i b : Nat} {v : Int32} (h : own_FI rs fs i) (hb : own_lb rs (i + 1) b) (hv : v.toInt = (b : Int)) (hi : i < fs.length) : own_FI rs (fs.set i v) (i + 1) := by
  intro j hj
  rw [own_gset hi]
  by_cases c : i = j
  · subst c; rw [if_pos rfl]; exact ⟨b, hv, hb⟩
  · rw [if_neg c]; exact h j (by omega)
theorem own_FI1 {rs fs : List Int32} (h : fs.getD 0 0 = 0) : own_FI rs fs 1 := by
  intro j hj
  obtain rfl : j = 0 := by omega
  exact ⟨0, (congrArg Int32.toInt h).trans rfl, own_lb1 rs⟩
theorem own_per {cs rs : List Int32} {M b : Nat} (hr : ∀ j, j < M → rs.getD j 0 = cs.getD (M - 1 - j) 0) (hb : b ≤ M) : own_bd rs M b ↔ ∀ i, i + (M - b) < M → cs.getD i 0 = cs.getD (i + (M - b)) 0 := by
  constructor
  · intro h i hi
    have q := h (b - 1 - i) (by omega)
    rw [hr _ (by omega), hr _ (by omega)] at q
    rw [show M - 1 - (b - 1 - i) = i + (M - b) by omega, show M - 1 - (M - b + (b - 1 - i)) = i by omega] at q
    exact q.symm
  · intro h j hj
    have q := h (b - 1 - j) (by omega)
    rw [hr _ (by omega), hr _ (by omega)]
    rw [show M - 1 - j = b - 1 - j + (M - b) by omega, show M - 1 - (M - b + j) = b - 1 - j by omega]
    exact q.symm
theorem own_spL {cs rs : List Int32} {m : Int32} {M f : Nat} (hm : m.toInt = (M : Int)) (hM : M ≤ 8) (hr : ∀ j, j < M → rs.getD j 0 = cs.getD (M - 1 - j) 0) (hf : own_lb rs M f) : own_sp cs m = Int32.ofNat (M - f) := by
  obtain ⟨f1, f2, f3⟩ := hf
  have top : ∀ i, i + (M - f) < M → cs.getD i 0 = cs.getD (i + (M - f)) 0 := (own_per hr (by omega)).mp f2
  have key : ∀ q, 1 ≤ q → q < M - f → ¬ (∀ i, i + q < M → cs.getD i 0 = cs.getD (i + q) 0) := fun q q1 q2 h => by
    have e : M - (M - q) = q := by omega
    have := f3 (M - q) (by omega) ((own_per hr (by omega)).mpr (by rw [e]; exact h))
    omega
  have hc : M - f = 1 ∨ M - f = 2 ∨ M - f = 3 ∨ M - f = 4 ∨ M - f = 5 ∨ M - f = 6 ∨ M - f = 7 ∨ M - f = 8 := by omega
  have z : ∀ (p : Int32) (q : Nat), p.toInt = (q : Int) → 1 ≤ q → q ≤ 7 → q < M - f → own_isp cs m p = 0 := fun p q hq h1 h7 h => (own_isp0 hm hq hM h1 h7).mpr (key q h1 h)
  have y : ∀ (p : Int32) (q : Nat), p.toInt = (q : Int) → 1 ≤ q → q ≤ 7 → q = M - f → ¬ own_isp cs m p = 0 := fun p q hq h1 h7 h w => (own_isp0 hm hq hM h1 h7).mp w (by rw [h]; exact top)
  unfold own_sp
  rcases hc with h | h | h | h | h | h | h | h
  · rw [if_neg (y 1 1 rfl (by omega) (by omega) (by omega)), h] <;> rfl
  · rw [if_pos (z 1 1 rfl (by omega) (by omega) (by omega)), if_neg (y 2 2 rfl (by omega) (by omega) (by omega)), h] <;> rfl
  · rw [if_pos (z 1 1 rfl (by omega) (by omega) (by omega)), if_pos (z 2 2 rfl (by omega) (by omega) (by omega)), if_neg (y 3 3 rfl (by omega) (by omega) (by omega)), h] <;> rfl
  · rw [if_pos (z 1 1 rfl (by omega) (by omega) (by omega)), if_pos (z 2 2 rfl (by omega) (by omega) (by omega)), if_pos (z 3 3 rfl (by omega) (by omega) (by omega)), if_neg (y 4 4 rfl (by omega) (by omega) (by omega)), h] <;> rfl
  · rw [if_pos (z 1 1 rfl (by omega) (by omega) (by omega)), if_pos (z 2 2 rfl (by omega) (by omega) (by omega)), if_pos (z 3 3 rfl (by omega) (by omega) (by omega)), if_pos (z 4 4 rfl (by omega) (by omega) (by omega)), if_neg (y 5 5 rfl (by omega) (by omega) (by omega)), h] <;> rfl
  · rw [if_pos (z 1 1 rfl (by omega) (by omega) (by omega)), if_pos (z 2 2 rfl (by omega) (by omega) (by omega)), if_pos (z 3 3 rfl (by omega) (by omega) (by omega)), if_pos (z 4 4 rfl (by omega) (by omega) (by omega)), if_pos (z 5 5 rfl (by omega) (by omega) (by omega)), if_neg (y 6 6 rfl (by omega) (by omega) (by omega)), h] <;> rfl
  · rw [if_pos (z 1 1 rfl (by omega) (by omega) (by omega)), if_pos (z 2 2 rfl (by omega) (by omega) (by omega)), if_pos (z 3 3 rfl (by omega) (by omega) (by omega)), if_pos (z 4 4 rfl (by omega) (by omega) (by omega)), if_pos (z 5 5 rfl (by omega) (by omega) (by omega)), if_pos (z 6 6 rfl (by omega) (by omega) (by omega)), if_neg (y 7 7 rfl (by omega) (by omega) (by omega)), h] <;> rfl
  · rw [if_pos (z 1 1 rfl (by omega) (by omega) (by omega)), if_pos (z 2 2 rfl (by omega) (by omega) (by omega)), if_pos (z 3 3 rfl (by omega) (by omega) (by omega)), if_pos (z 4 4 rfl (by omega) (by omega) (by omega)), if_pos (z 5 5 rfl (by omega) (by omega) (by omega)), if_pos (z 6 6 rfl (by omega) (by omega) (by omega)), if_pos (z 7 7 rfl (by omega) (by omega) (by omega)), h] <;> rfl
/-! the shift's first place, the budget -/
theorem own_minJ_eq {x : Int64} (h : ¬ (2147483647 : Int64) < x) : own_minJ x 2147483647 = x := by rw [own_minJ, if_neg h]
theorem own_bud2 {mm : Int32} {M : Nat} (hm : mm.toInt = (M : Int)) (h8 : M ≤ 8) : (own_bud mm).toInt = ((2 * M : Nat) : Int) := by
  have e1 := Jvm.Kit.i64_of_i32 mm
  have e2 : (2 : Int64).toInt = 2 := rfl
  have e3 : ((2 : Int64) * mm.toInt64).toInt = 2 * M := by rw [Jvm.Kit.i64_mul (by rw [e1, e2]; omega) (by rw [e1, e2]; omega), e1, e2, hm]
  rw [own_bud, own_minJ_eq (by
    rw [Int64.lt_iff_toInt_lt, e3]
    have e4 : (2147483647 : Int64).toInt = 2147483647 := rfl
    rw [e4]; omega), Jvm.Kit.i32_of_i64 (by rw [e3]; omega) (by rw [e3]; omega), e3]
  omega
theorem own_spn2 {sp p : Int32} {a b : Nat} (ha : sp.toInt = (a : Int)) (hb : p.toInt = (b : Int)) (h : a + b < 100) : (own_spn sp p).toInt = ((a + 8 + b : Nat) : Int) := by
  have e1 := Jvm.Kit.i64_of_i32 sp
  have e2 := Jvm.Kit.i64_of_i32 p
  have e8 : (8 : Int64).toInt = 8 := rfl
  have e3 : (sp.toInt64 + (8 : Int64)).toInt = a + 8 := by rw [Jvm.Kit.i64_add (by rw [e1, e8]; omega) (by rw [e1, e8]; omega), e1, e8, ha]
  have e4 : (sp.toInt64 + (8 : Int64) + p.toInt64).toInt = a + 8 + b := by rw [Jvm.Kit.i64_add (by rw [e3, e2]; omega) (by rw [e3, e2]; omega), e3, e2, hb]
  rw [own_spn, own_minJ_eq (by
    rw [Int64.lt_iff_toInt_lt, e4]
    have e5 : (2147483647 : Int64).toInt = 2147483647 := rfl
    rw [e5]; omega), Jvm.Kit.i32_of_i64 (by rw [e4]; omega) (by rw [e4]; omega), e4]
  omega
section OwnP
variable {p : Program} {l : Launch} {e : Env} {R : Room} {s : State} {args : Array Value} {below : List Frame} {Z : State} {a0 : Array Value} {h : Heap}
theorem own_backP {y : MethodName} {bytes : ByteArray} {maxL : Nat} {ret : Option FieldType} {rm : Room} {len W : Nat} {as' : Array Value} {PV : Vm → Prop} {Q : Option Value → Heap → List Loc → Prop} (hPV : ∀ vm', s.WarmedH vm' → PV vm')
    (hM : MetFree l y (head1 [Cond.code y bytes maxL ret] rm) (fun a U => a = as' ∧ Z.Warmed39 U.vm ∧ U.heap = h ∧ PV U.vm) (fun _ _ _ _ _ => True) (fun _ U o U' => ∃ v L, o = .returned v ∧ Q v U'.heap L ∧ FrameEnd U o U' L rm.cells rm.slots))
    (hZ : Z.Warmed39 s.vm) (wc : (Cond.code y bytes maxL ret).before a0 Z = true) (wz : (Cond.initialized y.cls).before a0 Z = true) (hf : rm.frames + 1 ≤ R.frames) (hl : W + (maxL + 11) + rm.locals ≤ R.locals) :
    Back l R p e below s args y len W (fun A a => a = as' ∧ A.U.heap = h ∧ A.cells + rm.cells ≤ R.cells ∧ A.slots + rm.slots ≤ R.slots)
      (fun A _ v B => ∃ L, Q v B.U.heap L ∧ B.locs = A.locs ++ L ∧ B.cells = A.cells + rm.cells ∧ B.slots = A.slots + rm.slots) := by
  refine Back.of_free (bytes := bytes) (maxL := maxL) (ret := ret) (E := fun _ _ o t L k n => k = rm.cells ∧ n = rm.slots ∧ ∃ v, o = .returned v ∧ Q v t.heap L) hM hf hl ?_ ?_ ?_ ?_ ?_
  · intro m meth c A a Y hp
    have hU : Z.Warmed39 A.U.vm := wtrans hZ Y.warmed
    refine ⟨?_, mv hU wc, mv hU wz, hp.2.2.1, hp.2.2.2⟩
    show (Cond.and _ .tt).before a A.U = true
    rw [Cond.before_and, mv hU wc]; rfl
  · intro m meth c A a g mk Y hp
    exact ⟨hp.1, wtrans hZ Y.warmed, hp.2.1, hPV _ Y.warmed⟩
  · intros; trivial
  · intro _ _ _ _ q
    obtain ⟨v, L, h1, h2, h3⟩ := q
    exact ⟨L, _, _, h3, rfl, rfl, v, h1, h2⟩
  · intro m meth c A a g mk v t L k n Y hp _ _ q
    obtain ⟨e1, e2, v', e3, e4⟩ := q
    cases e3; subst e1 e2
    exact ⟨L, e4, rfl, rfl, rfl⟩
end OwnP
theorem own_selp {s : State} {args : Array Value} {y z : MethodName} (hz : z.cls = y.cls) (h : (Cond.selects z.cls z z).before args s = true) (hpriv : s.PrivateAt y) (hinst : (Cond.instanceMethod y).before args s = true) (hy : y.cls ≠ "java/lang/invoke/MethodHandle" ∧ y.cls ≠ "java/lang/invoke/VarHandle") : (Cond.selects y.cls y y).before args s = true := by
  obtain ⟨c2, r2, m2, q1, q2, q3, q4, kP, hkP, hkPi⟩ := Cond.selects_spec h
  exact Jvm.Stand.selects_self_of_private (c := m2.cls) (by rw [← hz]; exact findClass_of_methodNamed q3) hkP hkPi hpriv hinst hy
theorem own_slotO {Z : State} {a0 : Array Value} {C O n d O' n' d' : String} (L : (Cond.laysFinal C O n d).before a0 Z = true) (L' : (Cond.laysFinal C O' n' d').before a0 Z = true) (hn : O ≠ O') : Jvm.RoadKit.slotOf Z O n d ≠ Jvm.RoadKit.slotOf Z O' n' d' := fun e => by
  obtain ⟨c, k, cf, kf, i, f, a1, a2, a3, a4, a5, a6, a7, a8, dd, b1, b2, b3, b4⟩ := Cond.laysFinal_spec L
  obtain ⟨c', k', cf', kf', i', f', a1', a2', a3', a4', a5', a6', a7', a8', dd', b1', b2', b3', b4'⟩ := Cond.laysFinal_spec L'
  cases a1.symm.trans a1'
  have q : f.slot = f'.slot := by simpa [Jvm.RoadKit.slotOf, a3, a3'] using e
  rw [q] at b1
  cases b1.symm.trans b1'
  obtain ⟨k1, w1, w2⟩ := Vm.findClass_spec a7
  obtain ⟨k2, w1', w2'⟩ := Vm.findClass_spec a7'
  cases w1.symm.trans (State.fieldFound?_class a3)
  cases w1'.symm.trans (State.fieldFound?_class a3')
  exact hn (w2.symm.trans ((b2.symm.trans b2').trans w2'))
theorem own_pn0 : plainName "com/example/skip2/skip2/boyermoore/BoyerMooreSearcherPeriodPinLaw" = true := by first | (simp [plainName, overriddenIn]; done) | decide +kernel
theorem own_d3_0 : decode method_3_code 0 = .ok (.iload_n 3, 1) := by decide +kernel
theorem own_d3_1 : decode method_3_code 1 = .ok (.iload_n 2, 1) := by decide +kernel
theorem own_d3_2 : decode method_3_code 2 = .ok (.iadd, 1) := by decide +kernel
theorem own_d3_3 : decode method_3_code 3 = .ok (.iload_n 1, 1) := by decide +kernel
theorem own_d3_4 : decode method_3_code 4 = .ok (.if_icmp .ge 14, 3) := by decide +kernel
theorem own_d3_7 : decode method_3_code 7 = .ok (.aload_n 0, 1) := by decide +kernel
theorem own_d3_8 : decode method_3_code 8 = .ok (.iload_n 3, 1) := by decide +kernel
theorem own_d3_9 : decode method_3_code 9 = .ok (.caload, 1) := by decide +kernel
theorem own_d3_10 : decode method_3_code 10 = .ok (.aload_n 0, 1) := by decide +kernel
theorem own_d3_11 : decode method_3_code 11 = .ok (.iload_n 3, 1) := by decide +kernel
theorem own_d3_12 : decode method_3_code 12 = .ok (.iload_n 2, 1) := by decide +kernel
theorem own_d3_13 : decode method_3_code 13 = .ok (.iadd, 1) := by decide +kernel
theorem own_d3_14 : decode method_3_code 14 = .ok (.caload, 1) := by decide +kernel
theorem own_d3_15 : decode method_3_code 15 = .ok (.if_icmp .ne 7, 3) := by decide +kernel
theorem own_d3_18 : decode method_3_code 18 = .ok (.iconst 1, 1) := by decide +kernel
theorem own_d3_19 : decode method_3_code 19 = .ok (.goto 4, 3) := by decide +kernel
theorem own_d3_22 : decode method_3_code 22 = .ok (.iconst 0, 1) := by decide +kernel
theorem own_d3_23 : decode method_3_code 23 = .ok (.ireturn, 1) := by decide +kernel
def own_Q_agr (Z : State) (a1 : Addr) (p2 : Int32) (p3 : Int32) (p4 : Int32) (ka : ClassId) (cs : List Int32) (M : Nat) (q : Nat) (k : Nat) (h0 : Heap) (n0 : Nat) (v : Option Value) (h : Heap) (L : List Loc) : Prop := v = some (.int (own_ag cs p2 p3 p4)) ∧ Fr n0 L ∧ h = h0
set_option maxRecDepth 65536 in
set_option maxHeartbeats 40000000 in
theorem own_m_agr (l : Launch) (Z : State) (a0 : Array Value) (hw : ∀ d ∈ tables_1, d.before a0 Z = true) (ws : List Jvm.Cond) (a1 : Addr) (p2 : Int32) (p3 : Int32) (p4 : Int32) (ka : ClassId) (cs : List Int32) (M : Nat) (q : Nat) (k : Nat) (h0 : Heap) (n0 : Nat) (Z0 : n0 ≤ h0.size) (Va : Arv Z h0 a1 ka .char p2 (cs.map Value.int) (.int (0 : Int32))) (hm : p2.toInt = (M : Int)) (hq : p3.toInt = (q : Int)) (h7 : q ≤ 7) (hi : p4.toInt = (k : Int)) (hk : k ≤ 6) :
    MetFree l (⟨"com/example/skip2/skip2/boyermoore/BoyerMooreSearcherPeriodPinLaw", "agree", "([CIII)Z"⟩ : MethodName) (head1 (Jvm.Cond.code (⟨"com/example/skip2/skip2/boyermoore/BoyerMooreSearcherPeriodPinLaw", "agree", "([CIII)Z"⟩ : MethodName) method_3_code 4 (some .boolean) :: ws) ({ frames := 0, cells := 0, slots := 0, locals := 0 } : Room)) (fun a U => a = #[(.ref a1), (.int p2), (.int p3), (.int p4)] ∧ Z.Warmed39 U.vm ∧ U.heap = h0) (fun _ _ _ _ _ => True) (fun _ U o U' => ∃ v L, o = .returned v ∧ own_Q_agr Z a1 p2 p3 p4 ka cs M q k h0 n0 v U'.heap L ∧ FrameEnd U o U' L ({ frames := 0, cells := 0, slots := 0, locals := 0 } : Room).cells ({ frames := 0, cells := 0, slots := 0, locals := 0 } : Room).slots) := by
  refine MetFree.of_bodySF (plainFor_of_name own_pn0) hisR ?_
  intro p e s m args below meth c s₁ Bd hml0 hP hK
  obtain ⟨rfl, hZ, hh⟩ := hP
  have hx := Bd.exec
  have hby := Bd.bytes
  have hml : c.maxLocals = 4 := hml0
  have hown : s.vm.findClass "com/example/skip2/skip2/boyermoore/BoyerMooreSearcherPeriodPinLaw" = some m.cls := findClass_of_methodNamed Bd.named
  have hnm := (name_of_methodNamed Bd.named Bd.method).1
  have X0 : Stand p l e ({ frames := 0, cells := 0, slots := 0, locals := 0 } : Room) s m #[(.ref a1), (.int p2), (.int p3), (.int p4)] below meth c s₁ [] 0 0 := Stand.of_body Bd
  have e0 : s₁.heap = h0 := by rw [← hh, Bd.state]; rfl
  have N0 := Fr.nil n0
  have K0 : Keep h0 h0 [] := Keep.refl _ _
  show own_Go p e below s ({ frames := 0, cells := 0, slots := 0, locals := 0 } : Room).cells ({ frames := 0, cells := 0, slots := 0, locals := 0 } : Room).slots (own_Q_agr Z a1 p2 p3 p4 ka cs M q k h0 n0) (s₁.setTop (entryFrame m #[(.ref a1), (.int p2), (.int p3), (.int p4)] 4))
  have ef : entryFrame m #[(.ref a1), (.int p2), (.int p3), (.int p4)] 4 = (mkF m 0 #[.val (.ref a1), .val (.int p2), .val (.int p3), .val (.int p4)] []) := by first | (simp [entryFrame, mkF, argsToLocals, Value.category, maxLocals]; done) | rfl
  rw [ef]
  show own_Go p e below s _ _ _ (s₁.setTop (mkF m 0 #[.val (.ref a1), .val (.int p2), .val (.int p3), .val (.int p4)] []))
  refine own_step (U' := (s₁.setTop (mkF m 1 #[.val (.ref a1), .val (.int p2), .val (.int p3), .val (.int p4)] [(.int p4)]))) (fun t ht => XS.iloadN X0.here hx rfl (hb hby own_d3_0) rfl ht) ?_
  refine own_step (U' := (s₁.setTop (mkF m 2 #[.val (.ref a1), .val (.int p2), .val (.int p3), .val (.int p4)] [(.int p3), (.int p4)]))) (fun t ht => XS.iloadN X0.here hx rfl (hb hby own_d3_1) rfl ht) ?_
  refine own_step (U' := (s₁.setTop (mkF m 3 #[.val (.ref a1), .val (.int p2), .val (.int p3), .val (.int p4)] [(.int (p4 + p3))]))) (fun t ht => XS.iadd X0.here hx rfl (hb hby own_d3_2) rfl ht) ?_
  refine own_step (U' := (s₁.setTop (mkF m 4 #[.val (.ref a1), .val (.int p2), .val (.int p3), .val (.int p4)] [(.int p2), (.int (p4 + p3))]))) (fun t ht => XS.iloadN X0.here hx rfl (hb hby own_d3_3) rfl ht) ?_
  by_cases hc4_1 : (p4 + p3) < p2
  ·
    refine own_step (U' := (s₁.setTop (mkF m 7 #[.val (.ref a1), .val (.int p2), .val (.int p3), .val (.int p4)] []))) (fun t ht => XS.icmpNo X0.here hx rfl (hb hby own_d3_4) rfl (XT.ii_ge_f hc4_1) ht) ?_
    refine own_step (U' := (s₁.setTop (mkF m 8 #[.val (.ref a1), .val (.int p2), .val (.int p3), .val (.int p4)] [(.ref a1)]))) (fun t ht => XS.aloadN X0.here hx rfl (hb hby own_d3_7) rfl rfl ht) ?_
    refine own_step (U' := (s₁.setTop (mkF m 9 #[.val (.ref a1), .val (.int p2), .val (.int p3), .val (.int p4)] [(.int p4), (.ref a1)]))) (fun t ht => XS.iloadN X0.here hx rfl (hb hby own_d3_8) rfl ht) ?_
    obtain ⟨cl2, Ar2, q2, S2, N2_, H2, G2⟩ := (id Va)
    have hin2 : ¬ (p4 < 0 ∨ cl2.slots.size ≤ (p4).toNatClampNeg) := inb_of S2 (own_agin hm hq h7 hi hk hc4_1).1
    have hat2 : cl2.slots[(p4).toNatClampNeg]? = some (.int (own_g cs p4)) := Has.at H2 hin2 (own_ldI _ _)
    refine own_step (U' := (s₁.setTop (mkF m 10 #[.val (.ref a1), .val (.int p2), .val (.int p3), .val (.int p4)] [(.int (own_g cs p4))]))) (fun t ht => X0.caload hx (j := p4) (v := (.int (own_g cs p4))) (own_at e0 Ar2.1) (State.isArrayOf_alike hZ.alike Ar2.2.1) Ar2.2.2 hin2 hat2 (g := (mkF m 9 #[.val (.ref a1), .val (.int p2), .val (.int p3), .val (.int p4)] [(.int p4), (.ref a1)])) rfl rfl (hb hby own_d3_9) _ ht) ?_
    refine own_step (U' := (s₁.setTop (mkF m 11 #[.val (.ref a1), .val (.int p2), .val (.int p3), .val (.int p4)] [(.ref a1), (.int (own_g cs p4))]))) (fun t ht => XS.aloadN X0.here hx rfl (hb hby own_d3_10) rfl rfl ht) ?_
    refine own_step (U' := (s₁.setTop (mkF m 12 #[.val (.ref a1), .val (.int p2), .val (.int p3), .val (.int p4)] [(.int p4), (.ref a1), (.int (own_g cs p4))]))) (fun t ht => XS.iloadN X0.here hx rfl (hb hby own_d3_11) rfl ht) ?_
    refine own_step (U' := (s₁.setTop (mkF m 13 #[.val (.ref a1), .val (.int p2), .val (.int p3), .val (.int p4)] [(.int p3), (.int p4), (.ref a1), (.int (own_g cs p4))]))) (fun t ht => XS.iloadN X0.here hx rfl (hb hby own_d3_12) rfl ht) ?_
    refine own_step (U' := (s₁.setTop (mkF m 14 #[.val (.ref a1), .val (.int p2), .val (.int p3), .val (.int p4)] [(.int (p4 + p3)), (.ref a1), (.int (own_g cs p4))]))) (fun t ht => XS.iadd X0.here hx rfl (hb hby own_d3_13) rfl ht) ?_
    obtain ⟨cl3, Ar3, q3, S3, N3_, H3, G3⟩ := (id Va)
    have hin3 : ¬ ((p4 + p3) < 0 ∨ cl3.slots.size ≤ ((p4 + p3)).toNatClampNeg) := inb_of S3 (own_agin hm hq h7 hi hk hc4_1).2
    have hat3 : cl3.slots[((p4 + p3)).toNatClampNeg]? = some (.int (own_g cs (p4 + p3))) := Has.at H3 hin3 (own_ldI _ _)
    refine own_step (U' := (s₁.setTop (mkF m 15 #[.val (.ref a1), .val (.int p2), .val (.int p3), .val (.int p4)] [(.int (own_g cs (p4 + p3))), (.int (own_g cs p4))]))) (fun t ht => X0.caload hx (j := (p4 + p3)) (v := (.int (own_g cs (p4 + p3)))) (own_at e0 Ar3.1) (State.isArrayOf_alike hZ.alike Ar3.2.1) Ar3.2.2 hin3 hat3 (g := (mkF m 14 #[.val (.ref a1), .val (.int p2), .val (.int p3), .val (.int p4)] [(.int (p4 + p3)), (.ref a1), (.int (own_g cs p4))])) rfl rfl (hb hby own_d3_14) _ ht) ?_
    by_cases hc15_4 : (own_g cs p4) = (own_g cs (p4 + p3))
    ·
      refine own_step (U' := (s₁.setTop (mkF m 18 #[.val (.ref a1), .val (.int p2), .val (.int p3), .val (.int p4)] []))) (fun t ht => XS.icmpNo X0.here hx rfl (hb hby own_d3_15) rfl (XT.ii_ne_f hc15_4) ht) ?_
      refine own_step (U' := (s₁.setTop (mkF m 19 #[.val (.ref a1), .val (.int p2), .val (.int p3), .val (.int p4)] [(.int (1 : Int32))]))) (fun t ht => XS.iconst X0.here hx rfl (hb hby own_d3_18) ht) ?_
      refine own_step (U' := (s₁.setTop (mkF m 23 #[.val (.ref a1), .val (.int p2), .val (.int p3), .val (.int p4)] [(.int (1 : Int32))]))) (fun t ht => XS.goto X0.here hx rfl (pc0 := 19) (pc' := 23) rfl (hb hby own_d3_19) (by decide) (by decide) ht) ?_
      refine own_ret X0 (v := (some (.int (nar .boolean (1 : Int32))))) (fun h => by rw [Bd.returns] at h; cases h) Bd.notSynchronized (by decide) (by decide) ?_ (fun fs hr => retN X0 hx (t := .boolean) Bd.returns (by simp) (hb hby own_d3_23) hr)
      show own_Q_agr Z a1 p2 p3 p4 ka cs M q k h0 n0 _ s₁.heap _
      rw [e0]
      refine ⟨?_, N0, rfl⟩
      simp [own_ag, nar, hc4_1, hc15_4]
    ·
      refine own_step (U' := (s₁.setTop (mkF m 22 #[.val (.ref a1), .val (.int p2), .val (.int p3), .val (.int p4)] []))) (fun t ht => XS.icmpYes X0.here hx rfl (pc0 := 15) (pc' := 22) rfl (hb hby own_d3_15) rfl (XT.ii_ne_t hc15_4) (by decide) (by decide) ht) ?_
      refine own_step (U' := (s₁.setTop (mkF m 23 #[.val (.ref a1), .val (.int p2), .val (.int p3), .val (.int p4)] [(.int (0 : Int32))]))) (fun t ht => XS.iconst X0.here hx rfl (hb hby own_d3_22) ht) ?_
      refine own_ret X0 (v := (some (.int (nar .boolean (0 : Int32))))) (fun h => by rw [Bd.returns] at h; cases h) Bd.notSynchronized (by decide) (by decide) ?_ (fun fs hr => retN X0 hx (t := .boolean) Bd.returns (by simp) (hb hby own_d3_23) hr)
      show own_Q_agr Z a1 p2 p3 p4 ka cs M q k h0 n0 _ s₁.heap _
      rw [e0]
      refine ⟨?_, N0, rfl⟩
      simp [own_ag, nar, hc4_1, hc15_4]
  ·
    refine own_step (U' := (s₁.setTop (mkF m 18 #[.val (.ref a1), .val (.int p2), .val (.int p3), .val (.int p4)] []))) (fun t ht => XS.icmpYes X0.here hx rfl (pc0 := 4) (pc' := 18) rfl (hb hby own_d3_4) rfl (XT.ii_ge_t hc4_1) (by decide) (by decide) ht) ?_
    refine own_step (U' := (s₁.setTop (mkF m 19 #[.val (.ref a1), .val (.int p2), .val (.int p3), .val (.int p4)] [(.int (1 : Int32))]))) (fun t ht => XS.iconst X0.here hx rfl (hb hby own_d3_18) ht) ?_
    refine own_step (U' := (s₁.setTop (mkF m 23 #[.val (.ref a1), .val (.int p2), .val (.int p3), .val (.int p4)] [(.int (1 : Int32))]))) (fun t ht => XS.goto X0.here hx rfl (pc0 := 19) (pc' := 23) rfl (hb hby own_d3_19) (by decide) (by decide) ht) ?_
    refine own_ret X0 (v := (some (.int (nar .boolean (1 : Int32))))) (fun h => by rw [Bd.returns] at h; cases h) Bd.notSynchronized (by decide) (by decide) ?_ (fun fs hr => retN X0 hx (t := .boolean) Bd.returns (by simp) (hb hby own_d3_23) hr)
    show own_Q_agr Z a1 p2 p3 p4 ka cs M q k h0 n0 _ s₁.heap _
    rw [e0]
    refine ⟨?_, N0, rfl⟩
    simp [own_ag, nar, hc4_1]
theorem own_pd0 : parseMethodDescriptor "([CIII)Z" = some ⟨[(.array .char), .int, .int, .int], some .boolean⟩ := by decide +kernel
theorem own_d2_0 : decode method_4_code 0 = .ok (.aload_n 0, 1) := by decide +kernel
theorem own_d2_1 : decode method_4_code 1 = .ok (.iload_n 1, 1) := by decide +kernel
theorem own_d2_2 : decode method_4_code 2 = .ok (.iload_n 2, 1) := by decide +kernel
theorem own_d2_3 : decode method_4_code 3 = .ok (.iconst 0, 1) := by decide +kernel
theorem own_d2_4 : decode method_4_code 4 = .ok (.invokestatic 28, 3) := by decide +kernel
theorem own_d2_7 : decode method_4_code 7 = .ok (.ifCond .eq 68, 3) := by decide +kernel
theorem own_d2_10 : decode method_4_code 10 = .ok (.aload_n 0, 1) := by decide +kernel
theorem own_d2_11 : decode method_4_code 11 = .ok (.iload_n 1, 1) := by decide +kernel
theorem own_d2_12 : decode method_4_code 12 = .ok (.iload_n 2, 1) := by decide +kernel
theorem own_d2_13 : decode method_4_code 13 = .ok (.iconst 1, 1) := by decide +kernel
theorem own_d2_14 : decode method_4_code 14 = .ok (.invokestatic 28, 3) := by decide +kernel
theorem own_d2_17 : decode method_4_code 17 = .ok (.ifCond .eq 58, 3) := by decide +kernel
theorem own_d2_20 : decode method_4_code 20 = .ok (.aload_n 0, 1) := by decide +kernel
theorem own_d2_21 : decode method_4_code 21 = .ok (.iload_n 1, 1) := by decide +kernel
theorem own_d2_22 : decode method_4_code 22 = .ok (.iload_n 2, 1) := by decide +kernel
theorem own_d2_23 : decode method_4_code 23 = .ok (.iconst 2, 1) := by decide +kernel
theorem own_d2_24 : decode method_4_code 24 = .ok (.invokestatic 28, 3) := by decide +kernel
theorem own_d2_27 : decode method_4_code 27 = .ok (.ifCond .eq 48, 3) := by decide +kernel
theorem own_d2_30 : decode method_4_code 30 = .ok (.aload_n 0, 1) := by decide +kernel
theorem own_d2_31 : decode method_4_code 31 = .ok (.iload_n 1, 1) := by decide +kernel
theorem own_d2_32 : decode method_4_code 32 = .ok (.iload_n 2, 1) := by decide +kernel
theorem own_d2_33 : decode method_4_code 33 = .ok (.iconst 3, 1) := by decide +kernel
theorem own_d2_34 : decode method_4_code 34 = .ok (.invokestatic 28, 3) := by decide +kernel
theorem own_d2_37 : decode method_4_code 37 = .ok (.ifCond .eq 38, 3) := by decide +kernel
theorem own_d2_40 : decode method_4_code 40 = .ok (.aload_n 0, 1) := by decide +kernel
theorem own_d2_41 : decode method_4_code 41 = .ok (.iload_n 1, 1) := by decide +kernel
theorem own_d2_42 : decode method_4_code 42 = .ok (.iload_n 2, 1) := by decide +kernel
theorem own_d2_43 : decode method_4_code 43 = .ok (.iconst 4, 1) := by decide +kernel
theorem own_d2_44 : decode method_4_code 44 = .ok (.invokestatic 28, 3) := by decide +kernel
theorem own_d2_47 : decode method_4_code 47 = .ok (.ifCond .eq 28, 3) := by decide +kernel
theorem own_d2_50 : decode method_4_code 50 = .ok (.aload_n 0, 1) := by decide +kernel
theorem own_d2_51 : decode method_4_code 51 = .ok (.iload_n 1, 1) := by decide +kernel
theorem own_d2_52 : decode method_4_code 52 = .ok (.iload_n 2, 1) := by decide +kernel
theorem own_d2_53 : decode method_4_code 53 = .ok (.iconst 5, 1) := by decide +kernel
theorem own_d2_54 : decode method_4_code 54 = .ok (.invokestatic 28, 3) := by decide +kernel
theorem own_d2_57 : decode method_4_code 57 = .ok (.ifCond .eq 18, 3) := by decide +kernel
theorem own_d2_60 : decode method_4_code 60 = .ok (.aload_n 0, 1) := by decide +kernel
theorem own_d2_61 : decode method_4_code 61 = .ok (.iload_n 1, 1) := by decide +kernel
theorem own_d2_62 : decode method_4_code 62 = .ok (.iload_n 2, 1) := by decide +kernel
theorem own_d2_63 : decode method_4_code 63 = .ok (.bipush 6, 2) := by decide +kernel
theorem own_d2_65 : decode method_4_code 65 = .ok (.invokestatic 28, 3) := by decide +kernel
theorem own_d2_68 : decode method_4_code 68 = .ok (.ifCond .eq 7, 3) := by decide +kernel
theorem own_d2_71 : decode method_4_code 71 = .ok (.iconst 1, 1) := by decide +kernel
theorem own_d2_72 : decode method_4_code 72 = .ok (.goto 4, 3) := by decide +kernel
theorem own_d2_75 : decode method_4_code 75 = .ok (.iconst 0, 1) := by decide +kernel
theorem own_d2_76 : decode method_4_code 76 = .ok (.ireturn, 1) := by decide +kernel
def own_Q_isp (Z : State) (a1 : Addr) (p2 : Int32) (p3 : Int32) (ka : ClassId) (cs : List Int32) (M : Nat) (q : Nat) (h0 : Heap) (n0 : Nat) (v : Option Value) (h : Heap) (L : List Loc) : Prop := v = some (.int (own_isp cs p2 p3)) ∧ Fr n0 L ∧ h = h0
set_option maxRecDepth 65536 in
set_option maxHeartbeats 40000000 in
theorem own_m_isp (l : Launch) (Z : State) (a0 : Array Value) (hw : ∀ d ∈ tables_1, d.before a0 Z = true) (ws : List Jvm.Cond) (a1 : Addr) (p2 : Int32) (p3 : Int32) (ka : ClassId) (cs : List Int32) (M : Nat) (q : Nat) (h0 : Heap) (n0 : Nat) (Z0 : n0 ≤ h0.size) (Va : Arv Z h0 a1 ka .char p2 (cs.map Value.int) (.int (0 : Int32))) (hm : p2.toInt = (M : Int)) (hq : p3.toInt = (q : Int)) (h7 : q ≤ 7) :
    MetFree l (⟨"com/example/skip2/skip2/boyermoore/BoyerMooreSearcherPeriodPinLaw", "isPeriod", "([CII)Z"⟩ : MethodName) (head1 (Jvm.Cond.code (⟨"com/example/skip2/skip2/boyermoore/BoyerMooreSearcherPeriodPinLaw", "isPeriod", "([CII)Z"⟩ : MethodName) method_4_code 3 (some .boolean) :: ws) ({ frames := 1, cells := 0, slots := 0, locals := 15 } : Room)) (fun a U => a = #[(.ref a1), (.int p2), (.int p3)] ∧ Z.Warmed39 U.vm ∧ U.heap = h0) (fun _ _ _ _ _ => True) (fun _ U o U' => ∃ v L, o = .returned v ∧ own_Q_isp Z a1 p2 p3 ka cs M q h0 n0 v U'.heap L ∧ FrameEnd U o U' L ({ frames := 1, cells := 0, slots := 0, locals := 15 } : Room).cells ({ frames := 1, cells := 0, slots := 0, locals := 15 } : Room).slots) := by
  refine MetFree.of_bodySF (plainFor_of_name own_pn0) hisR ?_
  intro p e s m args below meth c s₁ Bd hml0 hP hK
  obtain ⟨rfl, hZ, hh⟩ := hP
  have hx := Bd.exec
  have hby := Bd.bytes
  have hml : c.maxLocals = 3 := hml0
  have hown : s.vm.findClass "com/example/skip2/skip2/boyermoore/BoyerMooreSearcherPeriodPinLaw" = some m.cls := findClass_of_methodNamed Bd.named
  have hnm := (name_of_methodNamed Bd.named Bd.method).1
  have X0 : Stand p l e ({ frames := 1, cells := 0, slots := 0, locals := 15 } : Room) s m #[(.ref a1), (.int p2), (.int p3)] below meth c s₁ [] 0 0 := Stand.of_body Bd
  have e0 : s₁.heap = h0 := by rw [← hh, Bd.state]; rfl
  have N0 := Fr.nil n0
  have K0 : Keep h0 h0 [] := Keep.refl _ _
  show own_Go p e below s ({ frames := 1, cells := 0, slots := 0, locals := 15 } : Room).cells ({ frames := 1, cells := 0, slots := 0, locals := 15 } : Room).slots (own_Q_isp Z a1 p2 p3 ka cs M q h0 n0) (s₁.setTop (entryFrame m #[(.ref a1), (.int p2), (.int p3)] 3))
  have ef : entryFrame m #[(.ref a1), (.int p2), (.int p3)] 3 = (mkF m 0 #[.val (.ref a1), .val (.int p2), .val (.int p3)] []) := by first | (simp [entryFrame, mkF, argsToLocals, Value.category, maxLocals]; done) | rfl
  rw [ef]
  show own_Go p e below s _ _ _ (s₁.setTop (mkF m 0 #[.val (.ref a1), .val (.int p2), .val (.int p3)] []))
  refine own_step (U' := (s₁.setTop (mkF m 1 #[.val (.ref a1), .val (.int p2), .val (.int p3)] [(.ref a1)]))) (fun t ht => XS.aloadN X0.here hx rfl (hb hby own_d2_0) rfl rfl ht) ?_
  refine own_step (U' := (s₁.setTop (mkF m 2 #[.val (.ref a1), .val (.int p2), .val (.int p3)] [(.int p2), (.ref a1)]))) (fun t ht => XS.iloadN X0.here hx rfl (hb hby own_d2_1) rfl ht) ?_
  refine own_step (U' := (s₁.setTop (mkF m 3 #[.val (.ref a1), .val (.int p2), .val (.int p3)] [(.int p3), (.int p2), (.ref a1)]))) (fun t ht => XS.iloadN X0.here hx rfl (hb hby own_d2_2) rfl ht) ?_
  refine own_step (U' := (s₁.setTop (mkF m 4 #[.val (.ref a1), .val (.int p2), .val (.int p3)] [(.int (0 : Int32)), (.int p3), (.int p2), (.ref a1)]))) (fun t ht => XS.iconst X0.here hx rfl (hb hby own_d2_3) ht) ?_
  obtain ⟨_, _, ⟨T5, L5, k5, n5⟩, -, X5, ⟨Lc5, hQ5, l5, y5, z5⟩, st5⟩ := Jvm.LawKit.callS X0 hx (y := (⟨"com/example/skip2/skip2/boyermoore/BoyerMooreSearcherPeriodPinLaw", "agree", "([CIII)Z"⟩ : MethodName)) hown (mvT hZ (hw _ (List.mem_of_getElem? (i := 8) rfl))) (mvT hZ (hw _ (List.mem_of_getElem? (i := 9) rfl))) (mvT hZ (hw _ (List.mem_of_getElem? (i := 3) rfl))) (mvT hZ (hw _ (List.mem_of_getElem? (i := 10) rfl))) (by decide) (backOf (W := 0) (own_m_agr l Z a0 hw [] (a1) (p2) (p3) ((0 : Int32)) (ka) (cs) (M) (q) (0) h0 n0 Z0 Va hm hq h7 rfl (by decide)) hZ (hw _ (List.mem_of_getElem? (i := 10) rfl)) (hw _ (List.mem_of_getElem? (i := 3) rfl)) (by decide) (by decide)) (g := (mkF m 4 #[.val (.ref a1), .val (.int p2), .val (.int p3)] [(.int (0 : Int32)), (.int p3), (.int p2), (.ref a1)])) rfl (by rw [hml]; rfl) (argsL := [(.ref a1), (.int p2), (.int p3), (.int (0 : Int32))]) (rest := []) (lenOf own_pd0 rfl) rfl (by show 2 * 0 + _ ≤ _; exact Nat.le_of_eq rfl) (hb hby own_d2_4) (fun _ _ => ⟨rfl, e0, (by decide : 0 + 0 ≤ _), (by decide : 0 + 0 ≤ _)⟩)
  dsimp only [Pt.U, Pt.locs, Pt.cells, Pt.slots] at X5 l5 y5 z5 st5 hQ5
  subst l5 y5 z5
  obtain ⟨rfl, Nq5, Kq5⟩ := hQ5
  have N5 := Fr.app N0 Nq5
  have e5 : T5.heap = h0 := Kq5
  refine own_step (U' := (T5.setTop (mkF m 7 #[.val (.ref a1), .val (.int p2), .val (.int p3)] [(.int (own_ag cs p2 p3 (0 : Int32)))]))) (fun t ht => st5 _ ht) ?_
  by_cases hc7_6 : (own_ag cs p2 p3 (0 : Int32)) = 0
  ·
    refine own_step (U' := (T5.setTop (mkF m 75 #[.val (.ref a1), .val (.int p2), .val (.int p3)] []))) (fun t ht => XS.ifYes X5.here hx rfl (pc0 := 7) (pc' := 75) rfl (hb hby own_d2_7) rfl (XT.i0_eq_t hc7_6) (by decide) (by decide) ht) ?_
    refine own_step (U' := (T5.setTop (mkF m 76 #[.val (.ref a1), .val (.int p2), .val (.int p3)] [(.int (0 : Int32))]))) (fun t ht => XS.iconst X5.here hx rfl (hb hby own_d2_75) ht) ?_
    refine own_ret X5 (v := (some (.int (nar .boolean (0 : Int32))))) (fun h => by rw [Bd.returns] at h; cases h) Bd.notSynchronized (by decide) (by decide) ?_ (fun fs hr => retN X5 hx (t := .boolean) Bd.returns (by simp) (hb hby own_d2_76) hr)
    show own_Q_isp Z a1 p2 p3 ka cs M q h0 n0 _ T5.heap _
    rw [e5]
    refine ⟨?_, N5, rfl⟩
    simp [own_isp, nar, hc7_6]
  ·
    refine own_step (U' := (T5.setTop (mkF m 10 #[.val (.ref a1), .val (.int p2), .val (.int p3)] []))) (fun t ht => XS.ifNo X5.here hx rfl (hb hby own_d2_7) rfl (XT.i0_eq_f hc7_6) ht) ?_
    refine own_step (U' := (T5.setTop (mkF m 11 #[.val (.ref a1), .val (.int p2), .val (.int p3)] [(.ref a1)]))) (fun t ht => XS.aloadN X5.here hx rfl (hb hby own_d2_10) rfl rfl ht) ?_
    refine own_step (U' := (T5.setTop (mkF m 12 #[.val (.ref a1), .val (.int p2), .val (.int p3)] [(.int p2), (.ref a1)]))) (fun t ht => XS.iloadN X5.here hx rfl (hb hby own_d2_11) rfl ht) ?_
    refine own_step (U' := (T5.setTop (mkF m 13 #[.val (.ref a1), .val (.int p2), .val (.int p3)] [(.int p3), (.int p2), (.ref a1)]))) (fun t ht => XS.iloadN X5.here hx rfl (hb hby own_d2_12) rfl ht) ?_
    refine own_step (U' := (T5.setTop (mkF m 14 #[.val (.ref a1), .val (.int p2), .val (.int p3)] [(.int (1 : Int32)), (.int p3), (.int p2), (.ref a1)]))) (fun t ht => XS.iconst X5.here hx rfl (hb hby own_d2_13) ht) ?_
    obtain ⟨_, _, ⟨T7, L7, k7, n7⟩, -, X7, ⟨Lc7, hQ7, l7, y7, z7⟩, st7⟩ := Jvm.LawKit.callS X5 hx (y := (⟨"com/example/skip2/skip2/boyermoore/BoyerMooreSearcherPeriodPinLaw", "agree", "([CIII)Z"⟩ : MethodName)) hown (mvT hZ (hw _ (List.mem_of_getElem? (i := 8) rfl))) (mvT hZ (hw _ (List.mem_of_getElem? (i := 9) rfl))) (mvT hZ (hw _ (List.mem_of_getElem? (i := 3) rfl))) (mvT hZ (hw _ (List.mem_of_getElem? (i := 10) rfl))) (by decide) (backOf (W := 0) (own_m_agr l Z a0 hw [] (a1) (p2) (p3) ((1 : Int32)) (ka) (cs) (M) (q) (1) h0 n0 Z0 Va hm hq h7 rfl (by decide)) hZ (hw _ (List.mem_of_getElem? (i := 10) rfl)) (hw _ (List.mem_of_getElem? (i := 3) rfl)) (by decide) (by decide)) (g := (mkF m 14 #[.val (.ref a1), .val (.int p2), .val (.int p3)] [(.int (1 : Int32)), (.int p3), (.int p2), (.ref a1)])) rfl (by rw [hml]; rfl) (argsL := [(.ref a1), (.int p2), (.int p3), (.int (1 : Int32))]) (rest := []) (lenOf own_pd0 rfl) rfl (by show 2 * 0 + _ ≤ _; exact Nat.le_of_eq rfl) (hb hby own_d2_14) (fun _ _ => ⟨rfl, e5, (by decide : 0 + 0 ≤ _), (by decide : 0 + 0 ≤ _)⟩)
    dsimp only [Pt.U, Pt.locs, Pt.cells, Pt.slots] at X7 l7 y7 z7 st7 hQ7
    subst l7 y7 z7
    obtain ⟨rfl, Nq7, Kq7⟩ := hQ7
    have N7 := Fr.app N5 Nq7
    have e7 : T7.heap = h0 := Kq7
    refine own_step (U' := (T7.setTop (mkF m 17 #[.val (.ref a1), .val (.int p2), .val (.int p3)] [(.int (own_ag cs p2 p3 (1 : Int32)))]))) (fun t ht => st7 _ ht) ?_
    by_cases hc17_8 : (own_ag cs p2 p3 (1 : Int32)) = 0
    ·
      refine own_step (U' := (T7.setTop (mkF m 75 #[.val (.ref a1), .val (.int p2), .val (.int p3)] []))) (fun t ht => XS.ifYes X7.here hx rfl (pc0 := 17) (pc' := 75) rfl (hb hby own_d2_17) rfl (XT.i0_eq_t hc17_8) (by decide) (by decide) ht) ?_
      refine own_step (U' := (T7.setTop (mkF m 76 #[.val (.ref a1), .val (.int p2), .val (.int p3)] [(.int (0 : Int32))]))) (fun t ht => XS.iconst X7.here hx rfl (hb hby own_d2_75) ht) ?_
      refine own_ret X7 (v := (some (.int (nar .boolean (0 : Int32))))) (fun h => by rw [Bd.returns] at h; cases h) Bd.notSynchronized (by decide) (by decide) ?_ (fun fs hr => retN X7 hx (t := .boolean) Bd.returns (by simp) (hb hby own_d2_76) hr)
      show own_Q_isp Z a1 p2 p3 ka cs M q h0 n0 _ T7.heap _
      rw [e7]
      refine ⟨?_, N7, rfl⟩
      simp [own_isp, nar, hc7_6, hc17_8]
    ·
      refine own_step (U' := (T7.setTop (mkF m 20 #[.val (.ref a1), .val (.int p2), .val (.int p3)] []))) (fun t ht => XS.ifNo X7.here hx rfl (hb hby own_d2_17) rfl (XT.i0_eq_f hc17_8) ht) ?_
      refine own_step (U' := (T7.setTop (mkF m 21 #[.val (.ref a1), .val (.int p2), .val (.int p3)] [(.ref a1)]))) (fun t ht => XS.aloadN X7.here hx rfl (hb hby own_d2_20) rfl rfl ht) ?_
      refine own_step (U' := (T7.setTop (mkF m 22 #[.val (.ref a1), .val (.int p2), .val (.int p3)] [(.int p2), (.ref a1)]))) (fun t ht => XS.iloadN X7.here hx rfl (hb hby own_d2_21) rfl ht) ?_
      refine own_step (U' := (T7.setTop (mkF m 23 #[.val (.ref a1), .val (.int p2), .val (.int p3)] [(.int p3), (.int p2), (.ref a1)]))) (fun t ht => XS.iloadN X7.here hx rfl (hb hby own_d2_22) rfl ht) ?_
      refine own_step (U' := (T7.setTop (mkF m 24 #[.val (.ref a1), .val (.int p2), .val (.int p3)] [(.int (2 : Int32)), (.int p3), (.int p2), (.ref a1)]))) (fun t ht => XS.iconst X7.here hx rfl (hb hby own_d2_23) ht) ?_
      obtain ⟨_, _, ⟨T9, L9, k9, n9⟩, -, X9, ⟨Lc9, hQ9, l9, y9, z9⟩, st9⟩ := Jvm.LawKit.callS X7 hx (y := (⟨"com/example/skip2/skip2/boyermoore/BoyerMooreSearcherPeriodPinLaw", "agree", "([CIII)Z"⟩ : MethodName)) hown (mvT hZ (hw _ (List.mem_of_getElem? (i := 8) rfl))) (mvT hZ (hw _ (List.mem_of_getElem? (i := 9) rfl))) (mvT hZ (hw _ (List.mem_of_getElem? (i := 3) rfl))) (mvT hZ (hw _ (List.mem_of_getElem? (i := 10) rfl))) (by decide) (backOf (W := 0) (own_m_agr l Z a0 hw [] (a1) (p2) (p3) ((2 : Int32)) (ka) (cs) (M) (q) (2) h0 n0 Z0 Va hm hq h7 rfl (by decide)) hZ (hw _ (List.mem_of_getElem? (i := 10) rfl)) (hw _ (List.mem_of_getElem? (i := 3) rfl)) (by decide) (by decide)) (g := (mkF m 24 #[.val (.ref a1), .val (.int p2), .val (.int p3)] [(.int (2 : Int32)), (.int p3), (.int p2), (.ref a1)])) rfl (by rw [hml]; rfl) (argsL := [(.ref a1), (.int p2), (.int p3), (.int (2 : Int32))]) (rest := []) (lenOf own_pd0 rfl) rfl (by show 2 * 0 + _ ≤ _; exact Nat.le_of_eq rfl) (hb hby own_d2_24) (fun _ _ => ⟨rfl, e7, (by decide : 0 + 0 ≤ _), (by decide : 0 + 0 ≤ _)⟩)
      dsimp only [Pt.U, Pt.locs, Pt.cells, Pt.slots] at X9 l9 y9 z9 st9 hQ9
      subst l9 y9 z9
      obtain ⟨rfl, Nq9, Kq9⟩ := hQ9
      have N9 := Fr.app N7 Nq9
      have e9 : T9.heap = h0 := Kq9
      refine own_step (U' := (T9.setTop (mkF m 27 #[.val (.ref a1), .val (.int p2), .val (.int p3)] [(.int (own_ag cs p2 p3 (2 : Int32)))]))) (fun t ht => st9 _ ht) ?_
      by_cases hc27_10 : (own_ag cs p2 p3 (2 : Int32)) = 0
      ·
        refine own_step (U' := (T9.setTop (mkF m 75 #[.val (.ref a1), .val (.int p2), .val (.int p3)] []))) (fun t ht => XS.ifYes X9.here hx rfl (pc0 := 27) (pc' := 75) rfl (hb hby own_d2_27) rfl (XT.i0_eq_t hc27_10) (by decide) (by decide) ht) ?_
        refine own_step (U' := (T9.setTop (mkF m 76 #[.val (.ref a1), .val (.int p2), .val (.int p3)] [(.int (0 : Int32))]))) (fun t ht => XS.iconst X9.here hx rfl (hb hby own_d2_75) ht) ?_
        refine own_ret X9 (v := (some (.int (nar .boolean (0 : Int32))))) (fun h => by rw [Bd.returns] at h; cases h) Bd.notSynchronized (by decide) (by decide) ?_ (fun fs hr => retN X9 hx (t := .boolean) Bd.returns (by simp) (hb hby own_d2_76) hr)
        show own_Q_isp Z a1 p2 p3 ka cs M q h0 n0 _ T9.heap _
        rw [e9]
        refine ⟨?_, N9, rfl⟩
        simp [own_isp, nar, hc7_6, hc17_8, hc27_10]
      ·
        refine own_step (U' := (T9.setTop (mkF m 30 #[.val (.ref a1), .val (.int p2), .val (.int p3)] []))) (fun t ht => XS.ifNo X9.here hx rfl (hb hby own_d2_27) rfl (XT.i0_eq_f hc27_10) ht) ?_
        refine own_step (U' := (T9.setTop (mkF m 31 #[.val (.ref a1), .val (.int p2), .val (.int p3)] [(.ref a1)]))) (fun t ht => XS.aloadN X9.here hx rfl (hb hby own_d2_30) rfl rfl ht) ?_
        refine own_step (U' := (T9.setTop (mkF m 32 #[.val (.ref a1), .val (.int p2), .val (.int p3)] [(.int p2), (.ref a1)]))) (fun t ht => XS.iloadN X9.here hx rfl (hb hby own_d2_31) rfl ht) ?_
        refine own_step (U' := (T9.setTop (mkF m 33 #[.val (.ref a1), .val (.int p2), .val (.int p3)] [(.int p3), (.int p2), (.ref a1)]))) (fun t ht => XS.iloadN X9.here hx rfl (hb hby own_d2_32) rfl ht) ?_
        refine own_step (U' := (T9.setTop (mkF m 34 #[.val (.ref a1), .val (.int p2), .val (.int p3)] [(.int (3 : Int32)), (.int p3), (.int p2), (.ref a1)]))) (fun t ht => XS.iconst X9.here hx rfl (hb hby own_d2_33) ht) ?_
        obtain ⟨_, _, ⟨T11, L11, k11, n11⟩, -, X11, ⟨Lc11, hQ11, l11, y11, z11⟩, st11⟩ := Jvm.LawKit.callS X9 hx (y := (⟨"com/example/skip2/skip2/boyermoore/BoyerMooreSearcherPeriodPinLaw", "agree", "([CIII)Z"⟩ : MethodName)) hown (mvT hZ (hw _ (List.mem_of_getElem? (i := 8) rfl))) (mvT hZ (hw _ (List.mem_of_getElem? (i := 9) rfl))) (mvT hZ (hw _ (List.mem_of_getElem? (i := 3) rfl))) (mvT hZ (hw _ (List.mem_of_getElem? (i := 10) rfl))) (by decide) (backOf (W := 0) (own_m_agr l Z a0 hw [] (a1) (p2) (p3) ((3 : Int32)) (ka) (cs) (M) (q) (3) h0 n0 Z0 Va hm hq h7 rfl (by decide)) hZ (hw _ (List.mem_of_getElem? (i := 10) rfl)) (hw _ (List.mem_of_getElem? (i := 3) rfl)) (by decide) (by decide)) (g := (mkF m 34 #[.val (.ref a1), .val (.int p2), .val (.int p3)] [(.int (3 : Int32)), (.int p3), (.int p2), (.ref a1)])) rfl (by rw [hml]; rfl) (argsL := [(.ref a1), (.int p2), (.int p3), (.int (3 : Int32))]) (rest := []) (lenOf own_pd0 rfl) rfl (by show 2 * 0 + _ ≤ _; exact Nat.le_of_eq rfl) (hb hby own_d2_34) (fun _ _ => ⟨rfl, e9, (by decide : 0 + 0 ≤ _), (by decide : 0 + 0 ≤ _)⟩)
        dsimp only [Pt.U, Pt.locs, Pt.cells, Pt.slots] at X11 l11 y11 z11 st11 hQ11
        subst l11 y11 z11
        obtain ⟨rfl, Nq11, Kq11⟩ := hQ11
        have N11 := Fr.app N9 Nq11
        have e11 : T11.heap = h0 := Kq11
        refine own_step (U' := (T11.setTop (mkF m 37 #[.val (.ref a1), .val (.int p2), .val (.int p3)] [(.int (own_ag cs p2 p3 (3 : Int32)))]))) (fun t ht => st11 _ ht) ?_
        by_cases hc37_12 : (own_ag cs p2 p3 (3 : Int32)) = 0
        ·
          refine own_step (U' := (T11.setTop (mkF m 75 #[.val (.ref a1), .val (.int p2), .val (.int p3)] []))) (fun t ht => XS.ifYes X11.here hx rfl (pc0 := 37) (pc' := 75) rfl (hb hby own_d2_37) rfl (XT.i0_eq_t hc37_12) (by decide) (by decide) ht) ?_
          refine own_step (U' := (T11.setTop (mkF m 76 #[.val (.ref a1), .val (.int p2), .val (.int p3)] [(.int (0 : Int32))]))) (fun t ht => XS.iconst X11.here hx rfl (hb hby own_d2_75) ht) ?_
          refine own_ret X11 (v := (some (.int (nar .boolean (0 : Int32))))) (fun h => by rw [Bd.returns] at h; cases h) Bd.notSynchronized (by decide) (by decide) ?_ (fun fs hr => retN X11 hx (t := .boolean) Bd.returns (by simp) (hb hby own_d2_76) hr)
          show own_Q_isp Z a1 p2 p3 ka cs M q h0 n0 _ T11.heap _
          rw [e11]
          refine ⟨?_, N11, rfl⟩
          simp [own_isp, nar, hc7_6, hc17_8, hc27_10, hc37_12]
        ·
          refine own_step (U' := (T11.setTop (mkF m 40 #[.val (.ref a1), .val (.int p2), .val (.int p3)] []))) (fun t ht => XS.ifNo X11.here hx rfl (hb hby own_d2_37) rfl (XT.i0_eq_f hc37_12) ht) ?_
          refine own_step (U' := (T11.setTop (mkF m 41 #[.val (.ref a1), .val (.int p2), .val (.int p3)] [(.ref a1)]))) (fun t ht => XS.aloadN X11.here hx rfl (hb hby own_d2_40) rfl rfl ht) ?_
          refine own_step (U' := (T11.setTop (mkF m 42 #[.val (.ref a1), .val (.int p2), .val (.int p3)] [(.int p2), (.ref a1)]))) (fun t ht => XS.iloadN X11.here hx rfl (hb hby own_d2_41) rfl ht) ?_
          refine own_step (U' := (T11.setTop (mkF m 43 #[.val (.ref a1), .val (.int p2), .val (.int p3)] [(.int p3), (.int p2), (.ref a1)]))) (fun t ht => XS.iloadN X11.here hx rfl (hb hby own_d2_42) rfl ht) ?_
          refine own_step (U' := (T11.setTop (mkF m 44 #[.val (.ref a1), .val (.int p2), .val (.int p3)] [(.int (4 : Int32)), (.int p3), (.int p2), (.ref a1)]))) (fun t ht => XS.iconst X11.here hx rfl (hb hby own_d2_43) ht) ?_
          obtain ⟨_, _, ⟨T13, L13, k13, n13⟩, -, X13, ⟨Lc13, hQ13, l13, y13, z13⟩, st13⟩ := Jvm.LawKit.callS X11 hx (y := (⟨"com/example/skip2/skip2/boyermoore/BoyerMooreSearcherPeriodPinLaw", "agree", "([CIII)Z"⟩ : MethodName)) hown (mvT hZ (hw _ (List.mem_of_getElem? (i := 8) rfl))) (mvT hZ (hw _ (List.mem_of_getElem? (i := 9) rfl))) (mvT hZ (hw _ (List.mem_of_getElem? (i := 3) rfl))) (mvT hZ (hw _ (List.mem_of_getElem? (i := 10) rfl))) (by decide) (backOf (W := 0) (own_m_agr l Z a0 hw [] (a1) (p2) (p3) ((4 : Int32)) (ka) (cs) (M) (q) (4) h0 n0 Z0 Va hm hq h7 rfl (by decide)) hZ (hw _ (List.mem_of_getElem? (i := 10) rfl)) (hw _ (List.mem_of_getElem? (i := 3) rfl)) (by decide) (by decide)) (g := (mkF m 44 #[.val (.ref a1), .val (.int p2), .val (.int p3)] [(.int (4 : Int32)), (.int p3), (.int p2), (.ref a1)])) rfl (by rw [hml]; rfl) (argsL := [(.ref a1), (.int p2), (.int p3), (.int (4 : Int32))]) (rest := []) (lenOf own_pd0 rfl) rfl (by show 2 * 0 + _ ≤ _; exact Nat.le_of_eq rfl) (hb hby own_d2_44) (fun _ _ => ⟨rfl, e11, (by decide : 0 + 0 ≤ _), (by decide : 0 + 0 ≤ _)⟩)
          dsimp only [Pt.U, Pt.locs, Pt.cells, Pt.slots] at X13 l13 y13 z13 st13 hQ13
          subst l13 y13 z13
          obtain ⟨rfl, Nq13, Kq13⟩ := hQ13
          have N13 := Fr.app N11 Nq13
          have e13 : T13.heap = h0 := Kq13
          refine own_step (U' := (T13.setTop (mkF m 47 #[.val (.ref a1), .val (.int p2), .val (.int p3)] [(.int (own_ag cs p2 p3 (4 : Int32)))]))) (fun t ht => st13 _ ht) ?_
          by_cases hc47_14 : (own_ag cs p2 p3 (4 : Int32)) = 0
          ·
            refine own_step (U' := (T13.setTop (mkF m 75 #[.val (.ref a1), .val (.int p2), .val (.int p3)] []))) (fun t ht => XS.ifYes X13.here hx rfl (pc0 := 47) (pc' := 75) rfl (hb hby own_d2_47) rfl (XT.i0_eq_t hc47_14) (by decide) (by decide) ht) ?_
            refine own_step (U' := (T13.setTop (mkF m 76 #[.val (.ref a1), .val (.int p2), .val (.int p3)] [(.int (0 : Int32))]))) (fun t ht => XS.iconst X13.here hx rfl (hb hby own_d2_75) ht) ?_
            refine own_ret X13 (v := (some (.int (nar .boolean (0 : Int32))))) (fun h => by rw [Bd.returns] at h; cases h) Bd.notSynchronized (by decide) (by decide) ?_ (fun fs hr => retN X13 hx (t := .boolean) Bd.returns (by simp) (hb hby own_d2_76) hr)
            show own_Q_isp Z a1 p2 p3 ka cs M q h0 n0 _ T13.heap _
            rw [e13]
            refine ⟨?_, N13, rfl⟩
            simp [own_isp, nar, hc7_6, hc17_8, hc27_10, hc37_12, hc47_14]
          ·
            refine own_step (U' := (T13.setTop (mkF m 50 #[.val (.ref a1), .val (.int p2), .val (.int p3)] []))) (fun t ht => XS.ifNo X13.here hx rfl (hb hby own_d2_47) rfl (XT.i0_eq_f hc47_14) ht) ?_
            refine own_step (U' := (T13.setTop (mkF m 51 #[.val (.ref a1), .val (.int p2), .val (.int p3)] [(.ref a1)]))) (fun t ht => XS.aloadN X13.here hx rfl (hb hby own_d2_50) rfl rfl ht) ?_
            refine own_step (U' := (T13.setTop (mkF m 52 #[.val (.ref a1), .val (.int p2), .val (.int p3)] [(.int p2), (.ref a1)]))) (fun t ht => XS.iloadN X13.here hx rfl (hb hby own_d2_51) rfl ht) ?_
            refine own_step (U' := (T13.setTop (mkF m 53 #[.val (.ref a1), .val (.int p2), .val (.int p3)] [(.int p3), (.int p2), (.ref a1)]))) (fun t ht => XS.iloadN X13.here hx rfl (hb hby own_d2_52) rfl ht) ?_
            refine own_step (U' := (T13.setTop (mkF m 54 #[.val (.ref a1), .val (.int p2), .val (.int p3)] [(.int (5 : Int32)), (.int p3), (.int p2), (.ref a1)]))) (fun t ht => XS.iconst X13.here hx rfl (hb hby own_d2_53) ht) ?_
            obtain ⟨_, _, ⟨T15, L15, k15, n15⟩, -, X15, ⟨Lc15, hQ15, l15, y15, z15⟩, st15⟩ := Jvm.LawKit.callS X13 hx (y := (⟨"com/example/skip2/skip2/boyermoore/BoyerMooreSearcherPeriodPinLaw", "agree", "([CIII)Z"⟩ : MethodName)) hown (mvT hZ (hw _ (List.mem_of_getElem? (i := 8) rfl))) (mvT hZ (hw _ (List.mem_of_getElem? (i := 9) rfl))) (mvT hZ (hw _ (List.mem_of_getElem? (i := 3) rfl))) (mvT hZ (hw _ (List.mem_of_getElem? (i := 10) rfl))) (by decide) (backOf (W := 0) (own_m_agr l Z a0 hw [] (a1) (p2) (p3) ((5 : Int32)) (ka) (cs) (M) (q) (5) h0 n0 Z0 Va hm hq h7 rfl (by decide)) hZ (hw _ (List.mem_of_getElem? (i := 10) rfl)) (hw _ (List.mem_of_getElem? (i := 3) rfl)) (by decide) (by decide)) (g := (mkF m 54 #[.val (.ref a1), .val (.int p2), .val (.int p3)] [(.int (5 : Int32)), (.int p3), (.int p2), (.ref a1)])) rfl (by rw [hml]; rfl) (argsL := [(.ref a1), (.int p2), (.int p3), (.int (5 : Int32))]) (rest := []) (lenOf own_pd0 rfl) rfl (by show 2 * 0 + _ ≤ _; exact Nat.le_of_eq rfl) (hb hby own_d2_54) (fun _ _ => ⟨rfl, e13, (by decide : 0 + 0 ≤ _), (by decide : 0 + 0 ≤ _)⟩)
            dsimp only [Pt.U, Pt.locs, Pt.cells, Pt.slots] at X15 l15 y15 z15 st15 hQ15
            subst l15 y15 z15
            obtain ⟨rfl, Nq15, Kq15⟩ := hQ15
            have N15 := Fr.app N13 Nq15
            have e15 : T15.heap = h0 := Kq15
            refine own_step (U' := (T15.setTop (mkF m 57 #[.val (.ref a1), .val (.int p2), .val (.int p3)] [(.int (own_ag cs p2 p3 (5 : Int32)))]))) (fun t ht => st15 _ ht) ?_
            by_cases hc57_16 : (own_ag cs p2 p3 (5 : Int32)) = 0
            ·
              refine own_step (U' := (T15.setTop (mkF m 75 #[.val (.ref a1), .val (.int p2), .val (.int p3)] []))) (fun t ht => XS.ifYes X15.here hx rfl (pc0 := 57) (pc' := 75) rfl (hb hby own_d2_57) rfl (XT.i0_eq_t hc57_16) (by decide) (by decide) ht) ?_
              refine own_step (U' := (T15.setTop (mkF m 76 #[.val (.ref a1), .val (.int p2), .val (.int p3)] [(.int (0 : Int32))]))) (fun t ht => XS.iconst X15.here hx rfl (hb hby own_d2_75) ht) ?_
              refine own_ret X15 (v := (some (.int (nar .boolean (0 : Int32))))) (fun h => by rw [Bd.returns] at h; cases h) Bd.notSynchronized (by decide) (by decide) ?_ (fun fs hr => retN X15 hx (t := .boolean) Bd.returns (by simp) (hb hby own_d2_76) hr)
              show own_Q_isp Z a1 p2 p3 ka cs M q h0 n0 _ T15.heap _
              rw [e15]
              refine ⟨?_, N15, rfl⟩
              simp [own_isp, nar, hc7_6, hc17_8, hc27_10, hc37_12, hc47_14, hc57_16]
            ·
              refine own_step (U' := (T15.setTop (mkF m 60 #[.val (.ref a1), .val (.int p2), .val (.int p3)] []))) (fun t ht => XS.ifNo X15.here hx rfl (hb hby own_d2_57) rfl (XT.i0_eq_f hc57_16) ht) ?_
              refine own_step (U' := (T15.setTop (mkF m 61 #[.val (.ref a1), .val (.int p2), .val (.int p3)] [(.ref a1)]))) (fun t ht => XS.aloadN X15.here hx rfl (hb hby own_d2_60) rfl rfl ht) ?_
              refine own_step (U' := (T15.setTop (mkF m 62 #[.val (.ref a1), .val (.int p2), .val (.int p3)] [(.int p2), (.ref a1)]))) (fun t ht => XS.iloadN X15.here hx rfl (hb hby own_d2_61) rfl ht) ?_
              refine own_step (U' := (T15.setTop (mkF m 63 #[.val (.ref a1), .val (.int p2), .val (.int p3)] [(.int p3), (.int p2), (.ref a1)]))) (fun t ht => XS.iloadN X15.here hx rfl (hb hby own_d2_62) rfl ht) ?_
              refine own_step (U' := (T15.setTop (mkF m 65 #[.val (.ref a1), .val (.int p2), .val (.int p3)] [(.int (6 : Int32)), (.int p3), (.int p2), (.ref a1)]))) (fun t ht => XS.bipush X15.here hx rfl (hb hby own_d2_63) ht) ?_
              obtain ⟨_, _, ⟨T17, L17, k17, n17⟩, -, X17, ⟨Lc17, hQ17, l17, y17, z17⟩, st17⟩ := Jvm.LawKit.callS X15 hx (y := (⟨"com/example/skip2/skip2/boyermoore/BoyerMooreSearcherPeriodPinLaw", "agree", "([CIII)Z"⟩ : MethodName)) hown (mvT hZ (hw _ (List.mem_of_getElem? (i := 8) rfl))) (mvT hZ (hw _ (List.mem_of_getElem? (i := 9) rfl))) (mvT hZ (hw _ (List.mem_of_getElem? (i := 3) rfl))) (mvT hZ (hw _ (List.mem_of_getElem? (i := 10) rfl))) (by decide) (backOf (W := 0) (own_m_agr l Z a0 hw [] (a1) (p2) (p3) ((6 : Int32)) (ka) (cs) (M) (q) (6) h0 n0 Z0 Va hm hq h7 rfl (by decide)) hZ (hw _ (List.mem_of_getElem? (i := 10) rfl)) (hw _ (List.mem_of_getElem? (i := 3) rfl)) (by decide) (by decide)) (g := (mkF m 65 #[.val (.ref a1), .val (.int p2), .val (.int p3)] [(.int (6 : Int32)), (.int p3), (.int p2), (.ref a1)])) rfl (by rw [hml]; rfl) (argsL := [(.ref a1), (.int p2), (.int p3), (.int (6 : Int32))]) (rest := []) (lenOf own_pd0 rfl) rfl (by show 2 * 0 + _ ≤ _; exact Nat.le_of_eq rfl) (hb hby own_d2_65) (fun _ _ => ⟨rfl, e15, (by decide : 0 + 0 ≤ _), (by decide : 0 + 0 ≤ _)⟩)
              dsimp only [Pt.U, Pt.locs, Pt.cells, Pt.slots] at X17 l17 y17 z17 st17 hQ17
              subst l17 y17 z17
              obtain ⟨rfl, Nq17, Kq17⟩ := hQ17
              have N17 := Fr.app N15 Nq17
              have e17 : T17.heap = h0 := Kq17
              refine own_step (U' := (T17.setTop (mkF m 68 #[.val (.ref a1), .val (.int p2), .val (.int p3)] [(.int (own_ag cs p2 p3 (6 : Int32)))]))) (fun t ht => st17 _ ht) ?_
              by_cases hc68_18 : (own_ag cs p2 p3 (6 : Int32)) = 0
              ·
                refine own_step (U' := (T17.setTop (mkF m 75 #[.val (.ref a1), .val (.int p2), .val (.int p3)] []))) (fun t ht => XS.ifYes X17.here hx rfl (pc0 := 68) (pc' := 75) rfl (hb hby own_d2_68) rfl (XT.i0_eq_t hc68_18) (by decide) (by decide) ht) ?_
                refine own_step (U' := (T17.setTop (mkF m 76 #[.val (.ref a1), .val (.int p2), .val (.int p3)] [(.int (0 : Int32))]))) (fun t ht => XS.iconst X17.here hx rfl (hb hby own_d2_75) ht) ?_
                refine own_ret X17 (v := (some (.int (nar .boolean (0 : Int32))))) (fun h => by rw [Bd.returns] at h; cases h) Bd.notSynchronized (by decide) (by decide) ?_ (fun fs hr => retN X17 hx (t := .boolean) Bd.returns (by simp) (hb hby own_d2_76) hr)
                show own_Q_isp Z a1 p2 p3 ka cs M q h0 n0 _ T17.heap _
                rw [e17]
                refine ⟨?_, N17, rfl⟩
                simp [own_isp, nar, hc7_6, hc17_8, hc27_10, hc37_12, hc47_14, hc57_16, hc68_18]
              ·
                refine own_step (U' := (T17.setTop (mkF m 71 #[.val (.ref a1), .val (.int p2), .val (.int p3)] []))) (fun t ht => XS.ifNo X17.here hx rfl (hb hby own_d2_68) rfl (XT.i0_eq_f hc68_18) ht) ?_
                refine own_step (U' := (T17.setTop (mkF m 72 #[.val (.ref a1), .val (.int p2), .val (.int p3)] [(.int (1 : Int32))]))) (fun t ht => XS.iconst X17.here hx rfl (hb hby own_d2_71) ht) ?_
                refine own_step (U' := (T17.setTop (mkF m 76 #[.val (.ref a1), .val (.int p2), .val (.int p3)] [(.int (1 : Int32))]))) (fun t ht => XS.goto X17.here hx rfl (pc0 := 72) (pc' := 76) rfl (hb hby own_d2_72) (by decide) (by decide) ht) ?_
                refine own_ret X17 (v := (some (.int (nar .boolean (1 : Int32))))) (fun h => by rw [Bd.returns] at h; cases h) Bd.notSynchronized (by decide) (by decide) ?_ (fun fs hr => retN X17 hx (t := .boolean) Bd.returns (by simp) (hb hby own_d2_76) hr)
                show own_Q_isp Z a1 p2 p3 ka cs M q h0 n0 _ T17.heap _
                rw [e17]
                refine ⟨?_, N17, rfl⟩
                simp [own_isp, nar, hc7_6, hc17_8, hc27_10, hc37_12, hc47_14, hc57_16, hc68_18]
theorem own_pd1 : parseMethodDescriptor "([CII)Z" = some ⟨[(.array .char), .int, .int], some .boolean⟩ := by decide +kernel
theorem own_d1_0 : decode method_5_code 0 = .ok (.aload_n 0, 1) := by decide +kernel
theorem own_d1_1 : decode method_5_code 1 = .ok (.iload_n 1, 1) := by decide +kernel
theorem own_d1_2 : decode method_5_code 2 = .ok (.iconst 1, 1) := by decide +kernel
theorem own_d1_3 : decode method_5_code 3 = .ok (.invokestatic 32, 3) := by decide +kernel
theorem own_d1_6 : decode method_5_code 6 = .ok (.ifCond .eq 5, 3) := by decide +kernel
theorem own_d1_9 : decode method_5_code 9 = .ok (.iconst 1, 1) := by decide +kernel
theorem own_d1_10 : decode method_5_code 10 = .ok (.ireturn, 1) := by decide +kernel
theorem own_d1_11 : decode method_5_code 11 = .ok (.aload_n 0, 1) := by decide +kernel
theorem own_d1_12 : decode method_5_code 12 = .ok (.iload_n 1, 1) := by decide +kernel
theorem own_d1_13 : decode method_5_code 13 = .ok (.iconst 2, 1) := by decide +kernel
theorem own_d1_14 : decode method_5_code 14 = .ok (.invokestatic 32, 3) := by decide +kernel
theorem own_d1_17 : decode method_5_code 17 = .ok (.ifCond .eq 5, 3) := by decide +kernel
theorem own_d1_20 : decode method_5_code 20 = .ok (.iconst 2, 1) := by decide +kernel
theorem own_d1_21 : decode method_5_code 21 = .ok (.ireturn, 1) := by decide +kernel
theorem own_d1_22 : decode method_5_code 22 = .ok (.aload_n 0, 1) := by decide +kernel
theorem own_d1_23 : decode method_5_code 23 = .ok (.iload_n 1, 1) := by decide +kernel
theorem own_d1_24 : decode method_5_code 24 = .ok (.iconst 3, 1) := by decide +kernel
theorem own_d1_25 : decode method_5_code 25 = .ok (.invokestatic 32, 3) := by decide +kernel
theorem own_d1_28 : decode method_5_code 28 = .ok (.ifCond .eq 5, 3) := by decide +kernel
theorem own_d1_31 : decode method_5_code 31 = .ok (.iconst 3, 1) := by decide +kernel
theorem own_d1_32 : decode method_5_code 32 = .ok (.ireturn, 1) := by decide +kernel
theorem own_d1_33 : decode method_5_code 33 = .ok (.aload_n 0, 1) := by decide +kernel
theorem own_d1_34 : decode method_5_code 34 = .ok (.iload_n 1, 1) := by decide +kernel
theorem own_d1_35 : decode method_5_code 35 = .ok (.iconst 4, 1) := by decide +kernel
theorem own_d1_36 : decode method_5_code 36 = .ok (.invokestatic 32, 3) := by decide +kernel
theorem own_d1_39 : decode method_5_code 39 = .ok (.ifCond .eq 5, 3) := by decide +kernel
theorem own_d1_42 : decode method_5_code 42 = .ok (.iconst 4, 1) := by decide +kernel
theorem own_d1_43 : decode method_5_code 43 = .ok (.ireturn, 1) := by decide +kernel
theorem own_d1_44 : decode method_5_code 44 = .ok (.aload_n 0, 1) := by decide +kernel
theorem own_d1_45 : decode method_5_code 45 = .ok (.iload_n 1, 1) := by decide +kernel
theorem own_d1_46 : decode method_5_code 46 = .ok (.iconst 5, 1) := by decide +kernel
theorem own_d1_47 : decode method_5_code 47 = .ok (.invokestatic 32, 3) := by decide +kernel
theorem own_d1_50 : decode method_5_code 50 = .ok (.ifCond .eq 5, 3) := by decide +kernel
theorem own_d1_53 : decode method_5_code 53 = .ok (.iconst 5, 1) := by decide +kernel
theorem own_d1_54 : decode method_5_code 54 = .ok (.ireturn, 1) := by decide +kernel
theorem own_d1_55 : decode method_5_code 55 = .ok (.aload_n 0, 1) := by decide +kernel
theorem own_d1_56 : decode method_5_code 56 = .ok (.iload_n 1, 1) := by decide +kernel
theorem own_d1_57 : decode method_5_code 57 = .ok (.bipush 6, 2) := by decide +kernel
theorem own_d1_59 : decode method_5_code 59 = .ok (.invokestatic 32, 3) := by decide +kernel
theorem own_d1_62 : decode method_5_code 62 = .ok (.ifCond .eq 6, 3) := by decide +kernel
theorem own_d1_65 : decode method_5_code 65 = .ok (.bipush 6, 2) := by decide +kernel
theorem own_d1_67 : decode method_5_code 67 = .ok (.ireturn, 1) := by decide +kernel
theorem own_d1_68 : decode method_5_code 68 = .ok (.aload_n 0, 1) := by decide +kernel
theorem own_d1_69 : decode method_5_code 69 = .ok (.iload_n 1, 1) := by decide +kernel
theorem own_d1_70 : decode method_5_code 70 = .ok (.bipush 7, 2) := by decide +kernel
theorem own_d1_72 : decode method_5_code 72 = .ok (.invokestatic 32, 3) := by decide +kernel
theorem own_d1_75 : decode method_5_code 75 = .ok (.ifCond .eq 6, 3) := by decide +kernel
theorem own_d1_78 : decode method_5_code 78 = .ok (.bipush 7, 2) := by decide +kernel
theorem own_d1_80 : decode method_5_code 80 = .ok (.ireturn, 1) := by decide +kernel
theorem own_d1_81 : decode method_5_code 81 = .ok (.bipush 8, 2) := by decide +kernel
theorem own_d1_83 : decode method_5_code 83 = .ok (.ireturn, 1) := by decide +kernel
def own_Q_smp (Z : State) (a1 : Addr) (p2 : Int32) (ka : ClassId) (cs : List Int32) (M : Nat) (h0 : Heap) (n0 : Nat) (v : Option Value) (h : Heap) (L : List Loc) : Prop := v = some (.int (own_sp cs p2)) ∧ Fr n0 L ∧ h = h0
set_option maxRecDepth 65536 in
set_option maxHeartbeats 40000000 in
theorem own_m_smp (l : Launch) (Z : State) (a0 : Array Value) (hw : ∀ d ∈ tables_1, d.before a0 Z = true) (ws : List Jvm.Cond) (a1 : Addr) (p2 : Int32) (ka : ClassId) (cs : List Int32) (M : Nat) (h0 : Heap) (n0 : Nat) (Z0 : n0 ≤ h0.size) (Va : Arv Z h0 a1 ka .char p2 (cs.map Value.int) (.int (0 : Int32))) (hm : p2.toInt = (M : Int)) :
    MetFree l (⟨"com/example/skip2/skip2/boyermoore/BoyerMooreSearcherPeriodPinLaw", "smallestPeriod", "([CI)I"⟩ : MethodName) (head1 (Jvm.Cond.code (⟨"com/example/skip2/skip2/boyermoore/BoyerMooreSearcherPeriodPinLaw", "smallestPeriod", "([CI)I"⟩ : MethodName) method_5_code 2 (some .int) :: ws) ({ frames := 2, cells := 0, slots := 0, locals := 29 } : Room)) (fun a U => a = #[(.ref a1), (.int p2)] ∧ Z.Warmed39 U.vm ∧ U.heap = h0) (fun _ _ _ _ _ => True) (fun _ U o U' => ∃ v L, o = .returned v ∧ own_Q_smp Z a1 p2 ka cs M h0 n0 v U'.heap L ∧ FrameEnd U o U' L ({ frames := 2, cells := 0, slots := 0, locals := 29 } : Room).cells ({ frames := 2, cells := 0, slots := 0, locals := 29 } : Room).slots) := by
  refine MetFree.of_bodySF (plainFor_of_name own_pn0) hisR ?_
  intro p e s m args below meth c s₁ Bd hml0 hP hK
  obtain ⟨rfl, hZ, hh⟩ := hP
  have hx := Bd.exec
  have hby := Bd.bytes
  have hml : c.maxLocals = 2 := hml0
  have hown : s.vm.findClass "com/example/skip2/skip2/boyermoore/BoyerMooreSearcherPeriodPinLaw" = some m.cls := findClass_of_methodNamed Bd.named
  have hnm := (name_of_methodNamed Bd.named Bd.method).1
  have X0 : Stand p l e ({ frames := 2, cells := 0, slots := 0, locals := 29 } : Room) s m #[(.ref a1), (.int p2)] below meth c s₁ [] 0 0 := Stand.of_body Bd
  have e0 : s₁.heap = h0 := by rw [← hh, Bd.state]; rfl
  have N0 := Fr.nil n0
  have K0 : Keep h0 h0 [] := Keep.refl _ _
  show own_Go p e below s ({ frames := 2, cells := 0, slots := 0, locals := 29 } : Room).cells ({ frames := 2, cells := 0, slots := 0, locals := 29 } : Room).slots (own_Q_smp Z a1 p2 ka cs M h0 n0) (s₁.setTop (entryFrame m #[(.ref a1), (.int p2)] 2))
  have ef : entryFrame m #[(.ref a1), (.int p2)] 2 = (mkF m 0 #[.val (.ref a1), .val (.int p2)] []) := by first | (simp [entryFrame, mkF, argsToLocals, Value.category, maxLocals]; done) | rfl
  rw [ef]
  show own_Go p e below s _ _ _ (s₁.setTop (mkF m 0 #[.val (.ref a1), .val (.int p2)] []))
  refine own_step (U' := (s₁.setTop (mkF m 1 #[.val (.ref a1), .val (.int p2)] [(.ref a1)]))) (fun t ht => XS.aloadN X0.here hx rfl (hb hby own_d1_0) rfl rfl ht) ?_
  refine own_step (U' := (s₁.setTop (mkF m 2 #[.val (.ref a1), .val (.int p2)] [(.int p2), (.ref a1)]))) (fun t ht => XS.iloadN X0.here hx rfl (hb hby own_d1_1) rfl ht) ?_
  refine own_step (U' := (s₁.setTop (mkF m 3 #[.val (.ref a1), .val (.int p2)] [(.int (1 : Int32)), (.int p2), (.ref a1)]))) (fun t ht => XS.iconst X0.here hx rfl (hb hby own_d1_2) ht) ?_
  obtain ⟨_, _, ⟨T19, L19, k19, n19⟩, -, X19, ⟨Lc19, hQ19, l19, y19, z19⟩, st19⟩ := Jvm.LawKit.callS X0 hx (y := (⟨"com/example/skip2/skip2/boyermoore/BoyerMooreSearcherPeriodPinLaw", "isPeriod", "([CII)Z"⟩ : MethodName)) hown (mvT hZ (hw _ (List.mem_of_getElem? (i := 5) rfl))) (mvT hZ (hw _ (List.mem_of_getElem? (i := 6) rfl))) (mvT hZ (hw _ (List.mem_of_getElem? (i := 3) rfl))) (mvT hZ (hw _ (List.mem_of_getElem? (i := 7) rfl))) (by decide) (backOf (W := 0) (own_m_isp l Z a0 hw [] (a1) (p2) ((1 : Int32)) (ka) (cs) (M) (1) h0 n0 Z0 Va hm rfl (by decide)) hZ (hw _ (List.mem_of_getElem? (i := 7) rfl)) (hw _ (List.mem_of_getElem? (i := 3) rfl)) (by decide) (by decide)) (g := (mkF m 3 #[.val (.ref a1), .val (.int p2)] [(.int (1 : Int32)), (.int p2), (.ref a1)])) rfl (by rw [hml]; rfl) (argsL := [(.ref a1), (.int p2), (.int (1 : Int32))]) (rest := []) (lenOf own_pd1 rfl) rfl (by show 2 * 0 + _ ≤ _; exact Nat.le_of_eq rfl) (hb hby own_d1_3) (fun _ _ => ⟨rfl, e0, (by decide : 0 + 0 ≤ _), (by decide : 0 + 0 ≤ _)⟩)
  dsimp only [Pt.U, Pt.locs, Pt.cells, Pt.slots] at X19 l19 y19 z19 st19 hQ19
  subst l19 y19 z19
  obtain ⟨rfl, Nq19, Kq19⟩ := hQ19
  have N19 := Fr.app N0 Nq19
  have e19 : T19.heap = h0 := Kq19
  refine own_step (U' := (T19.setTop (mkF m 6 #[.val (.ref a1), .val (.int p2)] [(.int (own_isp cs p2 (1 : Int32)))]))) (fun t ht => st19 _ ht) ?_
  by_cases hc6_20 : (own_isp cs p2 (1 : Int32)) = 0
  ·
    refine own_step (U' := (T19.setTop (mkF m 11 #[.val (.ref a1), .val (.int p2)] []))) (fun t ht => XS.ifYes X19.here hx rfl (pc0 := 6) (pc' := 11) rfl (hb hby own_d1_6) rfl (XT.i0_eq_t hc6_20) (by decide) (by decide) ht) ?_
    refine own_step (U' := (T19.setTop (mkF m 12 #[.val (.ref a1), .val (.int p2)] [(.ref a1)]))) (fun t ht => XS.aloadN X19.here hx rfl (hb hby own_d1_11) rfl rfl ht) ?_
    refine own_step (U' := (T19.setTop (mkF m 13 #[.val (.ref a1), .val (.int p2)] [(.int p2), (.ref a1)]))) (fun t ht => XS.iloadN X19.here hx rfl (hb hby own_d1_12) rfl ht) ?_
    refine own_step (U' := (T19.setTop (mkF m 14 #[.val (.ref a1), .val (.int p2)] [(.int (2 : Int32)), (.int p2), (.ref a1)]))) (fun t ht => XS.iconst X19.here hx rfl (hb hby own_d1_13) ht) ?_
    obtain ⟨_, _, ⟨T21, L21, k21, n21⟩, -, X21, ⟨Lc21, hQ21, l21, y21, z21⟩, st21⟩ := Jvm.LawKit.callS X19 hx (y := (⟨"com/example/skip2/skip2/boyermoore/BoyerMooreSearcherPeriodPinLaw", "isPeriod", "([CII)Z"⟩ : MethodName)) hown (mvT hZ (hw _ (List.mem_of_getElem? (i := 5) rfl))) (mvT hZ (hw _ (List.mem_of_getElem? (i := 6) rfl))) (mvT hZ (hw _ (List.mem_of_getElem? (i := 3) rfl))) (mvT hZ (hw _ (List.mem_of_getElem? (i := 7) rfl))) (by decide) (backOf (W := 0) (own_m_isp l Z a0 hw [] (a1) (p2) ((2 : Int32)) (ka) (cs) (M) (2) h0 n0 Z0 Va hm rfl (by decide)) hZ (hw _ (List.mem_of_getElem? (i := 7) rfl)) (hw _ (List.mem_of_getElem? (i := 3) rfl)) (by decide) (by decide)) (g := (mkF m 14 #[.val (.ref a1), .val (.int p2)] [(.int (2 : Int32)), (.int p2), (.ref a1)])) rfl (by rw [hml]; rfl) (argsL := [(.ref a1), (.int p2), (.int (2 : Int32))]) (rest := []) (lenOf own_pd1 rfl) rfl (by show 2 * 0 + _ ≤ _; exact Nat.le_of_eq rfl) (hb hby own_d1_14) (fun _ _ => ⟨rfl, e19, (by decide : 0 + 0 ≤ _), (by decide : 0 + 0 ≤ _)⟩)
    dsimp only [Pt.U, Pt.locs, Pt.cells, Pt.slots] at X21 l21 y21 z21 st21 hQ21
    subst l21 y21 z21
    obtain ⟨rfl, Nq21, Kq21⟩ := hQ21
    have N21 := Fr.app N19 Nq21
    have e21 : T21.heap = h0 := Kq21
    refine own_step (U' := (T21.setTop (mkF m 17 #[.val (.ref a1), .val (.int p2)] [(.int (own_isp cs p2 (2 : Int32)))]))) (fun t ht => st21 _ ht) ?_
    by_cases hc17_22 : (own_isp cs p2 (2 : Int32)) = 0
    ·
      refine own_step (U' := (T21.setTop (mkF m 22 #[.val (.ref a1), .val (.int p2)] []))) (fun t ht => XS.ifYes X21.here hx rfl (pc0 := 17) (pc' := 22) rfl (hb hby own_d1_17) rfl (XT.i0_eq_t hc17_22) (by decide) (by decide) ht) ?_
      refine own_step (U' := (T21.setTop (mkF m 23 #[.val (.ref a1), .val (.int p2)] [(.ref a1)]))) (fun t ht => XS.aloadN X21.here hx rfl (hb hby own_d1_22) rfl rfl ht) ?_
      refine own_step (U' := (T21.setTop (mkF m 24 #[.val (.ref a1), .val (.int p2)] [(.int p2), (.ref a1)]))) (fun t ht => XS.iloadN X21.here hx rfl (hb hby own_d1_23) rfl ht) ?_
      refine own_step (U' := (T21.setTop (mkF m 25 #[.val (.ref a1), .val (.int p2)] [(.int (3 : Int32)), (.int p2), (.ref a1)]))) (fun t ht => XS.iconst X21.here hx rfl (hb hby own_d1_24) ht) ?_
      obtain ⟨_, _, ⟨T23, L23, k23, n23⟩, -, X23, ⟨Lc23, hQ23, l23, y23, z23⟩, st23⟩ := Jvm.LawKit.callS X21 hx (y := (⟨"com/example/skip2/skip2/boyermoore/BoyerMooreSearcherPeriodPinLaw", "isPeriod", "([CII)Z"⟩ : MethodName)) hown (mvT hZ (hw _ (List.mem_of_getElem? (i := 5) rfl))) (mvT hZ (hw _ (List.mem_of_getElem? (i := 6) rfl))) (mvT hZ (hw _ (List.mem_of_getElem? (i := 3) rfl))) (mvT hZ (hw _ (List.mem_of_getElem? (i := 7) rfl))) (by decide) (backOf (W := 0) (own_m_isp l Z a0 hw [] (a1) (p2) ((3 : Int32)) (ka) (cs) (M) (3) h0 n0 Z0 Va hm rfl (by decide)) hZ (hw _ (List.mem_of_getElem? (i := 7) rfl)) (hw _ (List.mem_of_getElem? (i := 3) rfl)) (by decide) (by decide)) (g := (mkF m 25 #[.val (.ref a1), .val (.int p2)] [(.int (3 : Int32)), (.int p2), (.ref a1)])) rfl (by rw [hml]; rfl) (argsL := [(.ref a1), (.int p2), (.int (3 : Int32))]) (rest := []) (lenOf own_pd1 rfl) rfl (by show 2 * 0 + _ ≤ _; exact Nat.le_of_eq rfl) (hb hby own_d1_25) (fun _ _ => ⟨rfl, e21, (by decide : 0 + 0 ≤ _), (by decide : 0 + 0 ≤ _)⟩)
      dsimp only [Pt.U, Pt.locs, Pt.cells, Pt.slots] at X23 l23 y23 z23 st23 hQ23
      subst l23 y23 z23
      obtain ⟨rfl, Nq23, Kq23⟩ := hQ23
      have N23 := Fr.app N21 Nq23
      have e23 : T23.heap = h0 := Kq23
      refine own_step (U' := (T23.setTop (mkF m 28 #[.val (.ref a1), .val (.int p2)] [(.int (own_isp cs p2 (3 : Int32)))]))) (fun t ht => st23 _ ht) ?_
      by_cases hc28_24 : (own_isp cs p2 (3 : Int32)) = 0
      ·
        refine own_step (U' := (T23.setTop (mkF m 33 #[.val (.ref a1), .val (.int p2)] []))) (fun t ht => XS.ifYes X23.here hx rfl (pc0 := 28) (pc' := 33) rfl (hb hby own_d1_28) rfl (XT.i0_eq_t hc28_24) (by decide) (by decide) ht) ?_
        refine own_step (U' := (T23.setTop (mkF m 34 #[.val (.ref a1), .val (.int p2)] [(.ref a1)]))) (fun t ht => XS.aloadN X23.here hx rfl (hb hby own_d1_33) rfl rfl ht) ?_
        refine own_step (U' := (T23.setTop (mkF m 35 #[.val (.ref a1), .val (.int p2)] [(.int p2), (.ref a1)]))) (fun t ht => XS.iloadN X23.here hx rfl (hb hby own_d1_34) rfl ht) ?_
        refine own_step (U' := (T23.setTop (mkF m 36 #[.val (.ref a1), .val (.int p2)] [(.int (4 : Int32)), (.int p2), (.ref a1)]))) (fun t ht => XS.iconst X23.here hx rfl (hb hby own_d1_35) ht) ?_
        obtain ⟨_, _, ⟨T25, L25, k25, n25⟩, -, X25, ⟨Lc25, hQ25, l25, y25, z25⟩, st25⟩ := Jvm.LawKit.callS X23 hx (y := (⟨"com/example/skip2/skip2/boyermoore/BoyerMooreSearcherPeriodPinLaw", "isPeriod", "([CII)Z"⟩ : MethodName)) hown (mvT hZ (hw _ (List.mem_of_getElem? (i := 5) rfl))) (mvT hZ (hw _ (List.mem_of_getElem? (i := 6) rfl))) (mvT hZ (hw _ (List.mem_of_getElem? (i := 3) rfl))) (mvT hZ (hw _ (List.mem_of_getElem? (i := 7) rfl))) (by decide) (backOf (W := 0) (own_m_isp l Z a0 hw [] (a1) (p2) ((4 : Int32)) (ka) (cs) (M) (4) h0 n0 Z0 Va hm rfl (by decide)) hZ (hw _ (List.mem_of_getElem? (i := 7) rfl)) (hw _ (List.mem_of_getElem? (i := 3) rfl)) (by decide) (by decide)) (g := (mkF m 36 #[.val (.ref a1), .val (.int p2)] [(.int (4 : Int32)), (.int p2), (.ref a1)])) rfl (by rw [hml]; rfl) (argsL := [(.ref a1), (.int p2), (.int (4 : Int32))]) (rest := []) (lenOf own_pd1 rfl) rfl (by show 2 * 0 + _ ≤ _; exact Nat.le_of_eq rfl) (hb hby own_d1_36) (fun _ _ => ⟨rfl, e23, (by decide : 0 + 0 ≤ _), (by decide : 0 + 0 ≤ _)⟩)
        dsimp only [Pt.U, Pt.locs, Pt.cells, Pt.slots] at X25 l25 y25 z25 st25 hQ25
        subst l25 y25 z25
        obtain ⟨rfl, Nq25, Kq25⟩ := hQ25
        have N25 := Fr.app N23 Nq25
        have e25 : T25.heap = h0 := Kq25
        refine own_step (U' := (T25.setTop (mkF m 39 #[.val (.ref a1), .val (.int p2)] [(.int (own_isp cs p2 (4 : Int32)))]))) (fun t ht => st25 _ ht) ?_
        by_cases hc39_26 : (own_isp cs p2 (4 : Int32)) = 0
        ·
          refine own_step (U' := (T25.setTop (mkF m 44 #[.val (.ref a1), .val (.int p2)] []))) (fun t ht => XS.ifYes X25.here hx rfl (pc0 := 39) (pc' := 44) rfl (hb hby own_d1_39) rfl (XT.i0_eq_t hc39_26) (by decide) (by decide) ht) ?_
          refine own_step (U' := (T25.setTop (mkF m 45 #[.val (.ref a1), .val (.int p2)] [(.ref a1)]))) (fun t ht => XS.aloadN X25.here hx rfl (hb hby own_d1_44) rfl rfl ht) ?_
          refine own_step (U' := (T25.setTop (mkF m 46 #[.val (.ref a1), .val (.int p2)] [(.int p2), (.ref a1)]))) (fun t ht => XS.iloadN X25.here hx rfl (hb hby own_d1_45) rfl ht) ?_
          refine own_step (U' := (T25.setTop (mkF m 47 #[.val (.ref a1), .val (.int p2)] [(.int (5 : Int32)), (.int p2), (.ref a1)]))) (fun t ht => XS.iconst X25.here hx rfl (hb hby own_d1_46) ht) ?_
          obtain ⟨_, _, ⟨T27, L27, k27, n27⟩, -, X27, ⟨Lc27, hQ27, l27, y27, z27⟩, st27⟩ := Jvm.LawKit.callS X25 hx (y := (⟨"com/example/skip2/skip2/boyermoore/BoyerMooreSearcherPeriodPinLaw", "isPeriod", "([CII)Z"⟩ : MethodName)) hown (mvT hZ (hw _ (List.mem_of_getElem? (i := 5) rfl))) (mvT hZ (hw _ (List.mem_of_getElem? (i := 6) rfl))) (mvT hZ (hw _ (List.mem_of_getElem? (i := 3) rfl))) (mvT hZ (hw _ (List.mem_of_getElem? (i := 7) rfl))) (by decide) (backOf (W := 0) (own_m_isp l Z a0 hw [] (a1) (p2) ((5 : Int32)) (ka) (cs) (M) (5) h0 n0 Z0 Va hm rfl (by decide)) hZ (hw _ (List.mem_of_getElem? (i := 7) rfl)) (hw _ (List.mem_of_getElem? (i := 3) rfl)) (by decide) (by decide)) (g := (mkF m 47 #[.val (.ref a1), .val (.int p2)] [(.int (5 : Int32)), (.int p2), (.ref a1)])) rfl (by rw [hml]; rfl) (argsL := [(.ref a1), (.int p2), (.int (5 : Int32))]) (rest := []) (lenOf own_pd1 rfl) rfl (by show 2 * 0 + _ ≤ _; exact Nat.le_of_eq rfl) (hb hby own_d1_47) (fun _ _ => ⟨rfl, e25, (by decide : 0 + 0 ≤ _), (by decide : 0 + 0 ≤ _)⟩)
          dsimp only [Pt.U, Pt.locs, Pt.cells, Pt.slots] at X27 l27 y27 z27 st27 hQ27
          subst l27 y27 z27
          obtain ⟨rfl, Nq27, Kq27⟩ := hQ27
          have N27 := Fr.app N25 Nq27
          have e27 : T27.heap = h0 := Kq27
          refine own_step (U' := (T27.setTop (mkF m 50 #[.val (.ref a1), .val (.int p2)] [(.int (own_isp cs p2 (5 : Int32)))]))) (fun t ht => st27 _ ht) ?_
          by_cases hc50_28 : (own_isp cs p2 (5 : Int32)) = 0
          ·
            refine own_step (U' := (T27.setTop (mkF m 55 #[.val (.ref a1), .val (.int p2)] []))) (fun t ht => XS.ifYes X27.here hx rfl (pc0 := 50) (pc' := 55) rfl (hb hby own_d1_50) rfl (XT.i0_eq_t hc50_28) (by decide) (by decide) ht) ?_
            refine own_step (U' := (T27.setTop (mkF m 56 #[.val (.ref a1), .val (.int p2)] [(.ref a1)]))) (fun t ht => XS.aloadN X27.here hx rfl (hb hby own_d1_55) rfl rfl ht) ?_
            refine own_step (U' := (T27.setTop (mkF m 57 #[.val (.ref a1), .val (.int p2)] [(.int p2), (.ref a1)]))) (fun t ht => XS.iloadN X27.here hx rfl (hb hby own_d1_56) rfl ht) ?_
            refine own_step (U' := (T27.setTop (mkF m 59 #[.val (.ref a1), .val (.int p2)] [(.int (6 : Int32)), (.int p2), (.ref a1)]))) (fun t ht => XS.bipush X27.here hx rfl (hb hby own_d1_57) ht) ?_
            obtain ⟨_, _, ⟨T29, L29, k29, n29⟩, -, X29, ⟨Lc29, hQ29, l29, y29, z29⟩, st29⟩ := Jvm.LawKit.callS X27 hx (y := (⟨"com/example/skip2/skip2/boyermoore/BoyerMooreSearcherPeriodPinLaw", "isPeriod", "([CII)Z"⟩ : MethodName)) hown (mvT hZ (hw _ (List.mem_of_getElem? (i := 5) rfl))) (mvT hZ (hw _ (List.mem_of_getElem? (i := 6) rfl))) (mvT hZ (hw _ (List.mem_of_getElem? (i := 3) rfl))) (mvT hZ (hw _ (List.mem_of_getElem? (i := 7) rfl))) (by decide) (backOf (W := 0) (own_m_isp l Z a0 hw [] (a1) (p2) ((6 : Int32)) (ka) (cs) (M) (6) h0 n0 Z0 Va hm rfl (by decide)) hZ (hw _ (List.mem_of_getElem? (i := 7) rfl)) (hw _ (List.mem_of_getElem? (i := 3) rfl)) (by decide) (by decide)) (g := (mkF m 59 #[.val (.ref a1), .val (.int p2)] [(.int (6 : Int32)), (.int p2), (.ref a1)])) rfl (by rw [hml]; rfl) (argsL := [(.ref a1), (.int p2), (.int (6 : Int32))]) (rest := []) (lenOf own_pd1 rfl) rfl (by show 2 * 0 + _ ≤ _; exact Nat.le_of_eq rfl) (hb hby own_d1_59) (fun _ _ => ⟨rfl, e27, (by decide : 0 + 0 ≤ _), (by decide : 0 + 0 ≤ _)⟩)
            dsimp only [Pt.U, Pt.locs, Pt.cells, Pt.slots] at X29 l29 y29 z29 st29 hQ29
            subst l29 y29 z29
            obtain ⟨rfl, Nq29, Kq29⟩ := hQ29
            have N29 := Fr.app N27 Nq29
            have e29 : T29.heap = h0 := Kq29
            refine own_step (U' := (T29.setTop (mkF m 62 #[.val (.ref a1), .val (.int p2)] [(.int (own_isp cs p2 (6 : Int32)))]))) (fun t ht => st29 _ ht) ?_
            by_cases hc62_30 : (own_isp cs p2 (6 : Int32)) = 0
            ·
              refine own_step (U' := (T29.setTop (mkF m 68 #[.val (.ref a1), .val (.int p2)] []))) (fun t ht => XS.ifYes X29.here hx rfl (pc0 := 62) (pc' := 68) rfl (hb hby own_d1_62) rfl (XT.i0_eq_t hc62_30) (by decide) (by decide) ht) ?_
              refine own_step (U' := (T29.setTop (mkF m 69 #[.val (.ref a1), .val (.int p2)] [(.ref a1)]))) (fun t ht => XS.aloadN X29.here hx rfl (hb hby own_d1_68) rfl rfl ht) ?_
              refine own_step (U' := (T29.setTop (mkF m 70 #[.val (.ref a1), .val (.int p2)] [(.int p2), (.ref a1)]))) (fun t ht => XS.iloadN X29.here hx rfl (hb hby own_d1_69) rfl ht) ?_
              refine own_step (U' := (T29.setTop (mkF m 72 #[.val (.ref a1), .val (.int p2)] [(.int (7 : Int32)), (.int p2), (.ref a1)]))) (fun t ht => XS.bipush X29.here hx rfl (hb hby own_d1_70) ht) ?_
              obtain ⟨_, _, ⟨T31, L31, k31, n31⟩, -, X31, ⟨Lc31, hQ31, l31, y31, z31⟩, st31⟩ := Jvm.LawKit.callS X29 hx (y := (⟨"com/example/skip2/skip2/boyermoore/BoyerMooreSearcherPeriodPinLaw", "isPeriod", "([CII)Z"⟩ : MethodName)) hown (mvT hZ (hw _ (List.mem_of_getElem? (i := 5) rfl))) (mvT hZ (hw _ (List.mem_of_getElem? (i := 6) rfl))) (mvT hZ (hw _ (List.mem_of_getElem? (i := 3) rfl))) (mvT hZ (hw _ (List.mem_of_getElem? (i := 7) rfl))) (by decide) (backOf (W := 0) (own_m_isp l Z a0 hw [] (a1) (p2) ((7 : Int32)) (ka) (cs) (M) (7) h0 n0 Z0 Va hm rfl (by decide)) hZ (hw _ (List.mem_of_getElem? (i := 7) rfl)) (hw _ (List.mem_of_getElem? (i := 3) rfl)) (by decide) (by decide)) (g := (mkF m 72 #[.val (.ref a1), .val (.int p2)] [(.int (7 : Int32)), (.int p2), (.ref a1)])) rfl (by rw [hml]; rfl) (argsL := [(.ref a1), (.int p2), (.int (7 : Int32))]) (rest := []) (lenOf own_pd1 rfl) rfl (by show 2 * 0 + _ ≤ _; exact Nat.le_of_eq rfl) (hb hby own_d1_72) (fun _ _ => ⟨rfl, e29, (by decide : 0 + 0 ≤ _), (by decide : 0 + 0 ≤ _)⟩)
              dsimp only [Pt.U, Pt.locs, Pt.cells, Pt.slots] at X31 l31 y31 z31 st31 hQ31
              subst l31 y31 z31
              obtain ⟨rfl, Nq31, Kq31⟩ := hQ31
              have N31 := Fr.app N29 Nq31
              have e31 : T31.heap = h0 := Kq31
              refine own_step (U' := (T31.setTop (mkF m 75 #[.val (.ref a1), .val (.int p2)] [(.int (own_isp cs p2 (7 : Int32)))]))) (fun t ht => st31 _ ht) ?_
              by_cases hc75_32 : (own_isp cs p2 (7 : Int32)) = 0
              ·
                refine own_step (U' := (T31.setTop (mkF m 81 #[.val (.ref a1), .val (.int p2)] []))) (fun t ht => XS.ifYes X31.here hx rfl (pc0 := 75) (pc' := 81) rfl (hb hby own_d1_75) rfl (XT.i0_eq_t hc75_32) (by decide) (by decide) ht) ?_
                refine own_step (U' := (T31.setTop (mkF m 83 #[.val (.ref a1), .val (.int p2)] [(.int (8 : Int32))]))) (fun t ht => XS.bipush X31.here hx rfl (hb hby own_d1_81) ht) ?_
                refine own_ret X31 (v := (some (.int (8 : Int32)))) (fun h => by rw [Bd.returns] at h; cases h) Bd.notSynchronized (by decide) (by decide) ?_ (fun fs hr => retI X31 hx Bd.returns (hb hby own_d1_83) hr)
                show own_Q_smp Z a1 p2 ka cs M h0 n0 _ T31.heap _
                rw [e31]
                refine ⟨?_, N31, rfl⟩
                simp [own_sp, nar, hc6_20, hc17_22, hc28_24, hc39_26, hc50_28, hc62_30, hc75_32]
              ·
                refine own_step (U' := (T31.setTop (mkF m 78 #[.val (.ref a1), .val (.int p2)] []))) (fun t ht => XS.ifNo X31.here hx rfl (hb hby own_d1_75) rfl (XT.i0_eq_f hc75_32) ht) ?_
                refine own_step (U' := (T31.setTop (mkF m 80 #[.val (.ref a1), .val (.int p2)] [(.int (7 : Int32))]))) (fun t ht => XS.bipush X31.here hx rfl (hb hby own_d1_78) ht) ?_
                refine own_ret X31 (v := (some (.int (7 : Int32)))) (fun h => by rw [Bd.returns] at h; cases h) Bd.notSynchronized (by decide) (by decide) ?_ (fun fs hr => retI X31 hx Bd.returns (hb hby own_d1_80) hr)
                show own_Q_smp Z a1 p2 ka cs M h0 n0 _ T31.heap _
                rw [e31]
                refine ⟨?_, N31, rfl⟩
                simp [own_sp, nar, hc6_20, hc17_22, hc28_24, hc39_26, hc50_28, hc62_30, hc75_32]
            ·
              refine own_step (U' := (T29.setTop (mkF m 65 #[.val (.ref a1), .val (.int p2)] []))) (fun t ht => XS.ifNo X29.here hx rfl (hb hby own_d1_62) rfl (XT.i0_eq_f hc62_30) ht) ?_
              refine own_step (U' := (T29.setTop (mkF m 67 #[.val (.ref a1), .val (.int p2)] [(.int (6 : Int32))]))) (fun t ht => XS.bipush X29.here hx rfl (hb hby own_d1_65) ht) ?_
              refine own_ret X29 (v := (some (.int (6 : Int32)))) (fun h => by rw [Bd.returns] at h; cases h) Bd.notSynchronized (by decide) (by decide) ?_ (fun fs hr => retI X29 hx Bd.returns (hb hby own_d1_67) hr)
              show own_Q_smp Z a1 p2 ka cs M h0 n0 _ T29.heap _
              rw [e29]
              refine ⟨?_, N29, rfl⟩
              simp [own_sp, nar, hc6_20, hc17_22, hc28_24, hc39_26, hc50_28, hc62_30]
          ·
            refine own_step (U' := (T27.setTop (mkF m 53 #[.val (.ref a1), .val (.int p2)] []))) (fun t ht => XS.ifNo X27.here hx rfl (hb hby own_d1_50) rfl (XT.i0_eq_f hc50_28) ht) ?_
            refine own_step (U' := (T27.setTop (mkF m 54 #[.val (.ref a1), .val (.int p2)] [(.int (5 : Int32))]))) (fun t ht => XS.iconst X27.here hx rfl (hb hby own_d1_53) ht) ?_
            refine own_ret X27 (v := (some (.int (5 : Int32)))) (fun h => by rw [Bd.returns] at h; cases h) Bd.notSynchronized (by decide) (by decide) ?_ (fun fs hr => retI X27 hx Bd.returns (hb hby own_d1_54) hr)
            show own_Q_smp Z a1 p2 ka cs M h0 n0 _ T27.heap _
            rw [e27]
            refine ⟨?_, N27, rfl⟩
            simp [own_sp, nar, hc6_20, hc17_22, hc28_24, hc39_26, hc50_28]
        ·
          refine own_step (U' := (T25.setTop (mkF m 42 #[.val (.ref a1), .val (.int p2)] []))) (fun t ht => XS.ifNo X25.here hx rfl (hb hby own_d1_39) rfl (XT.i0_eq_f hc39_26) ht) ?_
          refine own_step (U' := (T25.setTop (mkF m 43 #[.val (.ref a1), .val (.int p2)] [(.int (4 : Int32))]))) (fun t ht => XS.iconst X25.here hx rfl (hb hby own_d1_42) ht) ?_
          refine own_ret X25 (v := (some (.int (4 : Int32)))) (fun h => by rw [Bd.returns] at h; cases h) Bd.notSynchronized (by decide) (by decide) ?_ (fun fs hr => retI X25 hx Bd.returns (hb hby own_d1_43) hr)
          show own_Q_smp Z a1 p2 ka cs M h0 n0 _ T25.heap _
          rw [e25]
          refine ⟨?_, N25, rfl⟩
          simp [own_sp, nar, hc6_20, hc17_22, hc28_24, hc39_26]
      ·
        refine own_step (U' := (T23.setTop (mkF m 31 #[.val (.ref a1), .val (.int p2)] []))) (fun t ht => XS.ifNo X23.here hx rfl (hb hby own_d1_28) rfl (XT.i0_eq_f hc28_24) ht) ?_
        refine own_step (U' := (T23.setTop (mkF m 32 #[.val (.ref a1), .val (.int p2)] [(.int (3 : Int32))]))) (fun t ht => XS.iconst X23.here hx rfl (hb hby own_d1_31) ht) ?_
        refine own_ret X23 (v := (some (.int (3 : Int32)))) (fun h => by rw [Bd.returns] at h; cases h) Bd.notSynchronized (by decide) (by decide) ?_ (fun fs hr => retI X23 hx Bd.returns (hb hby own_d1_32) hr)
        show own_Q_smp Z a1 p2 ka cs M h0 n0 _ T23.heap _
        rw [e23]
        refine ⟨?_, N23, rfl⟩
        simp [own_sp, nar, hc6_20, hc17_22, hc28_24]
    ·
      refine own_step (U' := (T21.setTop (mkF m 20 #[.val (.ref a1), .val (.int p2)] []))) (fun t ht => XS.ifNo X21.here hx rfl (hb hby own_d1_17) rfl (XT.i0_eq_f hc17_22) ht) ?_
      refine own_step (U' := (T21.setTop (mkF m 21 #[.val (.ref a1), .val (.int p2)] [(.int (2 : Int32))]))) (fun t ht => XS.iconst X21.here hx rfl (hb hby own_d1_20) ht) ?_
      refine own_ret X21 (v := (some (.int (2 : Int32)))) (fun h => by rw [Bd.returns] at h; cases h) Bd.notSynchronized (by decide) (by decide) ?_ (fun fs hr => retI X21 hx Bd.returns (hb hby own_d1_21) hr)
      show own_Q_smp Z a1 p2 ka cs M h0 n0 _ T21.heap _
      rw [e21]
      refine ⟨?_, N21, rfl⟩
      simp [own_sp, nar, hc6_20, hc17_22]
  ·
    refine own_step (U' := (T19.setTop (mkF m 9 #[.val (.ref a1), .val (.int p2)] []))) (fun t ht => XS.ifNo X19.here hx rfl (hb hby own_d1_6) rfl (XT.i0_eq_f hc6_20) ht) ?_
    refine own_step (U' := (T19.setTop (mkF m 10 #[.val (.ref a1), .val (.int p2)] [(.int (1 : Int32))]))) (fun t ht => XS.iconst X19.here hx rfl (hb hby own_d1_9) ht) ?_
    refine own_ret X19 (v := (some (.int (1 : Int32)))) (fun h => by rw [Bd.returns] at h; cases h) Bd.notSynchronized (by decide) (by decide) ?_ (fun fs hr => retI X19 hx Bd.returns (hb hby own_d1_10) hr)
    show own_Q_smp Z a1 p2 ka cs M h0 n0 _ T19.heap _
    rw [e19]
    refine ⟨?_, N19, rfl⟩
    simp [own_sp, nar, hc6_20]
theorem own_pf1 : plainFor (⟨"java/lang/Math", "min", "(II)I"⟩ : MethodName) = true := by decide +kernel
theorem own_d9_0 : decode jdk_29_method_69_code 0 = .ok (.iload_n 0, 1) := by decide +kernel
theorem own_d9_1 : decode jdk_29_method_69_code 1 = .ok (.iload_n 1, 1) := by decide +kernel
theorem own_d9_2 : decode jdk_29_method_69_code 2 = .ok (.if_icmp .gt 7, 3) := by decide +kernel
theorem own_d9_5 : decode jdk_29_method_69_code 5 = .ok (.iload_n 0, 1) := by decide +kernel
theorem own_d9_6 : decode jdk_29_method_69_code 6 = .ok (.goto 4, 3) := by decide +kernel
theorem own_d9_9 : decode jdk_29_method_69_code 9 = .ok (.iload_n 1, 1) := by decide +kernel
theorem own_d9_10 : decode jdk_29_method_69_code 10 = .ok (.ireturn, 1) := by decide +kernel
def own_Q_min (Z : State) (p1 : Int32) (p2 : Int32) (h0 : Heap) (n0 : Nat) (v : Option Value) (h : Heap) (L : List Loc) : Prop := v = some (.int (own_min p1 p2)) ∧ Fr n0 L ∧ h = h0
set_option maxRecDepth 65536 in
set_option maxHeartbeats 40000000 in
theorem own_m_min (l : Launch) (Z : State) (a0 : Array Value) (hw : ∀ d ∈ tables_1, d.before a0 Z = true) (ws : List Jvm.Cond) (p1 : Int32) (p2 : Int32) (h0 : Heap) (n0 : Nat) (Z0 : n0 ≤ h0.size)  :
    MetFree l (⟨"java/lang/Math", "min", "(II)I"⟩ : MethodName) (head1 (Jvm.Cond.code (⟨"java/lang/Math", "min", "(II)I"⟩ : MethodName) jdk_29_method_69_code 2 (some .int) :: ws) ({ frames := 0, cells := 0, slots := 0, locals := 0 } : Room)) (fun a U => a = #[(.int p1), (.int p2)] ∧ Z.Warmed39 U.vm ∧ U.heap = h0) (fun _ _ _ _ _ => True) (fun _ U o U' => ∃ v L, o = .returned v ∧ own_Q_min Z p1 p2 h0 n0 v U'.heap L ∧ FrameEnd U o U' L ({ frames := 0, cells := 0, slots := 0, locals := 0 } : Room).cells ({ frames := 0, cells := 0, slots := 0, locals := 0 } : Room).slots) := by
  refine MetFree.of_bodySF own_pf1 hisR ?_
  intro p e s m args below meth c s₁ Bd hml0 hP hK
  obtain ⟨rfl, hZ, hh⟩ := hP
  have hx := Bd.exec
  have hby := Bd.bytes
  have hml : c.maxLocals = 2 := hml0
  have hown : s.vm.findClass "java/lang/Math" = some m.cls := findClass_of_methodNamed Bd.named
  have hnm := (name_of_methodNamed Bd.named Bd.method).1
  have X0 : Stand p l e ({ frames := 0, cells := 0, slots := 0, locals := 0 } : Room) s m #[(.int p1), (.int p2)] below meth c s₁ [] 0 0 := Stand.of_body Bd
  have e0 : s₁.heap = h0 := by rw [← hh, Bd.state]; rfl
  have N0 := Fr.nil n0
  have K0 : Keep h0 h0 [] := Keep.refl _ _
  show own_Go p e below s ({ frames := 0, cells := 0, slots := 0, locals := 0 } : Room).cells ({ frames := 0, cells := 0, slots := 0, locals := 0 } : Room).slots (own_Q_min Z p1 p2 h0 n0) (s₁.setTop (entryFrame m #[(.int p1), (.int p2)] 2))
  have ef : entryFrame m #[(.int p1), (.int p2)] 2 = (mkF m 0 #[.val (.int p1), .val (.int p2)] []) := by first | (simp [entryFrame, mkF, argsToLocals, Value.category, maxLocals]; done) | rfl
  rw [ef]
  show own_Go p e below s _ _ _ (s₁.setTop (mkF m 0 #[.val (.int p1), .val (.int p2)] []))
  refine own_step (U' := (s₁.setTop (mkF m 1 #[.val (.int p1), .val (.int p2)] [(.int p1)]))) (fun t ht => XS.iloadN X0.here hx rfl (hb hby own_d9_0) rfl ht) ?_
  refine own_step (U' := (s₁.setTop (mkF m 2 #[.val (.int p1), .val (.int p2)] [(.int p2), (.int p1)]))) (fun t ht => XS.iloadN X0.here hx rfl (hb hby own_d9_1) rfl ht) ?_
  by_cases hc2_33 : p2 < p1
  ·
    refine own_step (U' := (s₁.setTop (mkF m 9 #[.val (.int p1), .val (.int p2)] []))) (fun t ht => XS.icmpYes X0.here hx rfl (pc0 := 2) (pc' := 9) rfl (hb hby own_d9_2) rfl (XT.ii_gt_t hc2_33) (by decide) (by decide) ht) ?_
    refine own_step (U' := (s₁.setTop (mkF m 10 #[.val (.int p1), .val (.int p2)] [(.int p2)]))) (fun t ht => XS.iloadN X0.here hx rfl (hb hby own_d9_9) rfl ht) ?_
    refine own_ret X0 (v := (some (.int p2))) (fun h => by rw [Bd.returns] at h; cases h) Bd.notSynchronized (by decide) (by decide) ?_ (fun fs hr => retI X0 hx Bd.returns (hb hby own_d9_10) hr)
    show own_Q_min Z p1 p2 h0 n0 _ s₁.heap _
    rw [e0]
    refine ⟨?_, N0, rfl⟩
    simp [own_min, nar, hc2_33]
  ·
    refine own_step (U' := (s₁.setTop (mkF m 5 #[.val (.int p1), .val (.int p2)] []))) (fun t ht => XS.icmpNo X0.here hx rfl (hb hby own_d9_2) rfl (XT.ii_gt_f hc2_33) ht) ?_
    refine own_step (U' := (s₁.setTop (mkF m 6 #[.val (.int p1), .val (.int p2)] [(.int p1)]))) (fun t ht => XS.iloadN X0.here hx rfl (hb hby own_d9_5) rfl ht) ?_
    refine own_step (U' := (s₁.setTop (mkF m 10 #[.val (.int p1), .val (.int p2)] [(.int p1)]))) (fun t ht => XS.goto X0.here hx rfl (pc0 := 6) (pc' := 10) rfl (hb hby own_d9_6) (by decide) (by decide) ht) ?_
    refine own_ret X0 (v := (some (.int p1))) (fun h => by rw [Bd.returns] at h; cases h) Bd.notSynchronized (by decide) (by decide) ?_ (fun fs hr => retI X0 hx Bd.returns (hb hby own_d9_10) hr)
    show own_Q_min Z p1 p2 h0 n0 _ s₁.heap _
    rw [e0]
    refine ⟨?_, N0, rfl⟩
    simp [own_min, nar, hc2_33]
theorem own_pf2 : plainFor (⟨"java/lang/Math", "max", "(II)I"⟩ : MethodName) = true := by decide +kernel
theorem own_d12_0 : decode jdk_29_method_65_code 0 = .ok (.iload_n 0, 1) := by decide +kernel
theorem own_d12_1 : decode jdk_29_method_65_code 1 = .ok (.iload_n 1, 1) := by decide +kernel
theorem own_d12_2 : decode jdk_29_method_65_code 2 = .ok (.if_icmp .lt 7, 3) := by decide +kernel
theorem own_d12_5 : decode jdk_29_method_65_code 5 = .ok (.iload_n 0, 1) := by decide +kernel
theorem own_d12_6 : decode jdk_29_method_65_code 6 = .ok (.goto 4, 3) := by decide +kernel
theorem own_d12_9 : decode jdk_29_method_65_code 9 = .ok (.iload_n 1, 1) := by decide +kernel
theorem own_d12_10 : decode jdk_29_method_65_code 10 = .ok (.ireturn, 1) := by decide +kernel
def own_Q_max (Z : State) (p1 : Int32) (p2 : Int32) (h0 : Heap) (n0 : Nat) (v : Option Value) (h : Heap) (L : List Loc) : Prop := v = some (.int (own_max p1 p2)) ∧ Fr n0 L ∧ h = h0
set_option maxRecDepth 65536 in
set_option maxHeartbeats 40000000 in
theorem own_m_max (l : Launch) (Z : State) (a0 : Array Value) (hw : ∀ d ∈ tables_1, d.before a0 Z = true) (ws : List Jvm.Cond) (p1 : Int32) (p2 : Int32) (h0 : Heap) (n0 : Nat) (Z0 : n0 ≤ h0.size)  :
    MetFree l (⟨"java/lang/Math", "max", "(II)I"⟩ : MethodName) (head1 (Jvm.Cond.code (⟨"java/lang/Math", "max", "(II)I"⟩ : MethodName) jdk_29_method_65_code 2 (some .int) :: ws) ({ frames := 0, cells := 0, slots := 0, locals := 0 } : Room)) (fun a U => a = #[(.int p1), (.int p2)] ∧ Z.Warmed39 U.vm ∧ U.heap = h0) (fun _ _ _ _ _ => True) (fun _ U o U' => ∃ v L, o = .returned v ∧ own_Q_max Z p1 p2 h0 n0 v U'.heap L ∧ FrameEnd U o U' L ({ frames := 0, cells := 0, slots := 0, locals := 0 } : Room).cells ({ frames := 0, cells := 0, slots := 0, locals := 0 } : Room).slots) := by
  refine MetFree.of_bodySF own_pf2 hisR ?_
  intro p e s m args below meth c s₁ Bd hml0 hP hK
  obtain ⟨rfl, hZ, hh⟩ := hP
  have hx := Bd.exec
  have hby := Bd.bytes
  have hml : c.maxLocals = 2 := hml0
  have hown : s.vm.findClass "java/lang/Math" = some m.cls := findClass_of_methodNamed Bd.named
  have hnm := (name_of_methodNamed Bd.named Bd.method).1
  have X0 : Stand p l e ({ frames := 0, cells := 0, slots := 0, locals := 0 } : Room) s m #[(.int p1), (.int p2)] below meth c s₁ [] 0 0 := Stand.of_body Bd
  have e0 : s₁.heap = h0 := by rw [← hh, Bd.state]; rfl
  have N0 := Fr.nil n0
  have K0 : Keep h0 h0 [] := Keep.refl _ _
  show own_Go p e below s ({ frames := 0, cells := 0, slots := 0, locals := 0 } : Room).cells ({ frames := 0, cells := 0, slots := 0, locals := 0 } : Room).slots (own_Q_max Z p1 p2 h0 n0) (s₁.setTop (entryFrame m #[(.int p1), (.int p2)] 2))
  have ef : entryFrame m #[(.int p1), (.int p2)] 2 = (mkF m 0 #[.val (.int p1), .val (.int p2)] []) := by first | (simp [entryFrame, mkF, argsToLocals, Value.category, maxLocals]; done) | rfl
  rw [ef]
  show own_Go p e below s _ _ _ (s₁.setTop (mkF m 0 #[.val (.int p1), .val (.int p2)] []))
  refine own_step (U' := (s₁.setTop (mkF m 1 #[.val (.int p1), .val (.int p2)] [(.int p1)]))) (fun t ht => XS.iloadN X0.here hx rfl (hb hby own_d12_0) rfl ht) ?_
  refine own_step (U' := (s₁.setTop (mkF m 2 #[.val (.int p1), .val (.int p2)] [(.int p2), (.int p1)]))) (fun t ht => XS.iloadN X0.here hx rfl (hb hby own_d12_1) rfl ht) ?_
  by_cases hc2_34 : p1 < p2
  ·
    refine own_step (U' := (s₁.setTop (mkF m 9 #[.val (.int p1), .val (.int p2)] []))) (fun t ht => XS.icmpYes X0.here hx rfl (pc0 := 2) (pc' := 9) rfl (hb hby own_d12_2) rfl (XT.ii_lt_t hc2_34) (by decide) (by decide) ht) ?_
    refine own_step (U' := (s₁.setTop (mkF m 10 #[.val (.int p1), .val (.int p2)] [(.int p2)]))) (fun t ht => XS.iloadN X0.here hx rfl (hb hby own_d12_9) rfl ht) ?_
    refine own_ret X0 (v := (some (.int p2))) (fun h => by rw [Bd.returns] at h; cases h) Bd.notSynchronized (by decide) (by decide) ?_ (fun fs hr => retI X0 hx Bd.returns (hb hby own_d12_10) hr)
    show own_Q_max Z p1 p2 h0 n0 _ s₁.heap _
    rw [e0]
    refine ⟨?_, N0, rfl⟩
    simp [own_max, nar, hc2_34]
  ·
    refine own_step (U' := (s₁.setTop (mkF m 5 #[.val (.int p1), .val (.int p2)] []))) (fun t ht => XS.icmpNo X0.here hx rfl (hb hby own_d12_2) rfl (XT.ii_lt_f hc2_34) ht) ?_
    refine own_step (U' := (s₁.setTop (mkF m 6 #[.val (.int p1), .val (.int p2)] [(.int p1)]))) (fun t ht => XS.iloadN X0.here hx rfl (hb hby own_d12_5) rfl ht) ?_
    refine own_step (U' := (s₁.setTop (mkF m 10 #[.val (.int p1), .val (.int p2)] [(.int p1)]))) (fun t ht => XS.goto X0.here hx rfl (pc0 := 6) (pc' := 10) rfl (hb hby own_d12_6) (by decide) (by decide) ht) ?_
    refine own_ret X0 (v := (some (.int p1))) (fun h => by rw [Bd.returns] at h; cases h) Bd.notSynchronized (by decide) (by decide) ?_ (fun fs hr => retI X0 hx Bd.returns (hb hby own_d12_10) hr)
    show own_Q_max Z p1 p2 h0 n0 _ s₁.heap _
    rw [e0]
    refine ⟨?_, N0, rfl⟩
    simp [own_max, nar, hc2_34]
theorem own_pf3 : plainFor (⟨"java/lang/Math", "min", "(JJ)J"⟩ : MethodName) = true := by decide +kernel
theorem own_d13_0 : decode jdk_29_method_70_code 0 = .ok (.lload_n 0, 1) := by decide +kernel
theorem own_d13_1 : decode jdk_29_method_70_code 1 = .ok (.lload_n 2, 1) := by decide +kernel
theorem own_d13_2 : decode jdk_29_method_70_code 2 = .ok (.lcmp, 1) := by decide +kernel
theorem own_d13_3 : decode jdk_29_method_70_code 3 = .ok (.ifCond .gt 7, 3) := by decide +kernel
theorem own_d13_6 : decode jdk_29_method_70_code 6 = .ok (.lload_n 0, 1) := by decide +kernel
theorem own_d13_7 : decode jdk_29_method_70_code 7 = .ok (.goto 4, 3) := by decide +kernel
theorem own_d13_10 : decode jdk_29_method_70_code 10 = .ok (.lload_n 2, 1) := by decide +kernel
theorem own_d13_11 : decode jdk_29_method_70_code 11 = .ok (.lreturn, 1) := by decide +kernel
def own_Q_minJ (Z : State) (p1 : Int64) (p2 : Int64) (h0 : Heap) (n0 : Nat) (v : Option Value) (h : Heap) (L : List Loc) : Prop := v = some (.long (own_minJ p1 p2)) ∧ Fr n0 L ∧ h = h0
set_option maxRecDepth 65536 in
set_option maxHeartbeats 40000000 in
theorem own_m_minJ (l : Launch) (Z : State) (a0 : Array Value) (hw : ∀ d ∈ tables_1, d.before a0 Z = true) (ws : List Jvm.Cond) (p1 : Int64) (p2 : Int64) (h0 : Heap) (n0 : Nat) (Z0 : n0 ≤ h0.size)  :
    MetFree l (⟨"java/lang/Math", "min", "(JJ)J"⟩ : MethodName) (head1 (Jvm.Cond.code (⟨"java/lang/Math", "min", "(JJ)J"⟩ : MethodName) jdk_29_method_70_code 4 (some .long) :: ws) ({ frames := 0, cells := 0, slots := 0, locals := 0 } : Room)) (fun a U => a = #[(.long p1), (.long p2)] ∧ Z.Warmed39 U.vm ∧ U.heap = h0) (fun _ _ _ _ _ => True) (fun _ U o U' => ∃ v L, o = .returned v ∧ own_Q_minJ Z p1 p2 h0 n0 v U'.heap L ∧ FrameEnd U o U' L ({ frames := 0, cells := 0, slots := 0, locals := 0 } : Room).cells ({ frames := 0, cells := 0, slots := 0, locals := 0 } : Room).slots) := by
  refine MetFree.of_bodySF own_pf3 hisR ?_
  intro p e s m args below meth c s₁ Bd hml0 hP hK
  obtain ⟨rfl, hZ, hh⟩ := hP
  have hx := Bd.exec
  have hby := Bd.bytes
  have hml : c.maxLocals = 4 := hml0
  have hown : s.vm.findClass "java/lang/Math" = some m.cls := findClass_of_methodNamed Bd.named
  have hnm := (name_of_methodNamed Bd.named Bd.method).1
  have X0 : Stand p l e ({ frames := 0, cells := 0, slots := 0, locals := 0 } : Room) s m #[(.long p1), (.long p2)] below meth c s₁ [] 0 0 := Stand.of_body Bd
  have e0 : s₁.heap = h0 := by rw [← hh, Bd.state]; rfl
  have N0 := Fr.nil n0
  have K0 : Keep h0 h0 [] := Keep.refl _ _
  show own_Go p e below s ({ frames := 0, cells := 0, slots := 0, locals := 0 } : Room).cells ({ frames := 0, cells := 0, slots := 0, locals := 0 } : Room).slots (own_Q_minJ Z p1 p2 h0 n0) (s₁.setTop (entryFrame m #[(.long p1), (.long p2)] 4))
  have ef : entryFrame m #[(.long p1), (.long p2)] 4 = (mkF m 0 #[.val (.long p1), .second, .val (.long p2), .second] []) := by first | (simp [entryFrame, mkF, argsToLocals, Value.category, maxLocals]; done) | rfl
  rw [ef]
  show own_Go p e below s _ _ _ (s₁.setTop (mkF m 0 #[.val (.long p1), .second, .val (.long p2), .second] []))
  refine own_step (U' := (s₁.setTop (mkF m 1 #[.val (.long p1), .second, .val (.long p2), .second] [(.long p1)]))) (fun t ht => XT.lloadN X0.here hx rfl (hb hby own_d13_0) rfl ht) ?_
  refine own_step (U' := (s₁.setTop (mkF m 2 #[.val (.long p1), .second, .val (.long p2), .second] [(.long p2), (.long p1)]))) (fun t ht => XT.lloadN X0.here hx rfl (hb hby own_d13_1) rfl ht) ?_
  refine own_step (U' := (s₁.setTop (mkF m 3 #[.val (.long p1), .second, .val (.long p2), .second] [(.int (XT.cmpL p1 p2))]))) (fun t ht => XT.lcmp X0.here hx rfl (hb hby own_d13_2) rfl ht) ?_
  by_cases hc3_35 : p2 < p1
  ·
    refine own_step (U' := (s₁.setTop (mkF m 10 #[.val (.long p1), .second, .val (.long p2), .second] []))) (fun t ht => XS.ifYes X0.here hx rfl (pc0 := 3) (pc' := 10) rfl (hb hby own_d13_3) rfl (XT.ll_gt_t hc3_35) (by decide) (by decide) ht) ?_
    refine own_step (U' := (s₁.setTop (mkF m 11 #[.val (.long p1), .second, .val (.long p2), .second] [(.long p2)]))) (fun t ht => XT.lloadN X0.here hx rfl (hb hby own_d13_10) rfl ht) ?_
    refine own_ret X0 (v := (some (.long p2))) (fun h => by rw [Bd.returns] at h; cases h) Bd.notSynchronized (by decide) (by decide) ?_ (fun fs hr => retOut X0 hx (t := .long) Bd.returns rfl (Or.inr (Or.inl ⟨rfl, rfl, _, rfl⟩)) (hb hby own_d13_11) hr)
    show own_Q_minJ Z p1 p2 h0 n0 _ s₁.heap _
    rw [e0]
    refine ⟨?_, N0, rfl⟩
    simp [own_minJ, nar, hc3_35]
  ·
    refine own_step (U' := (s₁.setTop (mkF m 6 #[.val (.long p1), .second, .val (.long p2), .second] []))) (fun t ht => XS.ifNo X0.here hx rfl (hb hby own_d13_3) rfl (XT.ll_gt_f hc3_35) ht) ?_
    refine own_step (U' := (s₁.setTop (mkF m 7 #[.val (.long p1), .second, .val (.long p2), .second] [(.long p1)]))) (fun t ht => XT.lloadN X0.here hx rfl (hb hby own_d13_6) rfl ht) ?_
    refine own_step (U' := (s₁.setTop (mkF m 11 #[.val (.long p1), .second, .val (.long p2), .second] [(.long p1)]))) (fun t ht => XS.goto X0.here hx rfl (pc0 := 7) (pc' := 11) rfl (hb hby own_d13_7) (by decide) (by decide) ht) ?_
    refine own_ret X0 (v := (some (.long p1))) (fun h => by rw [Bd.returns] at h; cases h) Bd.notSynchronized (by decide) (by decide) ?_ (fun fs hr => retOut X0 hx (t := .long) Bd.returns rfl (Or.inr (Or.inl ⟨rfl, rfl, _, rfl⟩)) (hb hby own_d13_11) hr)
    show own_Q_minJ Z p1 p2 h0 n0 _ s₁.heap _
    rw [e0]
    refine ⟨?_, N0, rfl⟩
    simp [own_minJ, nar, hc3_35]
theorem own_pn4 : plainName "com/example/skip2/skip2/windowsearch/FlagSearch" = true := by first | (simp [plainName, overriddenIn]; done) | decide +kernel
theorem own_d11_0 : decode prog_28_method_3_code 0 = .ok (.iload_n 0, 1) := by decide +kernel
theorem own_d11_1 : decode prog_28_method_3_code 1 = .ok (.bipush 8, 2) := by decide +kernel
theorem own_d11_3 : decode prog_28_method_3_code 3 = .ok (.if_icmp .ne 9, 3) := by decide +kernel
theorem own_d11_6 : decode prog_28_method_3_code 6 = .ok (.ldc2_w 60, 3) := by decide +kernel
theorem own_d11_9 : decode prog_28_method_3_code 9 = .ok (.goto 11, 3) := by decide +kernel
theorem own_d11_12 : decode prog_28_method_3_code 12 = .ok (.lconst 1, 1) := by decide +kernel
theorem own_d11_13 : decode prog_28_method_3_code 13 = .ok (.bipush 8, 2) := by decide +kernel
theorem own_d11_15 : decode prog_28_method_3_code 15 = .ok (.iload_n 0, 1) := by decide +kernel
theorem own_d11_16 : decode prog_28_method_3_code 16 = .ok (.imul, 1) := by decide +kernel
theorem own_d11_17 : decode prog_28_method_3_code 17 = .ok (.lshl, 1) := by decide +kernel
theorem own_d11_18 : decode prog_28_method_3_code 18 = .ok (.lconst 1, 1) := by decide +kernel
theorem own_d11_19 : decode prog_28_method_3_code 19 = .ok (.lsub, 1) := by decide +kernel
theorem own_d11_20 : decode prog_28_method_3_code 20 = .ok (.lreturn, 1) := by decide +kernel
def own_Q_mask (Z : State) (p1 : Int32) (h0 : Heap) (n0 : Nat) (v : Option Value) (h : Heap) (L : List Loc) : Prop := v = some (.long (own_mask p1)) ∧ Fr n0 L ∧ h = h0
set_option maxRecDepth 65536 in
set_option maxHeartbeats 40000000 in
theorem own_m_mask (l : Launch) (Z : State) (a0 : Array Value) (hw : ∀ d ∈ tables_1, d.before a0 Z = true) (ws : List Jvm.Cond) (p1 : Int32) (h0 : Heap) (n0 : Nat) (Z0 : n0 ≤ h0.size)  :
    MetFree l (⟨"com/example/skip2/skip2/windowsearch/FlagSearch", "mask", "(I)J"⟩ : MethodName) (head1 (Jvm.Cond.code (⟨"com/example/skip2/skip2/windowsearch/FlagSearch", "mask", "(I)J"⟩ : MethodName) prog_28_method_3_code 1 (some .long) :: ws) ({ frames := 0, cells := 0, slots := 0, locals := 0 } : Room)) (fun a U => a = #[(.int p1)] ∧ Z.Warmed39 U.vm ∧ U.heap = h0) (fun _ _ _ _ _ => True) (fun _ U o U' => ∃ v L, o = .returned v ∧ own_Q_mask Z p1 h0 n0 v U'.heap L ∧ FrameEnd U o U' L ({ frames := 0, cells := 0, slots := 0, locals := 0 } : Room).cells ({ frames := 0, cells := 0, slots := 0, locals := 0 } : Room).slots) := by
  refine MetFree.of_bodySF (plainFor_of_name own_pn4) hisR ?_
  intro p e s m args below meth c s₁ Bd hml0 hP hK
  obtain ⟨rfl, hZ, hh⟩ := hP
  have hx := Bd.exec
  have hby := Bd.bytes
  have hml : c.maxLocals = 1 := hml0
  have hown : s.vm.findClass "com/example/skip2/skip2/windowsearch/FlagSearch" = some m.cls := findClass_of_methodNamed Bd.named
  have hnm := (name_of_methodNamed Bd.named Bd.method).1
  have X0 : Stand p l e ({ frames := 0, cells := 0, slots := 0, locals := 0 } : Room) s m #[(.int p1)] below meth c s₁ [] 0 0 := Stand.of_body Bd
  have e0 : s₁.heap = h0 := by rw [← hh, Bd.state]; rfl
  have N0 := Fr.nil n0
  have K0 : Keep h0 h0 [] := Keep.refl _ _
  show own_Go p e below s ({ frames := 0, cells := 0, slots := 0, locals := 0 } : Room).cells ({ frames := 0, cells := 0, slots := 0, locals := 0 } : Room).slots (own_Q_mask Z p1 h0 n0) (s₁.setTop (entryFrame m #[(.int p1)] 1))
  have ef : entryFrame m #[(.int p1)] 1 = (mkF m 0 #[.val (.int p1)] []) := by first | (simp [entryFrame, mkF, argsToLocals, Value.category, maxLocals]; done) | rfl
  rw [ef]
  show own_Go p e below s _ _ _ (s₁.setTop (mkF m 0 #[.val (.int p1)] []))
  refine own_step (U' := (s₁.setTop (mkF m 1 #[.val (.int p1)] [(.int p1)]))) (fun t ht => XS.iloadN X0.here hx rfl (hb hby own_d11_0) rfl ht) ?_
  refine own_step (U' := (s₁.setTop (mkF m 3 #[.val (.int p1)] [(.int (8 : Int32)), (.int p1)]))) (fun t ht => XS.bipush X0.here hx rfl (hb hby own_d11_1) ht) ?_
  by_cases hc3_36 : p1 = (8 : Int32)
  ·
    refine own_step (U' := (s₁.setTop (mkF m 6 #[.val (.int p1)] []))) (fun t ht => XS.icmpNo X0.here hx rfl (hb hby own_d11_3) rfl (XT.ii_ne_f hc3_36) ht) ?_
    refine own_step (U' := (s₁.setTop (mkF m 9 #[.val (.int p1)] [(.long (-1 : Int64))]))) (fun t ht => X0.ldc2Long hx hown (mvT hZ (hw _ (List.mem_of_getElem? (i := 126) rfl))) (g := (mkF m 6 #[.val (.int p1)] [])) rfl (hb hby own_d11_6) _ ht) ?_
    refine own_step (U' := (s₁.setTop (mkF m 20 #[.val (.int p1)] [(.long (-1 : Int64))]))) (fun t ht => XS.goto X0.here hx rfl (pc0 := 9) (pc' := 20) rfl (hb hby own_d11_9) (by decide) (by decide) ht) ?_
    refine own_ret X0 (v := (some (.long (-1 : Int64)))) (fun h => by rw [Bd.returns] at h; cases h) Bd.notSynchronized (by decide) (by decide) ?_ (fun fs hr => retOut X0 hx (t := .long) Bd.returns rfl (Or.inr (Or.inl ⟨rfl, rfl, _, rfl⟩)) (hb hby own_d11_20) hr)
    show own_Q_mask Z p1 h0 n0 _ s₁.heap _
    rw [e0]
    refine ⟨?_, N0, rfl⟩
    simp [own_mask, nar, hc3_36]
  ·
    refine own_step (U' := (s₁.setTop (mkF m 12 #[.val (.int p1)] []))) (fun t ht => XS.icmpYes X0.here hx rfl (pc0 := 3) (pc' := 12) rfl (hb hby own_d11_3) rfl (XT.ii_ne_t hc3_36) (by decide) (by decide) ht) ?_
    refine own_step (U' := (s₁.setTop (mkF m 13 #[.val (.int p1)] [(.long (1 : Int64))]))) (fun t ht => XT.lconstV X0.here hx rfl (1 : Int64) (hb hby own_d11_12) rfl ht) ?_
    refine own_step (U' := (s₁.setTop (mkF m 15 #[.val (.int p1)] [(.int (8 : Int32)), (.long (1 : Int64))]))) (fun t ht => XS.bipush X0.here hx rfl (hb hby own_d11_13) ht) ?_
    refine own_step (U' := (s₁.setTop (mkF m 16 #[.val (.int p1)] [(.int p1), (.int (8 : Int32)), (.long (1 : Int64))]))) (fun t ht => XS.iloadN X0.here hx rfl (hb hby own_d11_15) rfl ht) ?_
    refine own_step (U' := (s₁.setTop (mkF m 17 #[.val (.int p1)] [(.int ((8 : Int32) * p1)), (.long (1 : Int64))]))) (fun t ht => XS.imul X0.here hx rfl (hb hby own_d11_16) rfl ht) ?_
    refine own_step (U' := (s₁.setTop (mkF m 18 #[.val (.int p1)] [(.long ((1 : Int64) <<< (((8 : Int32) * p1).toInt64 &&& 63)))]))) (fun t ht => XT.lshl X0.here hx rfl (hb hby own_d11_17) rfl ht) ?_
    refine own_step (U' := (s₁.setTop (mkF m 19 #[.val (.int p1)] [(.long (1 : Int64)), (.long ((1 : Int64) <<< (((8 : Int32) * p1).toInt64 &&& 63)))]))) (fun t ht => XT.lconstV X0.here hx rfl (1 : Int64) (hb hby own_d11_18) rfl ht) ?_
    refine own_step (U' := (s₁.setTop (mkF m 20 #[.val (.int p1)] [(.long (((1 : Int64) <<< (((8 : Int32) * p1).toInt64 &&& 63)) - (1 : Int64)))]))) (fun t ht => XT.lsub X0.here hx rfl (hb hby own_d11_19) rfl ht) ?_
    refine own_ret X0 (v := (some (.long (((1 : Int64) <<< (((8 : Int32) * p1).toInt64 &&& 63)) - (1 : Int64))))) (fun h => by rw [Bd.returns] at h; cases h) Bd.notSynchronized (by decide) (by decide) ?_ (fun fs hr => retOut X0 hx (t := .long) Bd.returns rfl (Or.inr (Or.inl ⟨rfl, rfl, _, rfl⟩)) (hb hby own_d11_20) hr)
    show own_Q_mask Z p1 h0 n0 _ s₁.heap _
    rw [e0]
    refine ⟨?_, N0, rfl⟩
    simp [own_mask, nar, hc3_36]
theorem own_half {p q : Int32} {P : Nat} (hp : p.toInt = (P : Int)) (h : P < 8) (e : p / (2 : Int32) = q) : q.toInt = ((P / 2 : Nat) : Int) := by
  have e2 : (2 : Int32).toInt = 2 := rfl
  rw [← e, Jvm.Kit.i32_div (by rw [e2]; omega), hp, e2, Int.tdiv_eq_ediv_of_nonneg (by omega)]
  omega
theorem own_subI {x : Int32} {a b : Int} (h : x.toInt = a) (e : b = a - 1) (h1 : -100 < a) (h2 : a < 100) : (x + (-1 : Int32)).toInt = b := by
  have e1 : (-1 : Int32).toInt = -1 := rfl
  rw [Jvm.Kit.i32_add (by omega) (by omega), h, e1]; omega
theorem own_addI {x : Int32} {a b : Int} (h : x.toInt = a) (e : b = a + 1) (h1 : -100 < a) (h2 : a < 100) : (x + (1 : Int32)).toInt = b := by
  have e1 : (1 : Int32).toInt = 1 := rfl
  rw [Jvm.Kit.i32_add (by omega) (by omega), h, e1]; omega
theorem own_inI {j z : Int32} {a b : Int} (hj : j.toInt = a) (hz : z.toInt = b) (h : 0 ≤ a ∧ a < b) : ¬ j < 0 ∧ j < z := by
  rw [Int32.lt_iff_toInt_lt, Int32.lt_iff_toInt_lt, hj, hz]
  have e0 : (0 : Int32).toInt = 0 := rfl
  rw [e0]; omega
theorem own_ltI {x y : Int32} {a b : Int} (h : x.toInt = a) (g : y.toInt = b) : x < y ↔ a < b := by rw [Int32.lt_iff_toInt_lt, h, g]
theorem own_d10_0 : decode prog_28_method_2_code 0 = .ok (.iload_n 1, 1) := by decide +kernel
theorem own_d10_1 : decode prog_28_method_2_code 1 = .ok (.iconst 2, 1) := by decide +kernel
theorem own_d10_2 : decode prog_28_method_2_code 2 = .ok (.idiv, 1) := by decide +kernel
theorem own_d10_3 : decode prog_28_method_2_code 3 = .ok (.istore_n 2, 1) := by decide +kernel
theorem own_d10_4 : decode prog_28_method_2_code 4 = .ok (.iload_n 2, 1) := by decide +kernel
theorem own_d10_5 : decode prog_28_method_2_code 5 = .ok (.istore_n 3, 1) := by decide +kernel
theorem own_d10_6 : decode prog_28_method_2_code 6 = .ok (.iload_n 2, 1) := by decide +kernel
theorem own_d10_7 : decode prog_28_method_2_code 7 = .ok (.iconst 1, 1) := by decide +kernel
theorem own_d10_8 : decode prog_28_method_2_code 8 = .ok (.iadd, 1) := by decide +kernel
theorem own_d10_9 : decode prog_28_method_2_code 9 = .ok (.istore 4, 2) := by decide +kernel
theorem own_d10_11 : decode prog_28_method_2_code 11 = .ok (.iload_n 3, 1) := by decide +kernel
theorem own_d10_12 : decode prog_28_method_2_code 12 = .ok (.ifCond .gt 9, 3) := by decide +kernel
theorem own_d10_15 : decode prog_28_method_2_code 15 = .ok (.iload 4, 2) := by decide +kernel
theorem own_d10_17 : decode prog_28_method_2_code 17 = .ok (.iload_n 1, 1) := by decide +kernel
theorem own_d10_18 : decode prog_28_method_2_code 18 = .ok (.if_icmp .ge 65, 3) := by decide +kernel
theorem own_d10_21 : decode prog_28_method_2_code 21 = .ok (.iload_n 3, 1) := by decide +kernel
theorem own_d10_22 : decode prog_28_method_2_code 22 = .ok (.ifCond .le 23, 3) := by decide +kernel
theorem own_d10_25 : decode prog_28_method_2_code 25 = .ok (.aload_n 0, 1) := by decide +kernel
theorem own_d10_26 : decode prog_28_method_2_code 26 = .ok (.iload_n 3, 1) := by decide +kernel
theorem own_d10_27 : decode prog_28_method_2_code 27 = .ok (.caload, 1) := by decide +kernel
theorem own_d10_28 : decode prog_28_method_2_code 28 = .ok (.aload_n 0, 1) := by decide +kernel
theorem own_d10_29 : decode prog_28_method_2_code 29 = .ok (.iconst 0, 1) := by decide +kernel
theorem own_d10_30 : decode prog_28_method_2_code 30 = .ok (.caload, 1) := by decide +kernel
theorem own_d10_31 : decode prog_28_method_2_code 31 = .ok (.if_icmp .eq 14, 3) := by decide +kernel
theorem own_d10_34 : decode prog_28_method_2_code 34 = .ok (.aload_n 0, 1) := by decide +kernel
theorem own_d10_35 : decode prog_28_method_2_code 35 = .ok (.iload_n 3, 1) := by decide +kernel
theorem own_d10_36 : decode prog_28_method_2_code 36 = .ok (.caload, 1) := by decide +kernel
theorem own_d10_37 : decode prog_28_method_2_code 37 = .ok (.aload_n 0, 1) := by decide +kernel
theorem own_d10_38 : decode prog_28_method_2_code 38 = .ok (.iload_n 1, 1) := by decide +kernel
theorem own_d10_39 : decode prog_28_method_2_code 39 = .ok (.caload, 1) := by decide +kernel
theorem own_d10_40 : decode prog_28_method_2_code 40 = .ok (.if_icmp .eq 5, 3) := by decide +kernel
theorem own_d10_43 : decode prog_28_method_2_code 43 = .ok (.iload_n 3, 1) := by decide +kernel
theorem own_d10_44 : decode prog_28_method_2_code 44 = .ok (.ireturn, 1) := by decide +kernel
theorem own_d10_45 : decode prog_28_method_2_code 45 = .ok (.iload 4, 2) := by decide +kernel
theorem own_d10_47 : decode prog_28_method_2_code 47 = .ok (.iload_n 1, 1) := by decide +kernel
theorem own_d10_48 : decode prog_28_method_2_code 48 = .ok (.if_icmp .ge 26, 3) := by decide +kernel
theorem own_d10_51 : decode prog_28_method_2_code 51 = .ok (.aload_n 0, 1) := by decide +kernel
theorem own_d10_52 : decode prog_28_method_2_code 52 = .ok (.iload 4, 2) := by decide +kernel
theorem own_d10_54 : decode prog_28_method_2_code 54 = .ok (.caload, 1) := by decide +kernel
theorem own_d10_55 : decode prog_28_method_2_code 55 = .ok (.aload_n 0, 1) := by decide +kernel
theorem own_d10_56 : decode prog_28_method_2_code 56 = .ok (.iconst 0, 1) := by decide +kernel
theorem own_d10_57 : decode prog_28_method_2_code 57 = .ok (.caload, 1) := by decide +kernel
theorem own_d10_58 : decode prog_28_method_2_code 58 = .ok (.if_icmp .eq 16, 3) := by decide +kernel
theorem own_d10_61 : decode prog_28_method_2_code 61 = .ok (.aload_n 0, 1) := by decide +kernel
theorem own_d10_62 : decode prog_28_method_2_code 62 = .ok (.iload 4, 2) := by decide +kernel
theorem own_d10_64 : decode prog_28_method_2_code 64 = .ok (.caload, 1) := by decide +kernel
theorem own_d10_65 : decode prog_28_method_2_code 65 = .ok (.aload_n 0, 1) := by decide +kernel
theorem own_d10_66 : decode prog_28_method_2_code 66 = .ok (.iload_n 1, 1) := by decide +kernel
theorem own_d10_67 : decode prog_28_method_2_code 67 = .ok (.caload, 1) := by decide +kernel
theorem own_d10_68 : decode prog_28_method_2_code 68 = .ok (.if_icmp .eq 6, 3) := by decide +kernel
theorem own_d10_71 : decode prog_28_method_2_code 71 = .ok (.iload 4, 2) := by decide +kernel
theorem own_d10_73 : decode prog_28_method_2_code 73 = .ok (.ireturn, 1) := by decide +kernel
theorem own_d10_74 : decode prog_28_method_2_code 74 = .ok (.iinc 3 (-1), 3) := by decide +kernel
theorem own_d10_77 : decode prog_28_method_2_code 77 = .ok (.iinc 4 1, 3) := by decide +kernel
theorem own_d10_80 : decode prog_28_method_2_code 80 = .ok (.goto (-69), 3) := by decide +kernel
theorem own_d10_83 : decode prog_28_method_2_code 83 = .ok (.iload_n 2, 1) := by decide +kernel
theorem own_d10_84 : decode prog_28_method_2_code 84 = .ok (.ireturn, 1) := by decide +kernel
def own_Q_btw (Z : State) (a1 : Addr) (p2 : Int32) (ka : ClassId) (cs : List Int32) (mm : Int32) (M : Nat) (P : Nat) (h0 : Heap) (n0 : Nat) (v : Option Value) (h : Heap) (L : List Loc) : Prop := ∃ (r : Int32), v = some (.int r) ∧ Fr n0 L ∧ h = h0
set_option maxRecDepth 65536 in
set_option maxHeartbeats 40000000 in
theorem own_m_btw (l : Launch) (Z : State) (a0 : Array Value) (hw : ∀ d ∈ tables_1, d.before a0 Z = true) (ws : List Jvm.Cond) (a1 : Addr) (p2 : Int32) (ka : ClassId) (cs : List Int32) (mm : Int32) (M : Nat) (P : Nat) (h0 : Heap) (n0 : Nat) (Z0 : n0 ≤ h0.size) (Va : Arv Z h0 a1 ka .char mm (cs.map Value.int) (.int (0 : Int32))) (hm : mm.toInt = (M : Int)) (h8 : M ≤ 8) (hp : p2.toInt = (P : Int)) (hPM : P < M) :
    MetFree l (⟨"com/example/skip2/skip2/windowsearch/FlagSearch", "between", "([CI)I"⟩ : MethodName) (head1 (Jvm.Cond.code (⟨"com/example/skip2/skip2/windowsearch/FlagSearch", "between", "([CI)I"⟩ : MethodName) prog_28_method_2_code 5 (some .int) :: ws) ({ frames := 0, cells := 0, slots := 0, locals := 0 } : Room)) (fun a U => a = #[(.ref a1), (.int p2)] ∧ Z.Warmed39 U.vm ∧ U.heap = h0) (fun _ _ _ _ _ => True) (fun _ U o U' => ∃ v L, o = .returned v ∧ own_Q_btw Z a1 p2 ka cs mm M P h0 n0 v U'.heap L ∧ FrameEnd U o U' L ({ frames := 0, cells := 0, slots := 0, locals := 0 } : Room).cells ({ frames := 0, cells := 0, slots := 0, locals := 0 } : Room).slots) := by
  refine MetFree.of_bodySF (plainFor_of_name own_pn4) hisR ?_
  intro p e s m args below meth c s₁ Bd hml0 hP hK
  obtain ⟨rfl, hZ, hh⟩ := hP
  have hx := Bd.exec
  have hby := Bd.bytes
  have hml : c.maxLocals = 5 := hml0
  have hown : s.vm.findClass "com/example/skip2/skip2/windowsearch/FlagSearch" = some m.cls := findClass_of_methodNamed Bd.named
  have hnm := (name_of_methodNamed Bd.named Bd.method).1
  have X0 : Stand p l e ({ frames := 0, cells := 0, slots := 0, locals := 0 } : Room) s m #[(.ref a1), (.int p2)] below meth c s₁ [] 0 0 := Stand.of_body Bd
  have e0 : s₁.heap = h0 := by rw [← hh, Bd.state]; rfl
  have N0 := Fr.nil n0
  have K0 : Keep h0 h0 [] := Keep.refl _ _
  show own_Go p e below s ({ frames := 0, cells := 0, slots := 0, locals := 0 } : Room).cells ({ frames := 0, cells := 0, slots := 0, locals := 0 } : Room).slots (own_Q_btw Z a1 p2 ka cs mm M P h0 n0) (s₁.setTop (entryFrame m #[(.ref a1), (.int p2)] 5))
  have ef : entryFrame m #[(.ref a1), (.int p2)] 5 = (mkF m 0 #[.val (.ref a1), .val (.int p2), .unset, .unset, .unset] []) := by first | (simp [entryFrame, mkF, argsToLocals, Value.category, maxLocals]; done) | rfl
  rw [ef]
  show own_Go p e below s _ _ _ (s₁.setTop (mkF m 0 #[.val (.ref a1), .val (.int p2), .unset, .unset, .unset] []))
  refine own_step (U' := (s₁.setTop (mkF m 1 #[.val (.ref a1), .val (.int p2), .unset, .unset, .unset] [(.int p2)]))) (fun t ht => XS.iloadN X0.here hx rfl (hb hby own_d10_0) rfl ht) ?_
  refine own_step (U' := (s₁.setTop (mkF m 2 #[.val (.ref a1), .val (.int p2), .unset, .unset, .unset] [(.int (2 : Int32)), (.int p2)]))) (fun t ht => XS.iconst X0.here hx rfl (hb hby own_d10_1) ht) ?_
  refine own_step (U' := (s₁.setTop (mkF m 3 #[.val (.ref a1), .val (.int p2), .unset, .unset, .unset] [(.int (p2 / (2 : Int32)))]))) (fun t ht => XS.idiv X0.here hx rfl (hb hby own_d10_2) rfl (by decide) ht) ?_
  refine own_step (U' := (s₁.setTop (mkF m 4 #[.val (.ref a1), .val (.int p2), .val (.int (p2 / (2 : Int32))), .unset, .unset] []))) (fun t ht => XS.istoreN X0.here hx rfl (hb hby own_d10_3) rfl (l' := #[.val (.ref a1), .val (.int p2), .val (.int (p2 / (2 : Int32))), .unset, .unset]) rfl ht) ?_
  generalize h_q2 : (p2 / (2 : Int32)) = q2
  refine own_step (U' := (s₁.setTop (mkF m 5 #[.val (.ref a1), .val (.int p2), .val (.int q2), .unset, .unset] [(.int q2)]))) (fun t ht => XS.iloadN X0.here hx rfl (hb hby own_d10_4) rfl ht) ?_
  refine own_step (U' := (s₁.setTop (mkF m 6 #[.val (.ref a1), .val (.int p2), .val (.int q2), .val (.int q2), .unset] []))) (fun t ht => XS.istoreN X0.here hx rfl (hb hby own_d10_5) rfl (l' := #[.val (.ref a1), .val (.int p2), .val (.int q2), .val (.int q2), .unset]) rfl ht) ?_
  refine own_step (U' := (s₁.setTop (mkF m 7 #[.val (.ref a1), .val (.int p2), .val (.int q2), .val (.int q2), .unset] [(.int q2)]))) (fun t ht => XS.iloadN X0.here hx rfl (hb hby own_d10_6) rfl ht) ?_
  refine own_step (U' := (s₁.setTop (mkF m 8 #[.val (.ref a1), .val (.int p2), .val (.int q2), .val (.int q2), .unset] [(.int (1 : Int32)), (.int q2)]))) (fun t ht => XS.iconst X0.here hx rfl (hb hby own_d10_7) ht) ?_
  refine own_step (U' := (s₁.setTop (mkF m 9 #[.val (.ref a1), .val (.int p2), .val (.int q2), .val (.int q2), .unset] [(.int (q2 + (1 : Int32)))]))) (fun t ht => XS.iadd X0.here hx rfl (hb hby own_d10_8) rfl ht) ?_
  refine own_step (U' := (s₁.setTop (mkF m 11 #[.val (.ref a1), .val (.int p2), .val (.int q2), .val (.int q2), .val (.int (q2 + (1 : Int32)))] []))) (fun t ht => XS.istore X0.here hx rfl (hb hby own_d10_9) rfl (l' := #[.val (.ref a1), .val (.int p2), .val (.int q2), .val (.int q2), .val (.int (q2 + (1 : Int32)))]) rfl ht) ?_
  have hq2 := own_half hp (by omega) h_q2
  have loop : ∀ (k t : Nat) (i3 i4 : Int32) (hi3 : i3.toInt = ((P / 2 : Nat) : Int) - (t : Int)) (hi4 : i4.toInt = ((P / 2 : Nat) : Int) + 1 + (t : Int)) (htk : t + k = P), own_Go p e below s ({ frames := 0, cells := 0, slots := 0, locals := 0 } : Room).cells ({ frames := 0, cells := 0, slots := 0, locals := 0 } : Room).slots (own_Q_btw Z a1 p2 ka cs mm M P h0 n0) (s₁.setTop (mkF m 11 #[.val (.ref a1), .val (.int p2), .val (.int q2), .val (.int i3), .val (.int i4)] [])) := by
    intro k
    induction k with
    | zero =>
      intro t i3 i4 hi3 hi4 htk
      refine own_step (U' := (s₁.setTop (mkF m 12 #[.val (.ref a1), .val (.int p2), .val (.int q2), .val (.int i3), .val (.int i4)] [(.int i3)]))) (fun t ht => XS.iloadN X0.here hx rfl (hb hby own_d10_11) rfl ht) ?_
      refine own_step (U' := (s₁.setTop (mkF m 15 #[.val (.ref a1), .val (.int p2), .val (.int q2), .val (.int i3), .val (.int i4)] []))) (fun t ht => XS.ifNo X0.here hx rfl (hb hby own_d10_12) rfl (XT.i0_gt_f ((fun q => absurd ((own_ltI (a := 0) rfl hi3).mp q) (by omega)) : ¬ (0 < i3))) ht) ?_
      refine own_step (U' := (s₁.setTop (mkF m 17 #[.val (.ref a1), .val (.int p2), .val (.int q2), .val (.int i3), .val (.int i4)] [(.int i4)]))) (fun t ht => XS.iload X0.here hx rfl (hb hby own_d10_15) rfl ht) ?_
      refine own_step (U' := (s₁.setTop (mkF m 18 #[.val (.ref a1), .val (.int p2), .val (.int q2), .val (.int i3), .val (.int i4)] [(.int p2), (.int i4)]))) (fun t ht => XS.iloadN X0.here hx rfl (hb hby own_d10_17) rfl ht) ?_
      refine own_step (U' := (s₁.setTop (mkF m 83 #[.val (.ref a1), .val (.int p2), .val (.int q2), .val (.int i3), .val (.int i4)] []))) (fun t ht => XS.icmpYes X0.here hx rfl (pc0 := 18) (pc' := 83) rfl (hb hby own_d10_18) rfl (XT.ii_ge_t ((fun q => absurd ((own_ltI hi4 hp).mp q) (by omega)) : ¬ (i4 < p2))) (by decide) (by decide) ht) ?_
      refine own_step (U' := (s₁.setTop (mkF m 84 #[.val (.ref a1), .val (.int p2), .val (.int q2), .val (.int i3), .val (.int i4)] [(.int q2)]))) (fun t ht => XS.iloadN X0.here hx rfl (hb hby own_d10_83) rfl ht) ?_
      refine own_ret X0 (v := (some (.int q2))) (fun h => by rw [Bd.returns] at h; cases h) Bd.notSynchronized (by decide) (by decide) ?_ (fun fs hr => retI X0 hx Bd.returns (hb hby own_d10_84) hr)
      show own_Q_btw Z a1 p2 ka cs mm M P h0 n0 _ s₁.heap _
      rw [e0]
      exact ⟨q2, rfl, N0, rfl⟩
    | succ k ih =>
      intro t i3 i4 hi3 hi4 htk
      have tail74 : ∀ (i3 : Int32) (i4 : Int32) (hi3 : i3.toInt = ((P / 2 : Nat) : Int) - (t : Int)) (hi4 : i4.toInt = ((P / 2 : Nat) : Int) + 1 + (t : Int)), own_Go p e below s ({ frames := 0, cells := 0, slots := 0, locals := 0 } : Room).cells ({ frames := 0, cells := 0, slots := 0, locals := 0 } : Room).slots (own_Q_btw Z a1 p2 ka cs mm M P h0 n0) (s₁.setTop (mkF m 74 #[.val (.ref a1), .val (.int p2), .val (.int q2), .val (.int i3), .val (.int i4)] [])) := by
        intro i3 i4 hi3 hi4
        refine own_step (U' := (s₁.setTop (mkF m 77 #[.val (.ref a1), .val (.int p2), .val (.int q2), .val (.int (i3 + (-1 : Int32))), .val (.int i4)] []))) (fun t ht => XT.iincV X0.here hx rfl (-1 : Int32) (hb hby own_d10_74) rfl rfl (l' := #[.val (.ref a1), .val (.int p2), .val (.int q2), .val (.int (i3 + (-1 : Int32))), .val (.int i4)]) rfl ht) ?_
        refine own_step (U' := (s₁.setTop (mkF m 80 #[.val (.ref a1), .val (.int p2), .val (.int q2), .val (.int (i3 + (-1 : Int32))), .val (.int (i4 + (1 : Int32)))] []))) (fun t ht => XT.iincV X0.here hx rfl (1 : Int32) (hb hby own_d10_77) rfl rfl (l' := #[.val (.ref a1), .val (.int p2), .val (.int q2), .val (.int (i3 + (-1 : Int32))), .val (.int (i4 + (1 : Int32)))]) rfl ht) ?_
        refine own_step (U' := (s₁.setTop (mkF m 11 #[.val (.ref a1), .val (.int p2), .val (.int q2), .val (.int (i3 + (-1 : Int32))), .val (.int (i4 + (1 : Int32)))] []))) (fun t ht => XS.goto X0.here hx rfl (pc0 := 80) (pc' := 11) rfl (hb hby own_d10_80) (by decide) (by decide) ht) ?_
        exact ih (t + 1) _ _ (own_subI hi3 (by omega) (by omega) (by omega)) (own_addI hi4 (by omega) (by omega) (by omega)) (by omega)
      have tail45 : ∀ (i3 : Int32) (i4 : Int32) (hi3 : i3.toInt = ((P / 2 : Nat) : Int) - (t : Int)) (hi4 : i4.toInt = ((P / 2 : Nat) : Int) + 1 + (t : Int)), own_Go p e below s ({ frames := 0, cells := 0, slots := 0, locals := 0 } : Room).cells ({ frames := 0, cells := 0, slots := 0, locals := 0 } : Room).slots (own_Q_btw Z a1 p2 ka cs mm M P h0 n0) (s₁.setTop (mkF m 45 #[.val (.ref a1), .val (.int p2), .val (.int q2), .val (.int i3), .val (.int i4)] [])) := by
        intro i3 i4 hi3 hi4
        refine own_step (U' := (s₁.setTop (mkF m 47 #[.val (.ref a1), .val (.int p2), .val (.int q2), .val (.int i3), .val (.int i4)] [(.int i4)]))) (fun t ht => XS.iload X0.here hx rfl (hb hby own_d10_45) rfl ht) ?_
        refine own_step (U' := (s₁.setTop (mkF m 48 #[.val (.ref a1), .val (.int p2), .val (.int q2), .val (.int i3), .val (.int i4)] [(.int p2), (.int i4)]))) (fun t ht => XS.iloadN X0.here hx rfl (hb hby own_d10_47) rfl ht) ?_
        by_cases hc48_37 : i4 < p2
        ·
          refine own_step (U' := (s₁.setTop (mkF m 51 #[.val (.ref a1), .val (.int p2), .val (.int q2), .val (.int i3), .val (.int i4)] []))) (fun t ht => XS.icmpNo X0.here hx rfl (hb hby own_d10_48) rfl (XT.ii_ge_f hc48_37) ht) ?_
          refine own_step (U' := (s₁.setTop (mkF m 52 #[.val (.ref a1), .val (.int p2), .val (.int q2), .val (.int i3), .val (.int i4)] [(.ref a1)]))) (fun t ht => XS.aloadN X0.here hx rfl (hb hby own_d10_51) rfl rfl ht) ?_
          refine own_step (U' := (s₁.setTop (mkF m 54 #[.val (.ref a1), .val (.int p2), .val (.int q2), .val (.int i3), .val (.int i4)] [(.int i4), (.ref a1)]))) (fun t ht => XS.iload X0.here hx rfl (hb hby own_d10_52) rfl ht) ?_
          obtain ⟨cl38, Ar38, q38, S38, N38_, H38, G38⟩ := (id Va)
          have hin38 : ¬ (i4 < 0 ∨ cl38.slots.size ≤ (i4).toNatClampNeg) := inb_of S38 (own_inI hi4 hm (by have := (own_ltI hi4 hp).mp hc48_37; omega))
          have hat38 : cl38.slots[(i4).toNatClampNeg]? = some (.int (own_g cs i4)) := Has.at H38 hin38 (own_ldI _ _)
          refine own_step (U' := (s₁.setTop (mkF m 55 #[.val (.ref a1), .val (.int p2), .val (.int q2), .val (.int i3), .val (.int i4)] [(.int (own_g cs i4))]))) (fun t ht => X0.caload hx (j := i4) (v := (.int (own_g cs i4))) (own_at e0 Ar38.1) (State.isArrayOf_alike hZ.alike Ar38.2.1) Ar38.2.2 hin38 hat38 (g := (mkF m 54 #[.val (.ref a1), .val (.int p2), .val (.int q2), .val (.int i3), .val (.int i4)] [(.int i4), (.ref a1)])) rfl rfl (hb hby own_d10_54) _ ht) ?_
          refine own_step (U' := (s₁.setTop (mkF m 56 #[.val (.ref a1), .val (.int p2), .val (.int q2), .val (.int i3), .val (.int i4)] [(.ref a1), (.int (own_g cs i4))]))) (fun t ht => XS.aloadN X0.here hx rfl (hb hby own_d10_55) rfl rfl ht) ?_
          refine own_step (U' := (s₁.setTop (mkF m 57 #[.val (.ref a1), .val (.int p2), .val (.int q2), .val (.int i3), .val (.int i4)] [(.int (0 : Int32)), (.ref a1), (.int (own_g cs i4))]))) (fun t ht => XS.iconst X0.here hx rfl (hb hby own_d10_56) ht) ?_
          obtain ⟨cl39, Ar39, q39, S39, N39_, H39, G39⟩ := (id Va)
          have hin39 : ¬ ((0 : Int32) < 0 ∨ cl39.slots.size ≤ ((0 : Int32)).toNatClampNeg) := inb_of S39 (own_inI (a := 0) rfl hm (by omega))
          have hat39 : cl39.slots[((0 : Int32)).toNatClampNeg]? = some (.int (own_g cs (0 : Int32))) := Has.at H39 hin39 (own_ldI _ _)
          refine own_step (U' := (s₁.setTop (mkF m 58 #[.val (.ref a1), .val (.int p2), .val (.int q2), .val (.int i3), .val (.int i4)] [(.int (own_g cs (0 : Int32))), (.int (own_g cs i4))]))) (fun t ht => X0.caload hx (j := (0 : Int32)) (v := (.int (own_g cs (0 : Int32)))) (own_at e0 Ar39.1) (State.isArrayOf_alike hZ.alike Ar39.2.1) Ar39.2.2 hin39 hat39 (g := (mkF m 57 #[.val (.ref a1), .val (.int p2), .val (.int q2), .val (.int i3), .val (.int i4)] [(.int (0 : Int32)), (.ref a1), (.int (own_g cs i4))])) rfl rfl (hb hby own_d10_57) _ ht) ?_
          by_cases hc58_40 : (own_g cs i4) = (own_g cs (0 : Int32))
          ·
            refine own_step (U' := (s₁.setTop (mkF m 74 #[.val (.ref a1), .val (.int p2), .val (.int q2), .val (.int i3), .val (.int i4)] []))) (fun t ht => XS.icmpYes X0.here hx rfl (pc0 := 58) (pc' := 74) rfl (hb hby own_d10_58) rfl (XT.ii_eq_t hc58_40) (by decide) (by decide) ht) ?_
            exact tail74 (i3) (i4) hi3 hi4
          ·
            refine own_step (U' := (s₁.setTop (mkF m 61 #[.val (.ref a1), .val (.int p2), .val (.int q2), .val (.int i3), .val (.int i4)] []))) (fun t ht => XS.icmpNo X0.here hx rfl (hb hby own_d10_58) rfl (XT.ii_eq_f hc58_40) ht) ?_
            refine own_step (U' := (s₁.setTop (mkF m 62 #[.val (.ref a1), .val (.int p2), .val (.int q2), .val (.int i3), .val (.int i4)] [(.ref a1)]))) (fun t ht => XS.aloadN X0.here hx rfl (hb hby own_d10_61) rfl rfl ht) ?_
            refine own_step (U' := (s₁.setTop (mkF m 64 #[.val (.ref a1), .val (.int p2), .val (.int q2), .val (.int i3), .val (.int i4)] [(.int i4), (.ref a1)]))) (fun t ht => XS.iload X0.here hx rfl (hb hby own_d10_62) rfl ht) ?_
            obtain ⟨cl41, Ar41, q41, S41, N41_, H41, G41⟩ := (id Va)
            have hin41 : ¬ (i4 < 0 ∨ cl41.slots.size ≤ (i4).toNatClampNeg) := inb_of S41 (own_inI hi4 hm (by have := (own_ltI hi4 hp).mp hc48_37; omega))
            have hat41 : cl41.slots[(i4).toNatClampNeg]? = some (.int (own_g cs i4)) := Has.at H41 hin41 (own_ldI _ _)
            refine own_step (U' := (s₁.setTop (mkF m 65 #[.val (.ref a1), .val (.int p2), .val (.int q2), .val (.int i3), .val (.int i4)] [(.int (own_g cs i4))]))) (fun t ht => X0.caload hx (j := i4) (v := (.int (own_g cs i4))) (own_at e0 Ar41.1) (State.isArrayOf_alike hZ.alike Ar41.2.1) Ar41.2.2 hin41 hat41 (g := (mkF m 64 #[.val (.ref a1), .val (.int p2), .val (.int q2), .val (.int i3), .val (.int i4)] [(.int i4), (.ref a1)])) rfl rfl (hb hby own_d10_64) _ ht) ?_
            refine own_step (U' := (s₁.setTop (mkF m 66 #[.val (.ref a1), .val (.int p2), .val (.int q2), .val (.int i3), .val (.int i4)] [(.ref a1), (.int (own_g cs i4))]))) (fun t ht => XS.aloadN X0.here hx rfl (hb hby own_d10_65) rfl rfl ht) ?_
            refine own_step (U' := (s₁.setTop (mkF m 67 #[.val (.ref a1), .val (.int p2), .val (.int q2), .val (.int i3), .val (.int i4)] [(.int p2), (.ref a1), (.int (own_g cs i4))]))) (fun t ht => XS.iloadN X0.here hx rfl (hb hby own_d10_66) rfl ht) ?_
            obtain ⟨cl42, Ar42, q42, S42, N42_, H42, G42⟩ := (id Va)
            have hin42 : ¬ (p2 < 0 ∨ cl42.slots.size ≤ (p2).toNatClampNeg) := inb_of S42 (own_inI hp hm (by omega))
            have hat42 : cl42.slots[(p2).toNatClampNeg]? = some (.int (own_g cs p2)) := Has.at H42 hin42 (own_ldI _ _)
            refine own_step (U' := (s₁.setTop (mkF m 68 #[.val (.ref a1), .val (.int p2), .val (.int q2), .val (.int i3), .val (.int i4)] [(.int (own_g cs p2)), (.int (own_g cs i4))]))) (fun t ht => X0.caload hx (j := p2) (v := (.int (own_g cs p2))) (own_at e0 Ar42.1) (State.isArrayOf_alike hZ.alike Ar42.2.1) Ar42.2.2 hin42 hat42 (g := (mkF m 67 #[.val (.ref a1), .val (.int p2), .val (.int q2), .val (.int i3), .val (.int i4)] [(.int p2), (.ref a1), (.int (own_g cs i4))])) rfl rfl (hb hby own_d10_67) _ ht) ?_
            by_cases hc68_43 : (own_g cs i4) = (own_g cs p2)
            ·
              refine own_step (U' := (s₁.setTop (mkF m 74 #[.val (.ref a1), .val (.int p2), .val (.int q2), .val (.int i3), .val (.int i4)] []))) (fun t ht => XS.icmpYes X0.here hx rfl (pc0 := 68) (pc' := 74) rfl (hb hby own_d10_68) rfl (XT.ii_eq_t hc68_43) (by decide) (by decide) ht) ?_
              exact tail74 (i3) (i4) hi3 hi4
            ·
              refine own_step (U' := (s₁.setTop (mkF m 71 #[.val (.ref a1), .val (.int p2), .val (.int q2), .val (.int i3), .val (.int i4)] []))) (fun t ht => XS.icmpNo X0.here hx rfl (hb hby own_d10_68) rfl (XT.ii_eq_f hc68_43) ht) ?_
              refine own_step (U' := (s₁.setTop (mkF m 73 #[.val (.ref a1), .val (.int p2), .val (.int q2), .val (.int i3), .val (.int i4)] [(.int i4)]))) (fun t ht => XS.iload X0.here hx rfl (hb hby own_d10_71) rfl ht) ?_
              refine own_ret X0 (v := (some (.int i4))) (fun h => by rw [Bd.returns] at h; cases h) Bd.notSynchronized (by decide) (by decide) ?_ (fun fs hr => retI X0 hx Bd.returns (hb hby own_d10_73) hr)
              show own_Q_btw Z a1 p2 ka cs mm M P h0 n0 _ s₁.heap _
              rw [e0]
              exact ⟨i4, rfl, N0, rfl⟩
        ·
          refine own_step (U' := (s₁.setTop (mkF m 74 #[.val (.ref a1), .val (.int p2), .val (.int q2), .val (.int i3), .val (.int i4)] []))) (fun t ht => XS.icmpYes X0.here hx rfl (pc0 := 48) (pc' := 74) rfl (hb hby own_d10_48) rfl (XT.ii_ge_t hc48_37) (by decide) (by decide) ht) ?_
          exact tail74 (i3) (i4) hi3 hi4
      refine own_step (U' := (s₁.setTop (mkF m 12 #[.val (.ref a1), .val (.int p2), .val (.int q2), .val (.int i3), .val (.int i4)] [(.int i3)]))) (fun t ht => XS.iloadN X0.here hx rfl (hb hby own_d10_11) rfl ht) ?_
      by_cases hc12_44 : 0 < i3
      ·
        refine own_step (U' := (s₁.setTop (mkF m 21 #[.val (.ref a1), .val (.int p2), .val (.int q2), .val (.int i3), .val (.int i4)] []))) (fun t ht => XS.ifYes X0.here hx rfl (pc0 := 12) (pc' := 21) rfl (hb hby own_d10_12) rfl (XT.i0_gt_t hc12_44) (by decide) (by decide) ht) ?_
        refine own_step (U' := (s₁.setTop (mkF m 22 #[.val (.ref a1), .val (.int p2), .val (.int q2), .val (.int i3), .val (.int i4)] [(.int i3)]))) (fun t ht => XS.iloadN X0.here hx rfl (hb hby own_d10_21) rfl ht) ?_
        refine own_step (U' := (s₁.setTop (mkF m 25 #[.val (.ref a1), .val (.int p2), .val (.int q2), .val (.int i3), .val (.int i4)] []))) (fun t ht => XS.ifNo X0.here hx rfl (hb hby own_d10_22) rfl (XT.i0_le_f (hc12_44 : 0 < i3)) ht) ?_
        refine own_step (U' := (s₁.setTop (mkF m 26 #[.val (.ref a1), .val (.int p2), .val (.int q2), .val (.int i3), .val (.int i4)] [(.ref a1)]))) (fun t ht => XS.aloadN X0.here hx rfl (hb hby own_d10_25) rfl rfl ht) ?_
        refine own_step (U' := (s₁.setTop (mkF m 27 #[.val (.ref a1), .val (.int p2), .val (.int q2), .val (.int i3), .val (.int i4)] [(.int i3), (.ref a1)]))) (fun t ht => XS.iloadN X0.here hx rfl (hb hby own_d10_26) rfl ht) ?_
        obtain ⟨cl45, Ar45, q45, S45, N45_, H45, G45⟩ := (id Va)
        have hin45 : ¬ (i3 < 0 ∨ cl45.slots.size ≤ (i3).toNatClampNeg) := inb_of S45 (own_inI hi3 hm (by have := (own_ltI (a := 0) rfl hi3).mp hc12_44; omega))
        have hat45 : cl45.slots[(i3).toNatClampNeg]? = some (.int (own_g cs i3)) := Has.at H45 hin45 (own_ldI _ _)
        refine own_step (U' := (s₁.setTop (mkF m 28 #[.val (.ref a1), .val (.int p2), .val (.int q2), .val (.int i3), .val (.int i4)] [(.int (own_g cs i3))]))) (fun t ht => X0.caload hx (j := i3) (v := (.int (own_g cs i3))) (own_at e0 Ar45.1) (State.isArrayOf_alike hZ.alike Ar45.2.1) Ar45.2.2 hin45 hat45 (g := (mkF m 27 #[.val (.ref a1), .val (.int p2), .val (.int q2), .val (.int i3), .val (.int i4)] [(.int i3), (.ref a1)])) rfl rfl (hb hby own_d10_27) _ ht) ?_
        refine own_step (U' := (s₁.setTop (mkF m 29 #[.val (.ref a1), .val (.int p2), .val (.int q2), .val (.int i3), .val (.int i4)] [(.ref a1), (.int (own_g cs i3))]))) (fun t ht => XS.aloadN X0.here hx rfl (hb hby own_d10_28) rfl rfl ht) ?_
        refine own_step (U' := (s₁.setTop (mkF m 30 #[.val (.ref a1), .val (.int p2), .val (.int q2), .val (.int i3), .val (.int i4)] [(.int (0 : Int32)), (.ref a1), (.int (own_g cs i3))]))) (fun t ht => XS.iconst X0.here hx rfl (hb hby own_d10_29) ht) ?_
        obtain ⟨cl46, Ar46, q46, S46, N46_, H46, G46⟩ := (id Va)
        have hin46 : ¬ ((0 : Int32) < 0 ∨ cl46.slots.size ≤ ((0 : Int32)).toNatClampNeg) := inb_of S46 (own_inI (a := 0) rfl hm (by omega))
        have hat46 : cl46.slots[((0 : Int32)).toNatClampNeg]? = some (.int (own_g cs (0 : Int32))) := Has.at H46 hin46 (own_ldI _ _)
        refine own_step (U' := (s₁.setTop (mkF m 31 #[.val (.ref a1), .val (.int p2), .val (.int q2), .val (.int i3), .val (.int i4)] [(.int (own_g cs (0 : Int32))), (.int (own_g cs i3))]))) (fun t ht => X0.caload hx (j := (0 : Int32)) (v := (.int (own_g cs (0 : Int32)))) (own_at e0 Ar46.1) (State.isArrayOf_alike hZ.alike Ar46.2.1) Ar46.2.2 hin46 hat46 (g := (mkF m 30 #[.val (.ref a1), .val (.int p2), .val (.int q2), .val (.int i3), .val (.int i4)] [(.int (0 : Int32)), (.ref a1), (.int (own_g cs i3))])) rfl rfl (hb hby own_d10_30) _ ht) ?_
        by_cases hc31_47 : (own_g cs i3) = (own_g cs (0 : Int32))
        ·
          refine own_step (U' := (s₁.setTop (mkF m 45 #[.val (.ref a1), .val (.int p2), .val (.int q2), .val (.int i3), .val (.int i4)] []))) (fun t ht => XS.icmpYes X0.here hx rfl (pc0 := 31) (pc' := 45) rfl (hb hby own_d10_31) rfl (XT.ii_eq_t hc31_47) (by decide) (by decide) ht) ?_
          exact tail45 (i3) (i4) hi3 hi4
        ·
          refine own_step (U' := (s₁.setTop (mkF m 34 #[.val (.ref a1), .val (.int p2), .val (.int q2), .val (.int i3), .val (.int i4)] []))) (fun t ht => XS.icmpNo X0.here hx rfl (hb hby own_d10_31) rfl (XT.ii_eq_f hc31_47) ht) ?_
          refine own_step (U' := (s₁.setTop (mkF m 35 #[.val (.ref a1), .val (.int p2), .val (.int q2), .val (.int i3), .val (.int i4)] [(.ref a1)]))) (fun t ht => XS.aloadN X0.here hx rfl (hb hby own_d10_34) rfl rfl ht) ?_
          refine own_step (U' := (s₁.setTop (mkF m 36 #[.val (.ref a1), .val (.int p2), .val (.int q2), .val (.int i3), .val (.int i4)] [(.int i3), (.ref a1)]))) (fun t ht => XS.iloadN X0.here hx rfl (hb hby own_d10_35) rfl ht) ?_
          obtain ⟨cl48, Ar48, q48, S48, N48_, H48, G48⟩ := (id Va)
          have hin48 : ¬ (i3 < 0 ∨ cl48.slots.size ≤ (i3).toNatClampNeg) := inb_of S48 (own_inI hi3 hm (by have := (own_ltI (a := 0) rfl hi3).mp hc12_44; omega))
          have hat48 : cl48.slots[(i3).toNatClampNeg]? = some (.int (own_g cs i3)) := Has.at H48 hin48 (own_ldI _ _)
          refine own_step (U' := (s₁.setTop (mkF m 37 #[.val (.ref a1), .val (.int p2), .val (.int q2), .val (.int i3), .val (.int i4)] [(.int (own_g cs i3))]))) (fun t ht => X0.caload hx (j := i3) (v := (.int (own_g cs i3))) (own_at e0 Ar48.1) (State.isArrayOf_alike hZ.alike Ar48.2.1) Ar48.2.2 hin48 hat48 (g := (mkF m 36 #[.val (.ref a1), .val (.int p2), .val (.int q2), .val (.int i3), .val (.int i4)] [(.int i3), (.ref a1)])) rfl rfl (hb hby own_d10_36) _ ht) ?_
          refine own_step (U' := (s₁.setTop (mkF m 38 #[.val (.ref a1), .val (.int p2), .val (.int q2), .val (.int i3), .val (.int i4)] [(.ref a1), (.int (own_g cs i3))]))) (fun t ht => XS.aloadN X0.here hx rfl (hb hby own_d10_37) rfl rfl ht) ?_
          refine own_step (U' := (s₁.setTop (mkF m 39 #[.val (.ref a1), .val (.int p2), .val (.int q2), .val (.int i3), .val (.int i4)] [(.int p2), (.ref a1), (.int (own_g cs i3))]))) (fun t ht => XS.iloadN X0.here hx rfl (hb hby own_d10_38) rfl ht) ?_
          obtain ⟨cl49, Ar49, q49, S49, N49_, H49, G49⟩ := (id Va)
          have hin49 : ¬ (p2 < 0 ∨ cl49.slots.size ≤ (p2).toNatClampNeg) := inb_of S49 (own_inI hp hm (by omega))
          have hat49 : cl49.slots[(p2).toNatClampNeg]? = some (.int (own_g cs p2)) := Has.at H49 hin49 (own_ldI _ _)
          refine own_step (U' := (s₁.setTop (mkF m 40 #[.val (.ref a1), .val (.int p2), .val (.int q2), .val (.int i3), .val (.int i4)] [(.int (own_g cs p2)), (.int (own_g cs i3))]))) (fun t ht => X0.caload hx (j := p2) (v := (.int (own_g cs p2))) (own_at e0 Ar49.1) (State.isArrayOf_alike hZ.alike Ar49.2.1) Ar49.2.2 hin49 hat49 (g := (mkF m 39 #[.val (.ref a1), .val (.int p2), .val (.int q2), .val (.int i3), .val (.int i4)] [(.int p2), (.ref a1), (.int (own_g cs i3))])) rfl rfl (hb hby own_d10_39) _ ht) ?_
          by_cases hc40_50 : (own_g cs i3) = (own_g cs p2)
          ·
            refine own_step (U' := (s₁.setTop (mkF m 45 #[.val (.ref a1), .val (.int p2), .val (.int q2), .val (.int i3), .val (.int i4)] []))) (fun t ht => XS.icmpYes X0.here hx rfl (pc0 := 40) (pc' := 45) rfl (hb hby own_d10_40) rfl (XT.ii_eq_t hc40_50) (by decide) (by decide) ht) ?_
            exact tail45 (i3) (i4) hi3 hi4
          ·
            refine own_step (U' := (s₁.setTop (mkF m 43 #[.val (.ref a1), .val (.int p2), .val (.int q2), .val (.int i3), .val (.int i4)] []))) (fun t ht => XS.icmpNo X0.here hx rfl (hb hby own_d10_40) rfl (XT.ii_eq_f hc40_50) ht) ?_
            refine own_step (U' := (s₁.setTop (mkF m 44 #[.val (.ref a1), .val (.int p2), .val (.int q2), .val (.int i3), .val (.int i4)] [(.int i3)]))) (fun t ht => XS.iloadN X0.here hx rfl (hb hby own_d10_43) rfl ht) ?_
            refine own_ret X0 (v := (some (.int i3))) (fun h => by rw [Bd.returns] at h; cases h) Bd.notSynchronized (by decide) (by decide) ?_ (fun fs hr => retI X0 hx Bd.returns (hb hby own_d10_44) hr)
            show own_Q_btw Z a1 p2 ka cs mm M P h0 n0 _ s₁.heap _
            rw [e0]
            exact ⟨i3, rfl, N0, rfl⟩
      ·
        refine own_step (U' := (s₁.setTop (mkF m 15 #[.val (.ref a1), .val (.int p2), .val (.int q2), .val (.int i3), .val (.int i4)] []))) (fun t ht => XS.ifNo X0.here hx rfl (hb hby own_d10_12) rfl (XT.i0_gt_f hc12_44) ht) ?_
        refine own_step (U' := (s₁.setTop (mkF m 17 #[.val (.ref a1), .val (.int p2), .val (.int q2), .val (.int i3), .val (.int i4)] [(.int i4)]))) (fun t ht => XS.iload X0.here hx rfl (hb hby own_d10_15) rfl ht) ?_
        refine own_step (U' := (s₁.setTop (mkF m 18 #[.val (.ref a1), .val (.int p2), .val (.int q2), .val (.int i3), .val (.int i4)] [(.int p2), (.int i4)]))) (fun t ht => XS.iloadN X0.here hx rfl (hb hby own_d10_17) rfl ht) ?_
        by_cases hc18_51 : i4 < p2
        ·
          refine own_step (U' := (s₁.setTop (mkF m 21 #[.val (.ref a1), .val (.int p2), .val (.int q2), .val (.int i3), .val (.int i4)] []))) (fun t ht => XS.icmpNo X0.here hx rfl (hb hby own_d10_18) rfl (XT.ii_ge_f hc18_51) ht) ?_
          refine own_step (U' := (s₁.setTop (mkF m 22 #[.val (.ref a1), .val (.int p2), .val (.int q2), .val (.int i3), .val (.int i4)] [(.int i3)]))) (fun t ht => XS.iloadN X0.here hx rfl (hb hby own_d10_21) rfl ht) ?_
          refine own_step (U' := (s₁.setTop (mkF m 45 #[.val (.ref a1), .val (.int p2), .val (.int q2), .val (.int i3), .val (.int i4)] []))) (fun t ht => XS.ifYes X0.here hx rfl (pc0 := 22) (pc' := 45) rfl (hb hby own_d10_22) rfl (XT.i0_le_t (hc12_44 : ¬ (0 < i3))) (by decide) (by decide) ht) ?_
          exact tail45 (i3) (i4) hi3 hi4
        ·
          refine own_step (U' := (s₁.setTop (mkF m 83 #[.val (.ref a1), .val (.int p2), .val (.int q2), .val (.int i3), .val (.int i4)] []))) (fun t ht => XS.icmpYes X0.here hx rfl (pc0 := 18) (pc' := 83) rfl (hb hby own_d10_18) rfl (XT.ii_ge_t hc18_51) (by decide) (by decide) ht) ?_
          refine own_step (U' := (s₁.setTop (mkF m 84 #[.val (.ref a1), .val (.int p2), .val (.int q2), .val (.int i3), .val (.int i4)] [(.int q2)]))) (fun t ht => XS.iloadN X0.here hx rfl (hb hby own_d10_83) rfl ht) ?_
          refine own_ret X0 (v := (some (.int q2))) (fun h => by rw [Bd.returns] at h; cases h) Bd.notSynchronized (by decide) (by decide) ?_ (fun fs hr => retI X0 hx Bd.returns (hb hby own_d10_84) hr)
          show own_Q_btw Z a1 p2 ka cs mm M P h0 n0 _ s₁.heap _
          rw [e0]
          exact ⟨q2, rfl, N0, rfl⟩
  exact loop P 0 _ _ (by rw [hq2]; omega) (own_addI hq2 (by omega) (by omega) (by omega)) (by omega)
theorem own_minN {x y : Int32} {a b : Nat} (hx : x.toInt = (a : Int)) (hy : y.toInt = (b : Int)) (h : a ≤ b) : own_min x y = x := by
  rw [own_min, if_neg (fun q => absurd ((own_lti hy hx).mp q) (by omega))]
theorem own_pre1 {x : Int32} {a : Nat} (hx : x.toInt = (a : Int)) (h1 : 1 ≤ a) (h8 : a ≤ 8) : (x - (1 : Int32)).toInt = ((a - 1 : Nat) : Int) := own_subN hx (j := 1) rfl h1 (by omega)
theorem own_pd2 : parseMethodDescriptor "(II)I" = some ⟨[.int, .int], some .int⟩ := by decide +kernel
theorem own_pd3 : parseMethodDescriptor "([CI)I" = some ⟨[(.array .char), .int], some .int⟩ := by decide +kernel
theorem own_pd4 : parseMethodDescriptor "(I)J" = some ⟨[.int], some .long⟩ := by decide +kernel
theorem own_d8_0 : decode prog_28_method_1_code 0 = .ok (.aload_n 0, 1) := by decide +kernel
theorem own_d8_1 : decode prog_28_method_1_code 1 = .ok (.invokespecial 3, 3) := by decide +kernel
theorem own_d8_4 : decode prog_28_method_1_code 4 = .ok (.aload_n 0, 1) := by decide +kernel
theorem own_d8_5 : decode prog_28_method_1_code 5 = .ok (.aload_n 1, 1) := by decide +kernel
theorem own_d8_6 : decode prog_28_method_1_code 6 = .ok (.putfield 9, 3) := by decide +kernel
theorem own_d8_9 : decode prog_28_method_1_code 9 = .ok (.aload_n 0, 1) := by decide +kernel
theorem own_d8_10 : decode prog_28_method_1_code 10 = .ok (.aload_n 1, 1) := by decide +kernel
theorem own_d8_11 : decode prog_28_method_1_code 11 = .ok (.arraylength, 1) := by decide +kernel
theorem own_d8_12 : decode prog_28_method_1_code 12 = .ok (.putfield 15, 3) := by decide +kernel
theorem own_d8_15 : decode prog_28_method_1_code 15 = .ok (.iconst 0, 1) := by decide +kernel
theorem own_d8_16 : decode prog_28_method_1_code 16 = .ok (.istore_n 2, 1) := by decide +kernel
theorem own_d8_17 : decode prog_28_method_1_code 17 = .ok (.aload_n 1, 1) := by decide +kernel
theorem own_d8_18 : decode prog_28_method_1_code 18 = .ok (.astore_n 3, 1) := by decide +kernel
theorem own_d8_19 : decode prog_28_method_1_code 19 = .ok (.aload_n 3, 1) := by decide +kernel
theorem own_d8_20 : decode prog_28_method_1_code 20 = .ok (.arraylength, 1) := by decide +kernel
theorem own_d8_21 : decode prog_28_method_1_code 21 = .ok (.istore 4, 2) := by decide +kernel
theorem own_d8_23 : decode prog_28_method_1_code 23 = .ok (.iconst 0, 1) := by decide +kernel
theorem own_d8_24 : decode prog_28_method_1_code 24 = .ok (.istore 5, 2) := by decide +kernel
theorem own_d8_26 : decode prog_28_method_1_code 26 = .ok (.iload 5, 2) := by decide +kernel
theorem own_d8_28 : decode prog_28_method_1_code 28 = .ok (.iload 4, 2) := by decide +kernel
theorem own_d8_30 : decode prog_28_method_1_code 30 = .ok (.if_icmp .ge 20, 3) := by decide +kernel
theorem own_d8_33 : decode prog_28_method_1_code 33 = .ok (.aload_n 3, 1) := by decide +kernel
theorem own_d8_34 : decode prog_28_method_1_code 34 = .ok (.iload 5, 2) := by decide +kernel
theorem own_d8_36 : decode prog_28_method_1_code 36 = .ok (.caload, 1) := by decide +kernel
theorem own_d8_37 : decode prog_28_method_1_code 37 = .ok (.istore 6, 2) := by decide +kernel
theorem own_d8_39 : decode prog_28_method_1_code 39 = .ok (.iload_n 2, 1) := by decide +kernel
theorem own_d8_40 : decode prog_28_method_1_code 40 = .ok (.iload 6, 2) := by decide +kernel
theorem own_d8_42 : decode prog_28_method_1_code 42 = .ok (.ior, 1) := by decide +kernel
theorem own_d8_43 : decode prog_28_method_1_code 43 = .ok (.istore_n 2, 1) := by decide +kernel
theorem own_d8_44 : decode prog_28_method_1_code 44 = .ok (.iinc 5 1, 3) := by decide +kernel
theorem own_d8_47 : decode prog_28_method_1_code 47 = .ok (.goto (-21), 3) := by decide +kernel
theorem own_d8_50 : decode prog_28_method_1_code 50 = .ok (.lconst 0, 1) := by decide +kernel
theorem own_d8_51 : decode prog_28_method_1_code 51 = .ok (.lstore_n 3, 1) := by decide +kernel
theorem own_d8_52 : decode prog_28_method_1_code 52 = .ok (.aload_n 0, 1) := by decide +kernel
theorem own_d8_53 : decode prog_28_method_1_code 53 = .ok (.getfield 15, 3) := by decide +kernel
theorem own_d8_56 : decode prog_28_method_1_code 56 = .ok (.bipush 8, 2) := by decide +kernel
theorem own_d8_58 : decode prog_28_method_1_code 58 = .ok (.invokestatic 19, 3) := by decide +kernel
theorem own_d8_61 : decode prog_28_method_1_code 61 = .ok (.iconst 1, 1) := by decide +kernel
theorem own_d8_62 : decode prog_28_method_1_code 62 = .ok (.isub, 1) := by decide +kernel
theorem own_d8_63 : decode prog_28_method_1_code 63 = .ok (.istore 5, 2) := by decide +kernel
theorem own_d8_65 : decode prog_28_method_1_code 65 = .ok (.iload 5, 2) := by decide +kernel
theorem own_d8_67 : decode prog_28_method_1_code 67 = .ok (.ifCond .lt 24, 3) := by decide +kernel
theorem own_d8_70 : decode prog_28_method_1_code 70 = .ok (.lload_n 3, 1) := by decide +kernel
theorem own_d8_71 : decode prog_28_method_1_code 71 = .ok (.bipush 8, 2) := by decide +kernel
theorem own_d8_73 : decode prog_28_method_1_code 73 = .ok (.lshl, 1) := by decide +kernel
theorem own_d8_74 : decode prog_28_method_1_code 74 = .ok (.aload_n 1, 1) := by decide +kernel
theorem own_d8_75 : decode prog_28_method_1_code 75 = .ok (.iload 5, 2) := by decide +kernel
theorem own_d8_77 : decode prog_28_method_1_code 77 = .ok (.caload, 1) := by decide +kernel
theorem own_d8_78 : decode prog_28_method_1_code 78 = .ok (.sipush 255, 3) := by decide +kernel
theorem own_d8_81 : decode prog_28_method_1_code 81 = .ok (.iand, 1) := by decide +kernel
theorem own_d8_82 : decode prog_28_method_1_code 82 = .ok (.i2l, 1) := by decide +kernel
theorem own_d8_83 : decode prog_28_method_1_code 83 = .ok (.lor, 1) := by decide +kernel
theorem own_d8_84 : decode prog_28_method_1_code 84 = .ok (.lstore_n 3, 1) := by decide +kernel
theorem own_d8_85 : decode prog_28_method_1_code 85 = .ok (.iinc 5 (-1), 3) := by decide +kernel
theorem own_d8_88 : decode prog_28_method_1_code 88 = .ok (.goto (-23), 3) := by decide +kernel
theorem own_d8_91 : decode prog_28_method_1_code 91 = .ok (.lconst 0, 1) := by decide +kernel
theorem own_d8_92 : decode prog_28_method_1_code 92 = .ok (.lstore 5, 2) := by decide +kernel
theorem own_d8_94 : decode prog_28_method_1_code 94 = .ok (.aload_n 0, 1) := by decide +kernel
theorem own_d8_95 : decode prog_28_method_1_code 95 = .ok (.getfield 15, 3) := by decide +kernel
theorem own_d8_98 : decode prog_28_method_1_code 98 = .ok (.bipush 16, 2) := by decide +kernel
theorem own_d8_100 : decode prog_28_method_1_code 100 = .ok (.invokestatic 19, 3) := by decide +kernel
theorem own_d8_103 : decode prog_28_method_1_code 103 = .ok (.iconst 1, 1) := by decide +kernel
theorem own_d8_104 : decode prog_28_method_1_code 104 = .ok (.isub, 1) := by decide +kernel
theorem own_d8_105 : decode prog_28_method_1_code 105 = .ok (.istore 7, 2) := by decide +kernel
theorem own_d8_107 : decode prog_28_method_1_code 107 = .ok (.iload 7, 2) := by decide +kernel
theorem own_d8_109 : decode prog_28_method_1_code 109 = .ok (.bipush 8, 2) := by decide +kernel
theorem own_d8_111 : decode prog_28_method_1_code 111 = .ok (.if_icmp .lt 26, 3) := by decide +kernel
theorem own_d8_137 : decode prog_28_method_1_code 137 = .ok (.aload_n 0, 1) := by decide +kernel
theorem own_d8_138 : decode prog_28_method_1_code 138 = .ok (.getfield 15, 3) := by decide +kernel
theorem own_d8_141 : decode prog_28_method_1_code 141 = .ok (.iconst 1, 1) := by decide +kernel
theorem own_d8_142 : decode prog_28_method_1_code 142 = .ok (.isub, 1) := by decide +kernel
theorem own_d8_143 : decode prog_28_method_1_code 143 = .ok (.istore 7, 2) := by decide +kernel
theorem own_d8_145 : decode prog_28_method_1_code 145 = .ok (.iload 7, 2) := by decide +kernel
theorem own_d8_147 : decode prog_28_method_1_code 147 = .ok (.ifCond .le 19, 3) := by decide +kernel
theorem own_d8_150 : decode prog_28_method_1_code 150 = .ok (.aload_n 1, 1) := by decide +kernel
theorem own_d8_151 : decode prog_28_method_1_code 151 = .ok (.iload 7, 2) := by decide +kernel
theorem own_d8_153 : decode prog_28_method_1_code 153 = .ok (.caload, 1) := by decide +kernel
theorem own_d8_154 : decode prog_28_method_1_code 154 = .ok (.aload_n 1, 1) := by decide +kernel
theorem own_d8_155 : decode prog_28_method_1_code 155 = .ok (.iconst 0, 1) := by decide +kernel
theorem own_d8_156 : decode prog_28_method_1_code 156 = .ok (.caload, 1) := by decide +kernel
theorem own_d8_157 : decode prog_28_method_1_code 157 = .ok (.if_icmp .ne 9, 3) := by decide +kernel
theorem own_d8_160 : decode prog_28_method_1_code 160 = .ok (.iinc 7 (-1), 3) := by decide +kernel
theorem own_d8_163 : decode prog_28_method_1_code 163 = .ok (.goto (-18), 3) := by decide +kernel
theorem own_d8_166 : decode prog_28_method_1_code 166 = .ok (.aload_n 0, 1) := by decide +kernel
theorem own_d8_167 : decode prog_28_method_1_code 167 = .ok (.iload 7, 2) := by decide +kernel
theorem own_d8_169 : decode prog_28_method_1_code 169 = .ok (.putfield 27, 3) := by decide +kernel
theorem own_d8_172 : decode prog_28_method_1_code 172 = .ok (.aload_n 0, 1) := by decide +kernel
theorem own_d8_173 : decode prog_28_method_1_code 173 = .ok (.aload_n 1, 1) := by decide +kernel
theorem own_d8_174 : decode prog_28_method_1_code 174 = .ok (.iload 7, 2) := by decide +kernel
theorem own_d8_176 : decode prog_28_method_1_code 176 = .ok (.ifCond .le 8, 3) := by decide +kernel
theorem own_d8_179 : decode prog_28_method_1_code 179 = .ok (.iload 7, 2) := by decide +kernel
theorem own_d8_181 : decode prog_28_method_1_code 181 = .ok (.goto 9, 3) := by decide +kernel
theorem own_d8_184 : decode prog_28_method_1_code 184 = .ok (.aload_n 0, 1) := by decide +kernel
theorem own_d8_185 : decode prog_28_method_1_code 185 = .ok (.getfield 15, 3) := by decide +kernel
theorem own_d8_188 : decode prog_28_method_1_code 188 = .ok (.iconst 1, 1) := by decide +kernel
theorem own_d8_189 : decode prog_28_method_1_code 189 = .ok (.isub, 1) := by decide +kernel
theorem own_d8_190 : decode prog_28_method_1_code 190 = .ok (.invokestatic 30, 3) := by decide +kernel
theorem own_d8_193 : decode prog_28_method_1_code 193 = .ok (.putfield 34, 3) := by decide +kernel
theorem own_d8_196 : decode prog_28_method_1_code 196 = .ok (.aload_n 0, 1) := by decide +kernel
theorem own_d8_197 : decode prog_28_method_1_code 197 = .ok (.iload_n 2, 1) := by decide +kernel
theorem own_d8_198 : decode prog_28_method_1_code 198 = .ok (.sipush 255, 3) := by decide +kernel
theorem own_d8_201 : decode prog_28_method_1_code 201 = .ok (.if_icmp .gt 7, 3) := by decide +kernel
theorem own_d8_204 : decode prog_28_method_1_code 204 = .ok (.iconst 1, 1) := by decide +kernel
theorem own_d8_205 : decode prog_28_method_1_code 205 = .ok (.goto 4, 3) := by decide +kernel
theorem own_d8_208 : decode prog_28_method_1_code 208 = .ok (.iconst 0, 1) := by decide +kernel
theorem own_d8_209 : decode prog_28_method_1_code 209 = .ok (.putfield 36, 3) := by decide +kernel
theorem own_d8_212 : decode prog_28_method_1_code 212 = .ok (.aload_n 0, 1) := by decide +kernel
theorem own_d8_213 : decode prog_28_method_1_code 213 = .ok (.lload_n 3, 1) := by decide +kernel
theorem own_d8_214 : decode prog_28_method_1_code 214 = .ok (.putfield 40, 3) := by decide +kernel
theorem own_d8_217 : decode prog_28_method_1_code 217 = .ok (.aload_n 0, 1) := by decide +kernel
theorem own_d8_218 : decode prog_28_method_1_code 218 = .ok (.lload 5, 2) := by decide +kernel
theorem own_d8_220 : decode prog_28_method_1_code 220 = .ok (.putfield 44, 3) := by decide +kernel
theorem own_d8_223 : decode prog_28_method_1_code 223 = .ok (.aload_n 0, 1) := by decide +kernel
theorem own_d8_224 : decode prog_28_method_1_code 224 = .ok (.aload_n 0, 1) := by decide +kernel
theorem own_d8_225 : decode prog_28_method_1_code 225 = .ok (.getfield 15, 3) := by decide +kernel
theorem own_d8_228 : decode prog_28_method_1_code 228 = .ok (.bipush 8, 2) := by decide +kernel
theorem own_d8_230 : decode prog_28_method_1_code 230 = .ok (.invokestatic 19, 3) := by decide +kernel
theorem own_d8_233 : decode prog_28_method_1_code 233 = .ok (.invokestatic 47, 3) := by decide +kernel
theorem own_d8_236 : decode prog_28_method_1_code 236 = .ok (.putfield 51, 3) := by decide +kernel
theorem own_d8_239 : decode prog_28_method_1_code 239 = .ok (.aload_n 0, 1) := by decide +kernel
theorem own_d8_240 : decode prog_28_method_1_code 240 = .ok (.aload_n 0, 1) := by decide +kernel
theorem own_d8_241 : decode prog_28_method_1_code 241 = .ok (.getfield 15, 3) := by decide +kernel
theorem own_d8_244 : decode prog_28_method_1_code 244 = .ok (.bipush 8, 2) := by decide +kernel
theorem own_d8_246 : decode prog_28_method_1_code 246 = .ok (.isub, 1) := by decide +kernel
theorem own_d8_247 : decode prog_28_method_1_code 247 = .ok (.iconst 0, 1) := by decide +kernel
theorem own_d8_248 : decode prog_28_method_1_code 248 = .ok (.invokestatic 54, 3) := by decide +kernel
theorem own_d8_251 : decode prog_28_method_1_code 251 = .ok (.bipush 8, 2) := by decide +kernel
theorem own_d8_253 : decode prog_28_method_1_code 253 = .ok (.invokestatic 19, 3) := by decide +kernel
theorem own_d8_256 : decode prog_28_method_1_code 256 = .ok (.invokestatic 47, 3) := by decide +kernel
theorem own_d8_259 : decode prog_28_method_1_code 259 = .ok (.putfield 57, 3) := by decide +kernel
theorem own_d8_262 : decode prog_28_method_1_code 262 = .ok (.return_, 1) := by decide +kernel
def own_Q_fli (Z : State) (a1 : Addr) (b1 : Addr) (ka : ClassId) (cs : List Int32) (mm : Int32) (M : Nat) (h0 : Heap) (n0 : Nat) (v : Option Value) (h : Heap) (L : List Loc) : Prop := v = none ∧ Fr n0 L ∧ Keep h0 h [a1]
set_option maxRecDepth 65536 in
set_option maxHeartbeats 40000000 in
theorem own_m_fli (l : Launch) (Z : State) (a0 : Array Value) (hw : ∀ d ∈ tables_1, d.before a0 Z = true) (ws : List Jvm.Cond) (a1 : Addr) (b1 : Addr) (ka : ClassId) (cs : List Int32) (mm : Int32) (M : Nat) (h0 : Heap) (n0 : Nat) (Z0 : n0 ≤ h0.size) (g_a1 : n0 ≤ a1) (ne_b1_a1 : b1 ≠ a1) (f1 : Fld Z h0 a1 "com/example/skip2/skip2/windowsearch/FlagSearch" "pattern" "[C" .null) (f2 : Fld Z h0 a1 "com/example/skip2/skip2/windowsearch/FlagSearch" "length" "I" (.int (0 : Int32))) (f3 : Fld Z h0 a1 "com/example/skip2/skip2/windowsearch/FlagSearch" "lastUnlike" "I" (.int (0 : Int32))) (f4 : Fld Z h0 a1 "com/example/skip2/skip2/windowsearch/FlagSearch" "between" "I" (.int (0 : Int32))) (f5 : Fld Z h0 a1 "com/example/skip2/skip2/windowsearch/FlagSearch" "lowBytes" "Z" (.int (0 : Int32))) (f6 : Fld Z h0 a1 "com/example/skip2/skip2/windowsearch/FlagSearch" "lowWord" "J" (.long (0 : Int64))) (f7 : Fld Z h0 a1 "com/example/skip2/skip2/windowsearch/FlagSearch" "highWord" "J" (.long (0 : Int64))) (f8 : Fld Z h0 a1 "com/example/skip2/skip2/windowsearch/FlagSearch" "lowMask" "J" (.long (0 : Int64))) (f9 : Fld Z h0 a1 "com/example/skip2/skip2/windowsearch/FlagSearch" "highMask" "J" (.long (0 : Int64))) (Ea : Exa Z h0 a1 "com/example/skip2/skip2/windowsearch/FlagSearch") (Va : Arv Z h0 b1 ka .char mm (cs.map Value.int) (.int (0 : Int32))) (hm : mm.toInt = (M : Int)) (h1 : 1 ≤ M) (h8 : M ≤ 8) :
    MetFree l (⟨"com/example/skip2/skip2/windowsearch/FlagSearch", "<init>", "([C)V"⟩ : MethodName) (head1 (Jvm.Cond.code (⟨"com/example/skip2/skip2/windowsearch/FlagSearch", "<init>", "([C)V"⟩ : MethodName) prog_28_method_1_code 8 none :: ws) ({ frames := 1, cells := 0, slots := 0, locals := 17 } : Room)) (fun a U => a = #[(.ref a1), (.ref b1)] ∧ Z.Warmed39 U.vm ∧ U.heap = h0) (fun _ _ _ _ _ => True) (fun _ U o U' => ∃ v L, o = .returned v ∧ own_Q_fli Z a1 b1 ka cs mm M h0 n0 v U'.heap L ∧ FrameEnd U o U' L ({ frames := 1, cells := 0, slots := 0, locals := 17 } : Room).cells ({ frames := 1, cells := 0, slots := 0, locals := 17 } : Room).slots) := by
  refine MetFree.of_bodySF (plainFor_of_name own_pn4) hisR ?_
  intro p e s m args below meth c s₁ Bd hml0 hP hK
  obtain ⟨rfl, hZ, hh⟩ := hP
  have hx := Bd.exec
  have hby := Bd.bytes
  have hml : c.maxLocals = 8 := hml0
  have hown : s.vm.findClass "com/example/skip2/skip2/windowsearch/FlagSearch" = some m.cls := findClass_of_methodNamed Bd.named
  have hnm := (name_of_methodNamed Bd.named Bd.method).1
  have X0 : Stand p l e ({ frames := 1, cells := 0, slots := 0, locals := 17 } : Room) s m #[(.ref a1), (.ref b1)] below meth c s₁ [] 0 0 := Stand.of_body Bd
  have e0 : s₁.heap = h0 := by rw [← hh, Bd.state]; rfl
  have N0 := Fr.nil n0
  have K0 : Keep h0 h0 [a1] := Keep.refl _ _
  show own_Go p e below s ({ frames := 1, cells := 0, slots := 0, locals := 17 } : Room).cells ({ frames := 1, cells := 0, slots := 0, locals := 17 } : Room).slots (own_Q_fli Z a1 b1 ka cs mm M h0 n0) (s₁.setTop (entryFrame m #[(.ref a1), (.ref b1)] 8))
  have ef : entryFrame m #[(.ref a1), (.ref b1)] 8 = (mkF m 0 #[.val (.ref a1), .val (.ref b1), .unset, .unset, .unset, .unset, .unset, .unset] []) := by first | (simp [entryFrame, mkF, argsToLocals, Value.category, maxLocals]; done) | rfl
  rw [ef]
  show own_Go p e below s _ _ _ (s₁.setTop (mkF m 0 #[.val (.ref a1), .val (.ref b1), .unset, .unset, .unset, .unset, .unset, .unset] []))
  refine own_step (U' := (s₁.setTop (mkF m 1 #[.val (.ref a1), .val (.ref b1), .unset, .unset, .unset, .unset, .unset, .unset] [(.ref a1)]))) (fun t ht => XS.aloadN X0.here hx rfl (hb hby own_d8_0) rfl rfl ht) ?_
  obtain ⟨T52, X52, e52, st52⟩ := initO X0 hx hZ hown (hw _ (List.mem_of_getElem? (i := 42) rfl)) (hw _ (List.mem_of_getElem? (i := 28) rfl)) (hw _ (List.mem_of_getElem? (i := 29) rfl)) e0 (g := (mkF m 1 #[.val (.ref a1), .val (.ref b1), .unset, .unset, .unset, .unset, .unset, .unset] [(.ref a1)])) rfl (by rw [hml]; rfl) rfl (hb hby own_d8_1) (by decide) (W := 0) (by show 2 * 0 + _ ≤ _; exact Nat.le_of_eq rfl) (by decide)
  refine own_step (U' := (T52.setTop (mkF m 4 #[.val (.ref a1), .val (.ref b1), .unset, .unset, .unset, .unset, .unset, .unset] []))) (fun t ht => st52 _ ht) ?_
  refine own_step (U' := (T52.setTop (mkF m 5 #[.val (.ref a1), .val (.ref b1), .unset, .unset, .unset, .unset, .unset, .unset] [(.ref a1)]))) (fun t ht => XS.aloadN X52.here hx rfl (hb hby own_d8_4) rfl rfl ht) ?_
  refine own_step (U' := (T52.setTop (mkF m 6 #[.val (.ref a1), .val (.ref b1), .unset, .unset, .unset, .unset, .unset, .unset] [(.ref b1), (.ref a1)]))) (fun t ht => XS.aloadN X52.here hx rfl (hb hby own_d8_5) rfl rfl ht) ?_
  obtain ⟨T53, h53, X53, e53, W53, st53⟩ := putF X52 hx hZ hown (host := "") (Or.inl (hw _ (List.mem_of_getElem? (i := 43) rfl))) Via.refl e52 f1 Ea (Or.inr ⟨(hw _ (List.mem_of_getElem? (i := 44) rfl)), rfl, hnm⟩) (hw _ (List.mem_of_getElem? (i := 37) rfl)) (ty := (.array .char)) (by decide) rfl rfl (g := (mkF m 6 #[.val (.ref a1), .val (.ref b1), .unset, .unset, .unset, .unset, .unset, .unset] [(.ref b1), (.ref a1)])) rfl rfl (hb hby own_d8_6)
  have f53_1 := f2.other W53 (Or.inr (slot_ne (Or.inr (hw _ (List.mem_of_getElem? (i := 46) rfl))) (Or.inr (hw _ (List.mem_of_getElem? (i := 44) rfl))) (by decide) (t := .int) (t' := (.array .char)) (by decide) (by decide)))
  have f53_2 := f3.other W53 (Or.inr (slot_ne (Or.inr (hw _ (List.mem_of_getElem? (i := 52) rfl))) (Or.inr (hw _ (List.mem_of_getElem? (i := 44) rfl))) (by decide) (t := .int) (t' := (.array .char)) (by decide) (by decide)))
  have f53_3 := f4.other W53 (Or.inr (slot_ne (Or.inr (hw _ (List.mem_of_getElem? (i := 57) rfl))) (Or.inr (hw _ (List.mem_of_getElem? (i := 44) rfl))) (by decide) (t := .int) (t' := (.array .char)) (by decide) (by decide)))
  have f53_4 := f5.other W53 (Or.inr (slot_ne (Or.inr (hw _ (List.mem_of_getElem? (i := 59) rfl))) (Or.inr (hw _ (List.mem_of_getElem? (i := 44) rfl))) (by decide) (t := .boolean) (t' := (.array .char)) (by decide) (by decide)))
  have f53_5 := f6.other W53 (Or.inr (slot_ne (Or.inr (hw _ (List.mem_of_getElem? (i := 61) rfl))) (Or.inr (hw _ (List.mem_of_getElem? (i := 44) rfl))) (by decide) (t := .long) (t' := (.array .char)) (by decide) (by decide)))
  have f53_6 := f7.other W53 (Or.inr (slot_ne (Or.inr (hw _ (List.mem_of_getElem? (i := 63) rfl))) (Or.inr (hw _ (List.mem_of_getElem? (i := 44) rfl))) (by decide) (t := .long) (t' := (.array .char)) (by decide) (by decide)))
  have f53_7 := f8.other W53 (Or.inr (slot_ne (Or.inr (hw _ (List.mem_of_getElem? (i := 68) rfl))) (Or.inr (hw _ (List.mem_of_getElem? (i := 44) rfl))) (by decide) (t := .long) (t' := (.array .char)) (by decide) (by decide)))
  have f53_8 := f9.other W53 (Or.inr (slot_ne (Or.inr (hw _ (List.mem_of_getElem? (i := 73) rfl))) (Or.inr (hw _ (List.mem_of_getElem? (i := 44) rfl))) (by decide) (t := .long) (t' := (.array .char)) (by decide) (by decide)))
  have f53_9 := Ea.wr W53
  have f53_10 := Va.other W53 ne_b1_a1
  have F53 := f1.same W53
  have N53 := Fr.snoc X53 N0 g_a1
  have K53 : Keep h0 h53 [a1] := K0.wr W53 (Or.inl (by simp))
  refine own_step (U' := (T53.setTop (mkF m 9 #[.val (.ref a1), .val (.ref b1), .unset, .unset, .unset, .unset, .unset, .unset] []))) (fun t ht => st53 _ ht) ?_
  refine own_step (U' := (T53.setTop (mkF m 10 #[.val (.ref a1), .val (.ref b1), .unset, .unset, .unset, .unset, .unset, .unset] [(.ref a1)]))) (fun t ht => XS.aloadN X53.here hx rfl (hb hby own_d8_9) rfl rfl ht) ?_
  refine own_step (U' := (T53.setTop (mkF m 11 #[.val (.ref a1), .val (.ref b1), .unset, .unset, .unset, .unset, .unset, .unset] [(.ref b1), (.ref a1)]))) (fun t ht => XS.aloadN X53.here hx rfl (hb hby own_d8_10) rfl rfl ht) ?_
  obtain ⟨cl54, Ar54, q54, S54, N54_, H54, G54⟩ := (id f53_10)
  refine own_step (U' := (T53.setTop (mkF m 12 #[.val (.ref a1), .val (.ref b1), .unset, .unset, .unset, .unset, .unset, .unset] [(.int mm), (.ref a1)]))) (fun t ht => X53.arraylength hx (own_at e53 Ar54.1) (State.isArrayOf_alike hZ.alike Ar54.2.1) (g := (mkF m 11 #[.val (.ref a1), .val (.ref b1), .unset, .unset, .unset, .unset, .unset, .unset] [(.ref b1), (.ref a1)])) rfl rfl (hb hby own_d8_11) _ (by rw [len_of S54 N54_]; exact ht)) ?_
  obtain ⟨T55, h55, X55, e55, W55, st55⟩ := putF X53 hx hZ hown (host := "") (Or.inl (hw _ (List.mem_of_getElem? (i := 45) rfl))) Via.refl e53 f53_1 f53_9 (Or.inr ⟨(hw _ (List.mem_of_getElem? (i := 46) rfl)), rfl, hnm⟩) (hw _ (List.mem_of_getElem? (i := 37) rfl)) (ty := .int) (by decide) rfl rfl (g := (mkF m 12 #[.val (.ref a1), .val (.ref b1), .unset, .unset, .unset, .unset, .unset, .unset] [(.int mm), (.ref a1)])) rfl rfl (hb hby own_d8_12)
  have f55_1 := f53_2.other W55 (Or.inr (slot_ne (Or.inr (hw _ (List.mem_of_getElem? (i := 52) rfl))) (Or.inr (hw _ (List.mem_of_getElem? (i := 46) rfl))) (by decide) (t := .int) (t' := .int) (by decide) (by decide)))
  have f55_2 := f53_3.other W55 (Or.inr (slot_ne (Or.inr (hw _ (List.mem_of_getElem? (i := 57) rfl))) (Or.inr (hw _ (List.mem_of_getElem? (i := 46) rfl))) (by decide) (t := .int) (t' := .int) (by decide) (by decide)))
  have f55_3 := f53_4.other W55 (Or.inr (slot_ne (Or.inr (hw _ (List.mem_of_getElem? (i := 59) rfl))) (Or.inr (hw _ (List.mem_of_getElem? (i := 46) rfl))) (by decide) (t := .boolean) (t' := .int) (by decide) (by decide)))
  have f55_4 := f53_5.other W55 (Or.inr (slot_ne (Or.inr (hw _ (List.mem_of_getElem? (i := 61) rfl))) (Or.inr (hw _ (List.mem_of_getElem? (i := 46) rfl))) (by decide) (t := .long) (t' := .int) (by decide) (by decide)))
  have f55_5 := f53_6.other W55 (Or.inr (slot_ne (Or.inr (hw _ (List.mem_of_getElem? (i := 63) rfl))) (Or.inr (hw _ (List.mem_of_getElem? (i := 46) rfl))) (by decide) (t := .long) (t' := .int) (by decide) (by decide)))
  have f55_6 := f53_7.other W55 (Or.inr (slot_ne (Or.inr (hw _ (List.mem_of_getElem? (i := 68) rfl))) (Or.inr (hw _ (List.mem_of_getElem? (i := 46) rfl))) (by decide) (t := .long) (t' := .int) (by decide) (by decide)))
  have f55_7 := f53_8.other W55 (Or.inr (slot_ne (Or.inr (hw _ (List.mem_of_getElem? (i := 73) rfl))) (Or.inr (hw _ (List.mem_of_getElem? (i := 46) rfl))) (by decide) (t := .long) (t' := .int) (by decide) (by decide)))
  have f55_8 := f53_9.wr W55
  have f55_9 := f53_10.other W55 ne_b1_a1
  have f55_10 := F53.other W55 (Or.inr (slot_ne (Or.inr (hw _ (List.mem_of_getElem? (i := 44) rfl))) (Or.inr (hw _ (List.mem_of_getElem? (i := 46) rfl))) (by decide) (t := (.array .char)) (t' := .int) (by decide) (by decide)))
  have F55 := f53_1.same W55
  have N55 := Fr.snoc X55 N53 g_a1
  have K55 : Keep h0 h55 [a1] := K53.wr W55 (Or.inl (by simp))
  refine own_step (U' := (T55.setTop (mkF m 15 #[.val (.ref a1), .val (.ref b1), .unset, .unset, .unset, .unset, .unset, .unset] []))) (fun t ht => st55 _ ht) ?_
  refine own_step (U' := (T55.setTop (mkF m 16 #[.val (.ref a1), .val (.ref b1), .unset, .unset, .unset, .unset, .unset, .unset] [(.int (0 : Int32))]))) (fun t ht => XS.iconst X55.here hx rfl (hb hby own_d8_15) ht) ?_
  refine own_step (U' := (T55.setTop (mkF m 17 #[.val (.ref a1), .val (.ref b1), .val (.int (0 : Int32)), .unset, .unset, .unset, .unset, .unset] []))) (fun t ht => XS.istoreN X55.here hx rfl (hb hby own_d8_16) rfl (l' := #[.val (.ref a1), .val (.ref b1), .val (.int (0 : Int32)), .unset, .unset, .unset, .unset, .unset]) rfl ht) ?_
  refine own_step (U' := (T55.setTop (mkF m 18 #[.val (.ref a1), .val (.ref b1), .val (.int (0 : Int32)), .unset, .unset, .unset, .unset, .unset] [(.ref b1)]))) (fun t ht => XS.aloadN X55.here hx rfl (hb hby own_d8_17) rfl rfl ht) ?_
  refine own_step (U' := (T55.setTop (mkF m 19 #[.val (.ref a1), .val (.ref b1), .val (.int (0 : Int32)), .val (.ref b1), .unset, .unset, .unset, .unset] []))) (fun t ht => XS.astoreN X55.here hx rfl (hb hby own_d8_18) rfl rfl (l' := #[.val (.ref a1), .val (.ref b1), .val (.int (0 : Int32)), .val (.ref b1), .unset, .unset, .unset, .unset]) rfl ht) ?_
  refine own_step (U' := (T55.setTop (mkF m 20 #[.val (.ref a1), .val (.ref b1), .val (.int (0 : Int32)), .val (.ref b1), .unset, .unset, .unset, .unset] [(.ref b1)]))) (fun t ht => XS.aloadN X55.here hx rfl (hb hby own_d8_19) rfl rfl ht) ?_
  obtain ⟨cl56, Ar56, q56, S56, N56_, H56, G56⟩ := (id f55_9)
  refine own_step (U' := (T55.setTop (mkF m 21 #[.val (.ref a1), .val (.ref b1), .val (.int (0 : Int32)), .val (.ref b1), .unset, .unset, .unset, .unset] [(.int mm)]))) (fun t ht => X55.arraylength hx (own_at e55 Ar56.1) (State.isArrayOf_alike hZ.alike Ar56.2.1) (g := (mkF m 20 #[.val (.ref a1), .val (.ref b1), .val (.int (0 : Int32)), .val (.ref b1), .unset, .unset, .unset, .unset] [(.ref b1)])) rfl rfl (hb hby own_d8_20) _ (by rw [len_of S56 N56_]; exact ht)) ?_
  refine own_step (U' := (T55.setTop (mkF m 23 #[.val (.ref a1), .val (.ref b1), .val (.int (0 : Int32)), .val (.ref b1), .val (.int mm), .unset, .unset, .unset] []))) (fun t ht => XS.istore X55.here hx rfl (hb hby own_d8_21) rfl (l' := #[.val (.ref a1), .val (.ref b1), .val (.int (0 : Int32)), .val (.ref b1), .val (.int mm), .unset, .unset, .unset]) rfl ht) ?_
  refine own_step (U' := (T55.setTop (mkF m 24 #[.val (.ref a1), .val (.ref b1), .val (.int (0 : Int32)), .val (.ref b1), .val (.int mm), .unset, .unset, .unset] [(.int (0 : Int32))]))) (fun t ht => XS.iconst X55.here hx rfl (hb hby own_d8_23) ht) ?_
  refine own_step (U' := (T55.setTop (mkF m 26 #[.val (.ref a1), .val (.ref b1), .val (.int (0 : Int32)), .val (.ref b1), .val (.int mm), .val (.int (0 : Int32)), .unset, .unset] []))) (fun t ht => XS.istore X55.here hx rfl (hb hby own_d8_24) rfl (l' := #[.val (.ref a1), .val (.ref b1), .val (.int (0 : Int32)), .val (.ref b1), .val (.int mm), .val (.int (0 : Int32)), .unset, .unset]) rfl ht) ?_
  refine own_step (U' := (T55.setTop (mkF m 28 #[.val (.ref a1), .val (.ref b1), .val (.int (0 : Int32)), .val (.ref b1), .val (.int mm), .val (.int (0 : Int32)), .unset, .unset] [(.int (0 : Int32))]))) (fun t ht => XS.iload X55.here hx rfl (hb hby own_d8_26) rfl ht) ?_
  refine own_step (U' := (T55.setTop (mkF m 30 #[.val (.ref a1), .val (.ref b1), .val (.int (0 : Int32)), .val (.ref b1), .val (.int mm), .val (.int (0 : Int32)), .unset, .unset] [(.int mm), (.int (0 : Int32))]))) (fun t ht => XS.iload X55.here hx rfl (hb hby own_d8_28) rfl ht) ?_
  refine own_step (U' := (T55.setTop (mkF m 33 #[.val (.ref a1), .val (.ref b1), .val (.int (0 : Int32)), .val (.ref b1), .val (.int mm), .val (.int (0 : Int32)), .unset, .unset] []))) (fun t ht => XS.icmpNo X55.here hx rfl (hb hby own_d8_30) rfl (XT.ii_ge_f (((own_lti (i := 0) rfl hm).mpr (by omega)) : (0 : Int32) < mm)) ht) ?_
  refine own_step (U' := (T55.setTop (mkF m 34 #[.val (.ref a1), .val (.ref b1), .val (.int (0 : Int32)), .val (.ref b1), .val (.int mm), .val (.int (0 : Int32)), .unset, .unset] [(.ref b1)]))) (fun t ht => XS.aloadN X55.here hx rfl (hb hby own_d8_33) rfl rfl ht) ?_
  refine own_step (U' := (T55.setTop (mkF m 36 #[.val (.ref a1), .val (.ref b1), .val (.int (0 : Int32)), .val (.ref b1), .val (.int mm), .val (.int (0 : Int32)), .unset, .unset] [(.int (0 : Int32)), (.ref b1)]))) (fun t ht => XS.iload X55.here hx rfl (hb hby own_d8_34) rfl ht) ?_
  obtain ⟨cl57, Ar57, q57, S57, N57_, H57, G57⟩ := (id f55_9)
  have hin57 : ¬ ((0 : Int32) < 0 ∨ cl57.slots.size ≤ ((0 : Int32)).toNatClampNeg) := inb_of S57 (own_inN (i := 0) rfl hm (by omega))
  have hat57 : cl57.slots[((0 : Int32)).toNatClampNeg]? = some (.int (own_g cs (0 : Int32))) := Has.at H57 hin57 (own_ldI _ _)
  refine own_step (U' := (T55.setTop (mkF m 37 #[.val (.ref a1), .val (.ref b1), .val (.int (0 : Int32)), .val (.ref b1), .val (.int mm), .val (.int (0 : Int32)), .unset, .unset] [(.int (own_g cs (0 : Int32)))]))) (fun t ht => X55.caload hx (j := (0 : Int32)) (v := (.int (own_g cs (0 : Int32)))) (own_at e55 Ar57.1) (State.isArrayOf_alike hZ.alike Ar57.2.1) Ar57.2.2 hin57 hat57 (g := (mkF m 36 #[.val (.ref a1), .val (.ref b1), .val (.int (0 : Int32)), .val (.ref b1), .val (.int mm), .val (.int (0 : Int32)), .unset, .unset] [(.int (0 : Int32)), (.ref b1)])) rfl rfl (hb hby own_d8_36) _ ht) ?_
  refine own_step (U' := (T55.setTop (mkF m 39 #[.val (.ref a1), .val (.ref b1), .val (.int (0 : Int32)), .val (.ref b1), .val (.int mm), .val (.int (0 : Int32)), .val (.int (own_g cs (0 : Int32))), .unset] []))) (fun t ht => XS.istore X55.here hx rfl (hb hby own_d8_37) rfl (l' := #[.val (.ref a1), .val (.ref b1), .val (.int (0 : Int32)), .val (.ref b1), .val (.int mm), .val (.int (0 : Int32)), .val (.int (own_g cs (0 : Int32))), .unset]) rfl ht) ?_
  refine own_step (U' := (T55.setTop (mkF m 40 #[.val (.ref a1), .val (.ref b1), .val (.int (0 : Int32)), .val (.ref b1), .val (.int mm), .val (.int (0 : Int32)), .val (.int (own_g cs (0 : Int32))), .unset] [(.int (0 : Int32))]))) (fun t ht => XS.iloadN X55.here hx rfl (hb hby own_d8_39) rfl ht) ?_
  refine own_step (U' := (T55.setTop (mkF m 42 #[.val (.ref a1), .val (.ref b1), .val (.int (0 : Int32)), .val (.ref b1), .val (.int mm), .val (.int (0 : Int32)), .val (.int (own_g cs (0 : Int32))), .unset] [(.int (own_g cs (0 : Int32))), (.int (0 : Int32))]))) (fun t ht => XS.iload X55.here hx rfl (hb hby own_d8_40) rfl ht) ?_
  refine own_step (U' := (T55.setTop (mkF m 43 #[.val (.ref a1), .val (.ref b1), .val (.int (0 : Int32)), .val (.ref b1), .val (.int mm), .val (.int (0 : Int32)), .val (.int (own_g cs (0 : Int32))), .unset] [(.int ((0 : Int32) ||| (own_g cs (0 : Int32))))]))) (fun t ht => XT.ior X55.here hx rfl (hb hby own_d8_42) rfl ht) ?_
  refine own_step (U' := (T55.setTop (mkF m 44 #[.val (.ref a1), .val (.ref b1), .val (.int ((0 : Int32) ||| (own_g cs (0 : Int32)))), .val (.ref b1), .val (.int mm), .val (.int (0 : Int32)), .val (.int (own_g cs (0 : Int32))), .unset] []))) (fun t ht => XS.istoreN X55.here hx rfl (hb hby own_d8_43) rfl (l' := #[.val (.ref a1), .val (.ref b1), .val (.int ((0 : Int32) ||| (own_g cs (0 : Int32)))), .val (.ref b1), .val (.int mm), .val (.int (0 : Int32)), .val (.int (own_g cs (0 : Int32))), .unset]) rfl ht) ?_
  refine own_step (U' := (T55.setTop (mkF m 47 #[.val (.ref a1), .val (.ref b1), .val (.int ((0 : Int32) ||| (own_g cs (0 : Int32)))), .val (.ref b1), .val (.int mm), .val (.int ((0 : Int32) + (1 : Int32))), .val (.int (own_g cs (0 : Int32))), .unset] []))) (fun t ht => XT.iincV X55.here hx rfl (1 : Int32) (hb hby own_d8_44) rfl rfl (l' := #[.val (.ref a1), .val (.ref b1), .val (.int ((0 : Int32) ||| (own_g cs (0 : Int32)))), .val (.ref b1), .val (.int mm), .val (.int ((0 : Int32) + (1 : Int32))), .val (.int (own_g cs (0 : Int32))), .unset]) rfl ht) ?_
  refine own_step (U' := (T55.setTop (mkF m 26 #[.val (.ref a1), .val (.ref b1), .val (.int ((0 : Int32) ||| (own_g cs (0 : Int32)))), .val (.ref b1), .val (.int mm), .val (.int ((0 : Int32) + (1 : Int32))), .val (.int (own_g cs (0 : Int32))), .unset] []))) (fun t ht => XS.goto X55.here hx rfl (pc0 := 47) (pc' := 26) rfl (hb hby own_d8_47) (by decide) (by decide) ht) ?_
  have loop1 : ∀ (k i : Nat) (acc i5 c6 : Int32) (hi5 : i5.toInt = (i : Int)) (hik : i + k = M), own_Go p e below s ({ frames := 1, cells := 0, slots := 0, locals := 17 } : Room).cells ({ frames := 1, cells := 0, slots := 0, locals := 17 } : Room).slots (own_Q_fli Z a1 b1 ka cs mm M h0 n0) (T55.setTop (mkF m 26 #[.val (.ref a1), .val (.ref b1), .val (.int acc), .val (.ref b1), .val (.int mm), .val (.int i5), .val (.int c6), .unset] [])) := by
    intro k
    induction k with
    | zero =>
      intro i acc i5 c6 hi5 hik
      refine own_step (U' := (T55.setTop (mkF m 28 #[.val (.ref a1), .val (.ref b1), .val (.int acc), .val (.ref b1), .val (.int mm), .val (.int i5), .val (.int c6), .unset] [(.int i5)]))) (fun t ht => XS.iload X55.here hx rfl (hb hby own_d8_26) rfl ht) ?_
      refine own_step (U' := (T55.setTop (mkF m 30 #[.val (.ref a1), .val (.ref b1), .val (.int acc), .val (.ref b1), .val (.int mm), .val (.int i5), .val (.int c6), .unset] [(.int mm), (.int i5)]))) (fun t ht => XS.iload X55.here hx rfl (hb hby own_d8_28) rfl ht) ?_
      refine own_step (U' := (T55.setTop (mkF m 50 #[.val (.ref a1), .val (.ref b1), .val (.int acc), .val (.ref b1), .val (.int mm), .val (.int i5), .val (.int c6), .unset] []))) (fun t ht => XS.icmpYes X55.here hx rfl (pc0 := 30) (pc' := 50) rfl (hb hby own_d8_30) rfl (XT.ii_ge_t ((fun q => absurd ((own_lti hi5 hm).mp q) (by omega)) : ¬ (i5 < mm))) (by decide) (by decide) ht) ?_
      refine own_step (U' := (T55.setTop (mkF m 51 #[.val (.ref a1), .val (.ref b1), .val (.int acc), .val (.ref b1), .val (.int mm), .val (.int i5), .val (.int c6), .unset] [(.long (0 : Int64))]))) (fun t ht => XT.lconstV X55.here hx rfl (0 : Int64) (hb hby own_d8_50) rfl ht) ?_
      refine own_step (U' := (T55.setTop (mkF m 52 #[.val (.ref a1), .val (.ref b1), .val (.int acc), .val (.long (0 : Int64)), .second, .val (.int i5), .val (.int c6), .unset] []))) (fun t ht => XT.lstoreN X55.here hx rfl (hb hby own_d8_51) rfl (l' := #[.val (.ref a1), .val (.ref b1), .val (.int acc), .val (.long (0 : Int64)), .second, .val (.int i5), .val (.int c6), .unset]) rfl ht) ?_
      refine own_step (U' := (T55.setTop (mkF m 53 #[.val (.ref a1), .val (.ref b1), .val (.int acc), .val (.long (0 : Int64)), .second, .val (.int i5), .val (.int c6), .unset] [(.ref a1)]))) (fun t ht => XS.aloadN X55.here hx rfl (hb hby own_d8_52) rfl rfl ht) ?_
      obtain ⟨T58, X58, e58, st58⟩ := getF X55 hx hZ hown (host := "") (Or.inl (hw _ (List.mem_of_getElem? (i := 45) rfl))) Via.refl e55 F55 (g := (mkF m 53 #[.val (.ref a1), .val (.ref b1), .val (.int acc), .val (.long (0 : Int64)), .second, .val (.int i5), .val (.int c6), .unset] [(.ref a1)])) rfl rfl (hb hby own_d8_53)
      refine own_step (U' := (T58.setTop (mkF m 56 #[.val (.ref a1), .val (.ref b1), .val (.int acc), .val (.long (0 : Int64)), .second, .val (.int i5), .val (.int c6), .unset] [(.int mm)]))) (fun t ht => st58 _ ht) ?_
      refine own_step (U' := (T58.setTop (mkF m 58 #[.val (.ref a1), .val (.ref b1), .val (.int acc), .val (.long (0 : Int64)), .second, .val (.int i5), .val (.int c6), .unset] [(.int (8 : Int32)), (.int mm)]))) (fun t ht => XS.bipush X58.here hx rfl (hb hby own_d8_56) ht) ?_
      obtain ⟨_, _, ⟨T59, L59, k59, n59⟩, -, X59, ⟨Lc59, hQ59, l59, y59, z59⟩, st59⟩ := Jvm.LawKit.callS X58 hx (y := (⟨"java/lang/Math", "min", "(II)I"⟩ : MethodName)) hown (mvT hZ (hw _ (List.mem_of_getElem? (i := 47) rfl))) (mvT hZ (hw _ (List.mem_of_getElem? (i := 48) rfl))) (mvT hZ (hw _ (List.mem_of_getElem? (i := 49) rfl))) (mvT hZ (hw _ (List.mem_of_getElem? (i := 50) rfl))) (by decide) (backOf (W := 0) (own_m_min l Z a0 hw [] (mm) ((8 : Int32)) h55 n0 (Nat.le_trans Z0 K55.1) ) hZ (hw _ (List.mem_of_getElem? (i := 50) rfl)) (hw _ (List.mem_of_getElem? (i := 49) rfl)) (by decide) (by decide)) (g := (mkF m 58 #[.val (.ref a1), .val (.ref b1), .val (.int acc), .val (.long (0 : Int64)), .second, .val (.int i5), .val (.int c6), .unset] [(.int (8 : Int32)), (.int mm)])) rfl (by rw [hml]; rfl) (argsL := [(.int mm), (.int (8 : Int32))]) (rest := []) (lenOf own_pd2 rfl) rfl (by show 2 * 0 + _ ≤ _; exact Nat.le_of_eq rfl) (hb hby own_d8_58) (fun _ _ => ⟨rfl, e58, (by decide : 0 + 0 ≤ _), (by decide : 0 + 0 ≤ _)⟩)
      dsimp only [Pt.U, Pt.locs, Pt.cells, Pt.slots] at X59 l59 y59 z59 st59 hQ59
      subst l59 y59 z59
      obtain ⟨rfl, Nq59, Kq59⟩ := hQ59
      have N59 := Fr.app N55 Nq59
      have e59 : T59.heap = h55 := Kq59
      refine own_step (U' := (T59.setTop (mkF m 61 #[.val (.ref a1), .val (.ref b1), .val (.int acc), .val (.long (0 : Int64)), .second, .val (.int i5), .val (.int c6), .unset] [(.int (own_min mm (8 : Int32)))]))) (fun t ht => st59 _ ht) ?_
      refine own_step (U' := (T59.setTop (mkF m 62 #[.val (.ref a1), .val (.ref b1), .val (.int acc), .val (.long (0 : Int64)), .second, .val (.int i5), .val (.int c6), .unset] [(.int (1 : Int32)), (.int (own_min mm (8 : Int32)))]))) (fun t ht => XS.iconst X59.here hx rfl (hb hby own_d8_61) ht) ?_
      refine own_step (U' := (T59.setTop (mkF m 63 #[.val (.ref a1), .val (.ref b1), .val (.int acc), .val (.long (0 : Int64)), .second, .val (.int i5), .val (.int c6), .unset] [(.int ((own_min mm (8 : Int32)) - (1 : Int32)))]))) (fun t ht => XS.isub X59.here hx rfl (hb hby own_d8_62) rfl ht) ?_
      refine own_step (U' := (T59.setTop (mkF m 65 #[.val (.ref a1), .val (.ref b1), .val (.int acc), .val (.long (0 : Int64)), .second, .val (.int ((own_min mm (8 : Int32)) - (1 : Int32))), .val (.int c6), .unset] []))) (fun t ht => XS.istore X59.here hx rfl (hb hby own_d8_63) rfl (l' := #[.val (.ref a1), .val (.ref b1), .val (.int acc), .val (.long (0 : Int64)), .second, .val (.int ((own_min mm (8 : Int32)) - (1 : Int32))), .val (.int c6), .unset]) rfl ht) ?_
      have loop2 : ∀ (k : Nat) (acc3 : Int64) (j5 : Int32) (hj5 : j5.toInt = (k : Int) - 1) (hkM : k ≤ M), own_Go p e below s ({ frames := 1, cells := 0, slots := 0, locals := 17 } : Room).cells ({ frames := 1, cells := 0, slots := 0, locals := 17 } : Room).slots (own_Q_fli Z a1 b1 ka cs mm M h0 n0) (T59.setTop (mkF m 65 #[.val (.ref a1), .val (.ref b1), .val (.int acc), .val (.long acc3), .second, .val (.int j5), .val (.int c6), .unset] [])) := by
        intro k
        induction k with
        | zero =>
          intro acc3 j5 hj5 hkM
          refine own_step (U' := (T59.setTop (mkF m 67 #[.val (.ref a1), .val (.ref b1), .val (.int acc), .val (.long acc3), .second, .val (.int j5), .val (.int c6), .unset] [(.int j5)]))) (fun t ht => XS.iload X59.here hx rfl (hb hby own_d8_65) rfl ht) ?_
          refine own_step (U' := (T59.setTop (mkF m 91 #[.val (.ref a1), .val (.ref b1), .val (.int acc), .val (.long acc3), .second, .val (.int j5), .val (.int c6), .unset] []))) (fun t ht => XS.ifYes X59.here hx rfl (pc0 := 67) (pc' := 91) rfl (hb hby own_d8_67) rfl (XT.i0_lt_t (((own_ltI hj5 (b := 0) rfl).mpr (by omega)) : j5 < 0)) (by decide) (by decide) ht) ?_
          refine own_step (U' := (T59.setTop (mkF m 92 #[.val (.ref a1), .val (.ref b1), .val (.int acc), .val (.long acc3), .second, .val (.int j5), .val (.int c6), .unset] [(.long (0 : Int64))]))) (fun t ht => XT.lconstV X59.here hx rfl (0 : Int64) (hb hby own_d8_91) rfl ht) ?_
          refine own_step (U' := (T59.setTop (mkF m 94 #[.val (.ref a1), .val (.ref b1), .val (.int acc), .val (.long acc3), .second, .val (.long (0 : Int64)), .second, .unset] []))) (fun t ht => XT.lstore X59.here hx rfl (hb hby own_d8_92) rfl (l' := #[.val (.ref a1), .val (.ref b1), .val (.int acc), .val (.long acc3), .second, .val (.long (0 : Int64)), .second, .unset]) rfl ht) ?_
          refine own_step (U' := (T59.setTop (mkF m 95 #[.val (.ref a1), .val (.ref b1), .val (.int acc), .val (.long acc3), .second, .val (.long (0 : Int64)), .second, .unset] [(.ref a1)]))) (fun t ht => XS.aloadN X59.here hx rfl (hb hby own_d8_94) rfl rfl ht) ?_
          obtain ⟨T60, X60, e60, st60⟩ := getF X59 hx hZ hown (host := "") (Or.inl (hw _ (List.mem_of_getElem? (i := 45) rfl))) Via.refl e59 F55 (g := (mkF m 95 #[.val (.ref a1), .val (.ref b1), .val (.int acc), .val (.long acc3), .second, .val (.long (0 : Int64)), .second, .unset] [(.ref a1)])) rfl rfl (hb hby own_d8_95)
          refine own_step (U' := (T60.setTop (mkF m 98 #[.val (.ref a1), .val (.ref b1), .val (.int acc), .val (.long acc3), .second, .val (.long (0 : Int64)), .second, .unset] [(.int mm)]))) (fun t ht => st60 _ ht) ?_
          refine own_step (U' := (T60.setTop (mkF m 100 #[.val (.ref a1), .val (.ref b1), .val (.int acc), .val (.long acc3), .second, .val (.long (0 : Int64)), .second, .unset] [(.int (16 : Int32)), (.int mm)]))) (fun t ht => XS.bipush X60.here hx rfl (hb hby own_d8_98) ht) ?_
          obtain ⟨_, _, ⟨T61, L61, k61, n61⟩, -, X61, ⟨Lc61, hQ61, l61, y61, z61⟩, st61⟩ := Jvm.LawKit.callS X60 hx (y := (⟨"java/lang/Math", "min", "(II)I"⟩ : MethodName)) hown (mvT hZ (hw _ (List.mem_of_getElem? (i := 47) rfl))) (mvT hZ (hw _ (List.mem_of_getElem? (i := 48) rfl))) (mvT hZ (hw _ (List.mem_of_getElem? (i := 49) rfl))) (mvT hZ (hw _ (List.mem_of_getElem? (i := 50) rfl))) (by decide) (backOf (W := 0) (own_m_min l Z a0 hw [] (mm) ((16 : Int32)) h55 n0 (Nat.le_trans Z0 K55.1) ) hZ (hw _ (List.mem_of_getElem? (i := 50) rfl)) (hw _ (List.mem_of_getElem? (i := 49) rfl)) (by decide) (by decide)) (g := (mkF m 100 #[.val (.ref a1), .val (.ref b1), .val (.int acc), .val (.long acc3), .second, .val (.long (0 : Int64)), .second, .unset] [(.int (16 : Int32)), (.int mm)])) rfl (by rw [hml]; rfl) (argsL := [(.int mm), (.int (16 : Int32))]) (rest := []) (lenOf own_pd2 rfl) rfl (by show 2 * 0 + _ ≤ _; exact Nat.le_of_eq rfl) (hb hby own_d8_100) (fun _ _ => ⟨rfl, e60, (by decide : 0 + 0 ≤ _), (by decide : 0 + 0 ≤ _)⟩)
          dsimp only [Pt.U, Pt.locs, Pt.cells, Pt.slots] at X61 l61 y61 z61 st61 hQ61
          subst l61 y61 z61
          obtain ⟨rfl, Nq61, Kq61⟩ := hQ61
          have N61 := Fr.app N59 Nq61
          have e61 : T61.heap = h55 := Kq61
          refine own_step (U' := (T61.setTop (mkF m 103 #[.val (.ref a1), .val (.ref b1), .val (.int acc), .val (.long acc3), .second, .val (.long (0 : Int64)), .second, .unset] [(.int (own_min mm (16 : Int32)))]))) (fun t ht => st61 _ ht) ?_
          refine own_step (U' := (T61.setTop (mkF m 104 #[.val (.ref a1), .val (.ref b1), .val (.int acc), .val (.long acc3), .second, .val (.long (0 : Int64)), .second, .unset] [(.int (1 : Int32)), (.int (own_min mm (16 : Int32)))]))) (fun t ht => XS.iconst X61.here hx rfl (hb hby own_d8_103) ht) ?_
          refine own_step (U' := (T61.setTop (mkF m 105 #[.val (.ref a1), .val (.ref b1), .val (.int acc), .val (.long acc3), .second, .val (.long (0 : Int64)), .second, .unset] [(.int ((own_min mm (16 : Int32)) - (1 : Int32)))]))) (fun t ht => XS.isub X61.here hx rfl (hb hby own_d8_104) rfl ht) ?_
          refine own_step (U' := (T61.setTop (mkF m 107 #[.val (.ref a1), .val (.ref b1), .val (.int acc), .val (.long acc3), .second, .val (.long (0 : Int64)), .second, .val (.int ((own_min mm (16 : Int32)) - (1 : Int32)))] []))) (fun t ht => XS.istore X61.here hx rfl (hb hby own_d8_105) rfl (l' := #[.val (.ref a1), .val (.ref b1), .val (.int acc), .val (.long acc3), .second, .val (.long (0 : Int64)), .second, .val (.int ((own_min mm (16 : Int32)) - (1 : Int32)))]) rfl ht) ?_
          refine own_step (U' := (T61.setTop (mkF m 109 #[.val (.ref a1), .val (.ref b1), .val (.int acc), .val (.long acc3), .second, .val (.long (0 : Int64)), .second, .val (.int ((own_min mm (16 : Int32)) - (1 : Int32)))] [(.int ((own_min mm (16 : Int32)) - (1 : Int32)))]))) (fun t ht => XS.iload X61.here hx rfl (hb hby own_d8_107) rfl ht) ?_
          refine own_step (U' := (T61.setTop (mkF m 111 #[.val (.ref a1), .val (.ref b1), .val (.int acc), .val (.long acc3), .second, .val (.long (0 : Int64)), .second, .val (.int ((own_min mm (16 : Int32)) - (1 : Int32)))] [(.int (8 : Int32)), (.int ((own_min mm (16 : Int32)) - (1 : Int32)))]))) (fun t ht => XS.bipush X61.here hx rfl (hb hby own_d8_109) ht) ?_
          refine own_step (U' := (T61.setTop (mkF m 137 #[.val (.ref a1), .val (.ref b1), .val (.int acc), .val (.long acc3), .second, .val (.long (0 : Int64)), .second, .val (.int ((own_min mm (16 : Int32)) - (1 : Int32)))] []))) (fun t ht => XS.icmpYes X61.here hx rfl (pc0 := 111) (pc' := 137) rfl (hb hby own_d8_111) rfl (XT.ii_lt_t (((own_lti (by rw [own_minN hm (b := 16) rfl (by omega)]; exact own_pre1 hm h1 h8) (e := 8) rfl).mpr (by omega)) : ((own_min mm (16 : Int32)) - (1 : Int32)) < (8 : Int32))) (by decide) (by decide) ht) ?_
          refine own_step (U' := (T61.setTop (mkF m 138 #[.val (.ref a1), .val (.ref b1), .val (.int acc), .val (.long acc3), .second, .val (.long (0 : Int64)), .second, .val (.int ((own_min mm (16 : Int32)) - (1 : Int32)))] [(.ref a1)]))) (fun t ht => XS.aloadN X61.here hx rfl (hb hby own_d8_137) rfl rfl ht) ?_
          obtain ⟨T62, X62, e62, st62⟩ := getF X61 hx hZ hown (host := "") (Or.inl (hw _ (List.mem_of_getElem? (i := 45) rfl))) Via.refl e61 F55 (g := (mkF m 138 #[.val (.ref a1), .val (.ref b1), .val (.int acc), .val (.long acc3), .second, .val (.long (0 : Int64)), .second, .val (.int ((own_min mm (16 : Int32)) - (1 : Int32)))] [(.ref a1)])) rfl rfl (hb hby own_d8_138)
          refine own_step (U' := (T62.setTop (mkF m 141 #[.val (.ref a1), .val (.ref b1), .val (.int acc), .val (.long acc3), .second, .val (.long (0 : Int64)), .second, .val (.int ((own_min mm (16 : Int32)) - (1 : Int32)))] [(.int mm)]))) (fun t ht => st62 _ ht) ?_
          refine own_step (U' := (T62.setTop (mkF m 142 #[.val (.ref a1), .val (.ref b1), .val (.int acc), .val (.long acc3), .second, .val (.long (0 : Int64)), .second, .val (.int ((own_min mm (16 : Int32)) - (1 : Int32)))] [(.int (1 : Int32)), (.int mm)]))) (fun t ht => XS.iconst X62.here hx rfl (hb hby own_d8_141) ht) ?_
          refine own_step (U' := (T62.setTop (mkF m 143 #[.val (.ref a1), .val (.ref b1), .val (.int acc), .val (.long acc3), .second, .val (.long (0 : Int64)), .second, .val (.int ((own_min mm (16 : Int32)) - (1 : Int32)))] [(.int (mm - (1 : Int32)))]))) (fun t ht => XS.isub X62.here hx rfl (hb hby own_d8_142) rfl ht) ?_
          refine own_step (U' := (T62.setTop (mkF m 145 #[.val (.ref a1), .val (.ref b1), .val (.int acc), .val (.long acc3), .second, .val (.long (0 : Int64)), .second, .val (.int (mm - (1 : Int32)))] []))) (fun t ht => XS.istore X62.here hx rfl (hb hby own_d8_143) rfl (l' := #[.val (.ref a1), .val (.ref b1), .val (.int acc), .val (.long acc3), .second, .val (.long (0 : Int64)), .second, .val (.int (mm - (1 : Int32)))]) rfl ht) ?_
          have tail166 : ∀ (u : Nat) (i7 : Int32) (hi7 : i7.toInt = (u : Int)) (huM : u < M), own_Go p e below s ({ frames := 1, cells := 0, slots := 0, locals := 17 } : Room).cells ({ frames := 1, cells := 0, slots := 0, locals := 17 } : Room).slots (own_Q_fli Z a1 b1 ka cs mm M h0 n0) (T62.setTop (mkF m 166 #[.val (.ref a1), .val (.ref b1), .val (.int acc), .val (.long acc3), .second, .val (.long (0 : Int64)), .second, .val (.int i7)] [])) := by
            intro u i7 hi7 huM
            refine own_step (U' := (T62.setTop (mkF m 167 #[.val (.ref a1), .val (.ref b1), .val (.int acc), .val (.long acc3), .second, .val (.long (0 : Int64)), .second, .val (.int i7)] [(.ref a1)]))) (fun t ht => XS.aloadN X62.here hx rfl (hb hby own_d8_166) rfl rfl ht) ?_
            refine own_step (U' := (T62.setTop (mkF m 169 #[.val (.ref a1), .val (.ref b1), .val (.int acc), .val (.long acc3), .second, .val (.long (0 : Int64)), .second, .val (.int i7)] [(.int i7), (.ref a1)]))) (fun t ht => XS.iload X62.here hx rfl (hb hby own_d8_167) rfl ht) ?_
            obtain ⟨T63, h63, X63, e63, W63, st63⟩ := putF X62 hx hZ hown (host := "") (Or.inl (hw _ (List.mem_of_getElem? (i := 51) rfl))) Via.refl e62 f55_1 f55_8 (Or.inr ⟨(hw _ (List.mem_of_getElem? (i := 52) rfl)), rfl, hnm⟩) (hw _ (List.mem_of_getElem? (i := 37) rfl)) (ty := .int) (by decide) rfl rfl (g := (mkF m 169 #[.val (.ref a1), .val (.ref b1), .val (.int acc), .val (.long acc3), .second, .val (.long (0 : Int64)), .second, .val (.int i7)] [(.int i7), (.ref a1)])) rfl rfl (hb hby own_d8_169)
            have f63_1 := f55_2.other W63 (Or.inr (slot_ne (Or.inr (hw _ (List.mem_of_getElem? (i := 57) rfl))) (Or.inr (hw _ (List.mem_of_getElem? (i := 52) rfl))) (by decide) (t := .int) (t' := .int) (by decide) (by decide)))
            have f63_2 := f55_3.other W63 (Or.inr (slot_ne (Or.inr (hw _ (List.mem_of_getElem? (i := 59) rfl))) (Or.inr (hw _ (List.mem_of_getElem? (i := 52) rfl))) (by decide) (t := .boolean) (t' := .int) (by decide) (by decide)))
            have f63_3 := f55_4.other W63 (Or.inr (slot_ne (Or.inr (hw _ (List.mem_of_getElem? (i := 61) rfl))) (Or.inr (hw _ (List.mem_of_getElem? (i := 52) rfl))) (by decide) (t := .long) (t' := .int) (by decide) (by decide)))
            have f63_4 := f55_5.other W63 (Or.inr (slot_ne (Or.inr (hw _ (List.mem_of_getElem? (i := 63) rfl))) (Or.inr (hw _ (List.mem_of_getElem? (i := 52) rfl))) (by decide) (t := .long) (t' := .int) (by decide) (by decide)))
            have f63_5 := f55_6.other W63 (Or.inr (slot_ne (Or.inr (hw _ (List.mem_of_getElem? (i := 68) rfl))) (Or.inr (hw _ (List.mem_of_getElem? (i := 52) rfl))) (by decide) (t := .long) (t' := .int) (by decide) (by decide)))
            have f63_6 := f55_7.other W63 (Or.inr (slot_ne (Or.inr (hw _ (List.mem_of_getElem? (i := 73) rfl))) (Or.inr (hw _ (List.mem_of_getElem? (i := 52) rfl))) (by decide) (t := .long) (t' := .int) (by decide) (by decide)))
            have f63_7 := f55_8.wr W63
            have f63_8 := f55_9.other W63 ne_b1_a1
            have f63_9 := f55_10.other W63 (Or.inr (slot_ne (Or.inr (hw _ (List.mem_of_getElem? (i := 44) rfl))) (Or.inr (hw _ (List.mem_of_getElem? (i := 52) rfl))) (by decide) (t := (.array .char)) (t' := .int) (by decide) (by decide)))
            have f63_10 := F55.other W63 (Or.inr (slot_ne (Or.inr (hw _ (List.mem_of_getElem? (i := 46) rfl))) (Or.inr (hw _ (List.mem_of_getElem? (i := 52) rfl))) (by decide) (t := .int) (t' := .int) (by decide) (by decide)))
            have F63 := f55_1.same W63
            have N63 := Fr.snoc X63 N61 g_a1
            have K63 : Keep h0 h63 [a1] := K55.wr W63 (Or.inl (by simp))
            refine own_step (U' := (T63.setTop (mkF m 172 #[.val (.ref a1), .val (.ref b1), .val (.int acc), .val (.long acc3), .second, .val (.long (0 : Int64)), .second, .val (.int i7)] []))) (fun t ht => st63 _ ht) ?_
            refine own_step (U' := (T63.setTop (mkF m 173 #[.val (.ref a1), .val (.ref b1), .val (.int acc), .val (.long acc3), .second, .val (.long (0 : Int64)), .second, .val (.int i7)] [(.ref a1)]))) (fun t ht => XS.aloadN X63.here hx rfl (hb hby own_d8_172) rfl rfl ht) ?_
            refine own_step (U' := (T63.setTop (mkF m 174 #[.val (.ref a1), .val (.ref b1), .val (.int acc), .val (.long acc3), .second, .val (.long (0 : Int64)), .second, .val (.int i7)] [(.ref b1), (.ref a1)]))) (fun t ht => XS.aloadN X63.here hx rfl (hb hby own_d8_173) rfl rfl ht) ?_
            refine own_step (U' := (T63.setTop (mkF m 176 #[.val (.ref a1), .val (.ref b1), .val (.int acc), .val (.long acc3), .second, .val (.long (0 : Int64)), .second, .val (.int i7)] [(.int i7), (.ref b1), (.ref a1)]))) (fun t ht => XS.iload X63.here hx rfl (hb hby own_d8_174) rfl ht) ?_
            by_cases hc176_64 : 0 < i7
            ·
              refine own_step (U' := (T63.setTop (mkF m 179 #[.val (.ref a1), .val (.ref b1), .val (.int acc), .val (.long acc3), .second, .val (.long (0 : Int64)), .second, .val (.int i7)] [(.ref b1), (.ref a1)]))) (fun t ht => XS.ifNo X63.here hx rfl (hb hby own_d8_176) rfl (XT.i0_le_f hc176_64) ht) ?_
              refine own_step (U' := (T63.setTop (mkF m 181 #[.val (.ref a1), .val (.ref b1), .val (.int acc), .val (.long acc3), .second, .val (.long (0 : Int64)), .second, .val (.int i7)] [(.int i7), (.ref b1), (.ref a1)]))) (fun t ht => XS.iload X63.here hx rfl (hb hby own_d8_179) rfl ht) ?_
              refine own_step (U' := (T63.setTop (mkF m 190 #[.val (.ref a1), .val (.ref b1), .val (.int acc), .val (.long acc3), .second, .val (.long (0 : Int64)), .second, .val (.int i7)] [(.int i7), (.ref b1), (.ref a1)]))) (fun t ht => XS.goto X63.here hx rfl (pc0 := 181) (pc' := 190) rfl (hb hby own_d8_181) (by decide) (by decide) ht) ?_
              obtain ⟨_, _, ⟨T65, L65, k65, n65⟩, -, X65, ⟨Lc65, hQ65, l65, y65, z65⟩, st65⟩ := Jvm.LawKit.callS X63 hx (y := (⟨"com/example/skip2/skip2/windowsearch/FlagSearch", "between", "([CI)I"⟩ : MethodName)) hown (mvT hZ (hw _ (List.mem_of_getElem? (i := 53) rfl))) (mvT hZ (hw _ (List.mem_of_getElem? (i := 54) rfl))) (mvT hZ (hw _ (List.mem_of_getElem? (i := 38) rfl))) (mvT hZ (hw _ (List.mem_of_getElem? (i := 55) rfl))) (by decide) (backOf (W := 1) (own_m_btw l Z a0 hw [] (b1) (i7) (ka) (cs) (mm) (M) (u) h63 n0 (Nat.le_trans Z0 K63.1) f63_8 hm h8 hi7 huM) hZ (hw _ (List.mem_of_getElem? (i := 55) rfl)) (hw _ (List.mem_of_getElem? (i := 38) rfl)) (by decide) (by decide)) (g := (mkF m 190 #[.val (.ref a1), .val (.ref b1), .val (.int acc), .val (.long acc3), .second, .val (.long (0 : Int64)), .second, .val (.int i7)] [(.int i7), (.ref b1), (.ref a1)])) rfl (by rw [hml]; rfl) (argsL := [(.ref b1), (.int i7)]) (rest := [(.ref a1)]) (lenOf own_pd3 rfl) rfl (by show 2 * 0 + _ ≤ _; exact Nat.le_of_eq rfl) (hb hby own_d8_190) (fun _ _ => ⟨rfl, e63, (by decide : 0 + 0 ≤ _), (by decide : 0 + 0 ≤ _)⟩)
              dsimp only [Pt.U, Pt.locs, Pt.cells, Pt.slots] at X65 l65 y65 z65 st65 hQ65
              subst l65 y65 z65
              obtain ⟨r_65, rfl, Nq65, Kq65⟩ := hQ65
              have N65 := Fr.app N63 Nq65
              have e65 : T65.heap = h63 := Kq65
              refine own_step (U' := (T65.setTop (mkF m 193 #[.val (.ref a1), .val (.ref b1), .val (.int acc), .val (.long acc3), .second, .val (.long (0 : Int64)), .second, .val (.int i7)] [(.int r_65), (.ref a1)]))) (fun t ht => st65 _ ht) ?_
              obtain ⟨T66, h66, X66, e66, W66, st66⟩ := putF X65 hx hZ hown (host := "") (Or.inl (hw _ (List.mem_of_getElem? (i := 56) rfl))) Via.refl e65 f63_1 f63_7 (Or.inr ⟨(hw _ (List.mem_of_getElem? (i := 57) rfl)), rfl, hnm⟩) (hw _ (List.mem_of_getElem? (i := 37) rfl)) (ty := .int) (by decide) rfl rfl (g := (mkF m 193 #[.val (.ref a1), .val (.ref b1), .val (.int acc), .val (.long acc3), .second, .val (.long (0 : Int64)), .second, .val (.int i7)] [(.int r_65), (.ref a1)])) rfl rfl (hb hby own_d8_193)
              have f66_1 := f63_2.other W66 (Or.inr (slot_ne (Or.inr (hw _ (List.mem_of_getElem? (i := 59) rfl))) (Or.inr (hw _ (List.mem_of_getElem? (i := 57) rfl))) (by decide) (t := .boolean) (t' := .int) (by decide) (by decide)))
              have f66_2 := f63_3.other W66 (Or.inr (slot_ne (Or.inr (hw _ (List.mem_of_getElem? (i := 61) rfl))) (Or.inr (hw _ (List.mem_of_getElem? (i := 57) rfl))) (by decide) (t := .long) (t' := .int) (by decide) (by decide)))
              have f66_3 := f63_4.other W66 (Or.inr (slot_ne (Or.inr (hw _ (List.mem_of_getElem? (i := 63) rfl))) (Or.inr (hw _ (List.mem_of_getElem? (i := 57) rfl))) (by decide) (t := .long) (t' := .int) (by decide) (by decide)))
              have f66_4 := f63_5.other W66 (Or.inr (slot_ne (Or.inr (hw _ (List.mem_of_getElem? (i := 68) rfl))) (Or.inr (hw _ (List.mem_of_getElem? (i := 57) rfl))) (by decide) (t := .long) (t' := .int) (by decide) (by decide)))
              have f66_5 := f63_6.other W66 (Or.inr (slot_ne (Or.inr (hw _ (List.mem_of_getElem? (i := 73) rfl))) (Or.inr (hw _ (List.mem_of_getElem? (i := 57) rfl))) (by decide) (t := .long) (t' := .int) (by decide) (by decide)))
              have f66_6 := f63_7.wr W66
              have f66_7 := f63_8.other W66 ne_b1_a1
              have f66_8 := f63_9.other W66 (Or.inr (slot_ne (Or.inr (hw _ (List.mem_of_getElem? (i := 44) rfl))) (Or.inr (hw _ (List.mem_of_getElem? (i := 57) rfl))) (by decide) (t := (.array .char)) (t' := .int) (by decide) (by decide)))
              have f66_9 := f63_10.other W66 (Or.inr (slot_ne (Or.inr (hw _ (List.mem_of_getElem? (i := 46) rfl))) (Or.inr (hw _ (List.mem_of_getElem? (i := 57) rfl))) (by decide) (t := .int) (t' := .int) (by decide) (by decide)))
              have f66_10 := F63.other W66 (Or.inr (slot_ne (Or.inr (hw _ (List.mem_of_getElem? (i := 52) rfl))) (Or.inr (hw _ (List.mem_of_getElem? (i := 57) rfl))) (by decide) (t := .int) (t' := .int) (by decide) (by decide)))
              have F66 := f63_1.same W66
              have N66 := Fr.snoc X66 N65 g_a1
              have K66 : Keep h0 h66 [a1] := K63.wr W66 (Or.inl (by simp))
              refine own_step (U' := (T66.setTop (mkF m 196 #[.val (.ref a1), .val (.ref b1), .val (.int acc), .val (.long acc3), .second, .val (.long (0 : Int64)), .second, .val (.int i7)] []))) (fun t ht => st66 _ ht) ?_
              refine own_step (U' := (T66.setTop (mkF m 197 #[.val (.ref a1), .val (.ref b1), .val (.int acc), .val (.long acc3), .second, .val (.long (0 : Int64)), .second, .val (.int i7)] [(.ref a1)]))) (fun t ht => XS.aloadN X66.here hx rfl (hb hby own_d8_196) rfl rfl ht) ?_
              have tail209 : ∀ (qb : Int32), own_Go p e below s ({ frames := 1, cells := 0, slots := 0, locals := 17 } : Room).cells ({ frames := 1, cells := 0, slots := 0, locals := 17 } : Room).slots (own_Q_fli Z a1 b1 ka cs mm M h0 n0) (T66.setTop (mkF m 209 #[.val (.ref a1), .val (.ref b1), .val (.int acc), .val (.long acc3), .second, .val (.long (0 : Int64)), .second, .val (.int i7)] [(.int qb), (.ref a1)])) := by
                intro qb
                obtain ⟨T67, h67, X67, e67, W67, st67⟩ := putFN X66 hx hZ hown (hw _ (List.mem_of_getElem? (i := 58) rfl)) Via.refl e66 f66_1 f66_6 (Or.inr ⟨(hw _ (List.mem_of_getElem? (i := 59) rfl)), rfl, hnm⟩) (hw _ (List.mem_of_getElem? (i := 37) rfl)) (ty := .boolean) (v' := (.int (qb &&& 1))) (by decide) rfl (fits_nar_bool _) (g := (mkF m 209 #[.val (.ref a1), .val (.ref b1), .val (.int acc), .val (.long acc3), .second, .val (.long (0 : Int64)), .second, .val (.int i7)] [(.int qb), (.ref a1)])) rfl rfl (hb hby own_d8_209)
                have f67_1 := f66_2.other W67 (Or.inr (slot_ne (Or.inr (hw _ (List.mem_of_getElem? (i := 61) rfl))) (Or.inr (hw _ (List.mem_of_getElem? (i := 59) rfl))) (by decide) (t := .long) (t' := .boolean) (by decide) (by decide)))
                have f67_2 := f66_3.other W67 (Or.inr (slot_ne (Or.inr (hw _ (List.mem_of_getElem? (i := 63) rfl))) (Or.inr (hw _ (List.mem_of_getElem? (i := 59) rfl))) (by decide) (t := .long) (t' := .boolean) (by decide) (by decide)))
                have f67_3 := f66_4.other W67 (Or.inr (slot_ne (Or.inr (hw _ (List.mem_of_getElem? (i := 68) rfl))) (Or.inr (hw _ (List.mem_of_getElem? (i := 59) rfl))) (by decide) (t := .long) (t' := .boolean) (by decide) (by decide)))
                have f67_4 := f66_5.other W67 (Or.inr (slot_ne (Or.inr (hw _ (List.mem_of_getElem? (i := 73) rfl))) (Or.inr (hw _ (List.mem_of_getElem? (i := 59) rfl))) (by decide) (t := .long) (t' := .boolean) (by decide) (by decide)))
                have f67_5 := f66_6.wr W67
                have f67_6 := f66_7.other W67 ne_b1_a1
                have f67_7 := f66_8.other W67 (Or.inr (slot_ne (Or.inr (hw _ (List.mem_of_getElem? (i := 44) rfl))) (Or.inr (hw _ (List.mem_of_getElem? (i := 59) rfl))) (by decide) (t := (.array .char)) (t' := .boolean) (by decide) (by decide)))
                have f67_8 := f66_9.other W67 (Or.inr (slot_ne (Or.inr (hw _ (List.mem_of_getElem? (i := 46) rfl))) (Or.inr (hw _ (List.mem_of_getElem? (i := 59) rfl))) (by decide) (t := .int) (t' := .boolean) (by decide) (by decide)))
                have f67_9 := f66_10.other W67 (Or.inr (slot_ne (Or.inr (hw _ (List.mem_of_getElem? (i := 52) rfl))) (Or.inr (hw _ (List.mem_of_getElem? (i := 59) rfl))) (by decide) (t := .int) (t' := .boolean) (by decide) (by decide)))
                have f67_10 := F66.other W67 (Or.inr (slot_ne (Or.inr (hw _ (List.mem_of_getElem? (i := 57) rfl))) (Or.inr (hw _ (List.mem_of_getElem? (i := 59) rfl))) (by decide) (t := .int) (t' := .boolean) (by decide) (by decide)))
                have F67 := f66_1.same W67
                have N67 := Fr.snoc X67 N66 g_a1
                have K67 : Keep h0 h67 [a1] := K66.wr W67 (Or.inl (by simp))
                refine own_step (U' := (T67.setTop (mkF m 212 #[.val (.ref a1), .val (.ref b1), .val (.int acc), .val (.long acc3), .second, .val (.long (0 : Int64)), .second, .val (.int i7)] []))) (fun t ht => st67 _ ht) ?_
                refine own_step (U' := (T67.setTop (mkF m 213 #[.val (.ref a1), .val (.ref b1), .val (.int acc), .val (.long acc3), .second, .val (.long (0 : Int64)), .second, .val (.int i7)] [(.ref a1)]))) (fun t ht => XS.aloadN X67.here hx rfl (hb hby own_d8_212) rfl rfl ht) ?_
                refine own_step (U' := (T67.setTop (mkF m 214 #[.val (.ref a1), .val (.ref b1), .val (.int acc), .val (.long acc3), .second, .val (.long (0 : Int64)), .second, .val (.int i7)] [(.long acc3), (.ref a1)]))) (fun t ht => XT.lloadN X67.here hx rfl (hb hby own_d8_213) rfl ht) ?_
                obtain ⟨T68, h68, X68, e68, W68, st68⟩ := putF X67 hx hZ hown (host := "") (Or.inl (hw _ (List.mem_of_getElem? (i := 60) rfl))) Via.refl e67 f67_1 f67_5 (Or.inr ⟨(hw _ (List.mem_of_getElem? (i := 61) rfl)), rfl, hnm⟩) (hw _ (List.mem_of_getElem? (i := 37) rfl)) (ty := .long) (by decide) rfl rfl (g := (mkF m 214 #[.val (.ref a1), .val (.ref b1), .val (.int acc), .val (.long acc3), .second, .val (.long (0 : Int64)), .second, .val (.int i7)] [(.long acc3), (.ref a1)])) rfl rfl (hb hby own_d8_214)
                have f68_1 := f67_2.other W68 (Or.inr (slot_ne (Or.inr (hw _ (List.mem_of_getElem? (i := 63) rfl))) (Or.inr (hw _ (List.mem_of_getElem? (i := 61) rfl))) (by decide) (t := .long) (t' := .long) (by decide) (by decide)))
                have f68_2 := f67_3.other W68 (Or.inr (slot_ne (Or.inr (hw _ (List.mem_of_getElem? (i := 68) rfl))) (Or.inr (hw _ (List.mem_of_getElem? (i := 61) rfl))) (by decide) (t := .long) (t' := .long) (by decide) (by decide)))
                have f68_3 := f67_4.other W68 (Or.inr (slot_ne (Or.inr (hw _ (List.mem_of_getElem? (i := 73) rfl))) (Or.inr (hw _ (List.mem_of_getElem? (i := 61) rfl))) (by decide) (t := .long) (t' := .long) (by decide) (by decide)))
                have f68_4 := f67_5.wr W68
                have f68_5 := f67_6.other W68 ne_b1_a1
                have f68_6 := f67_7.other W68 (Or.inr (slot_ne (Or.inr (hw _ (List.mem_of_getElem? (i := 44) rfl))) (Or.inr (hw _ (List.mem_of_getElem? (i := 61) rfl))) (by decide) (t := (.array .char)) (t' := .long) (by decide) (by decide)))
                have f68_7 := f67_8.other W68 (Or.inr (slot_ne (Or.inr (hw _ (List.mem_of_getElem? (i := 46) rfl))) (Or.inr (hw _ (List.mem_of_getElem? (i := 61) rfl))) (by decide) (t := .int) (t' := .long) (by decide) (by decide)))
                have f68_8 := f67_9.other W68 (Or.inr (slot_ne (Or.inr (hw _ (List.mem_of_getElem? (i := 52) rfl))) (Or.inr (hw _ (List.mem_of_getElem? (i := 61) rfl))) (by decide) (t := .int) (t' := .long) (by decide) (by decide)))
                have f68_9 := f67_10.other W68 (Or.inr (slot_ne (Or.inr (hw _ (List.mem_of_getElem? (i := 57) rfl))) (Or.inr (hw _ (List.mem_of_getElem? (i := 61) rfl))) (by decide) (t := .int) (t' := .long) (by decide) (by decide)))
                have f68_10 := F67.other W68 (Or.inr (slot_ne (Or.inr (hw _ (List.mem_of_getElem? (i := 59) rfl))) (Or.inr (hw _ (List.mem_of_getElem? (i := 61) rfl))) (by decide) (t := .boolean) (t' := .long) (by decide) (by decide)))
                have F68 := f67_1.same W68
                have N68 := Fr.snoc X68 N67 g_a1
                have K68 : Keep h0 h68 [a1] := K67.wr W68 (Or.inl (by simp))
                refine own_step (U' := (T68.setTop (mkF m 217 #[.val (.ref a1), .val (.ref b1), .val (.int acc), .val (.long acc3), .second, .val (.long (0 : Int64)), .second, .val (.int i7)] []))) (fun t ht => st68 _ ht) ?_
                refine own_step (U' := (T68.setTop (mkF m 218 #[.val (.ref a1), .val (.ref b1), .val (.int acc), .val (.long acc3), .second, .val (.long (0 : Int64)), .second, .val (.int i7)] [(.ref a1)]))) (fun t ht => XS.aloadN X68.here hx rfl (hb hby own_d8_217) rfl rfl ht) ?_
                refine own_step (U' := (T68.setTop (mkF m 220 #[.val (.ref a1), .val (.ref b1), .val (.int acc), .val (.long acc3), .second, .val (.long (0 : Int64)), .second, .val (.int i7)] [(.long (0 : Int64)), (.ref a1)]))) (fun t ht => XT.lload X68.here hx rfl (hb hby own_d8_218) rfl ht) ?_
                obtain ⟨T69, h69, X69, e69, W69, st69⟩ := putF X68 hx hZ hown (host := "") (Or.inl (hw _ (List.mem_of_getElem? (i := 62) rfl))) Via.refl e68 f68_1 f68_4 (Or.inr ⟨(hw _ (List.mem_of_getElem? (i := 63) rfl)), rfl, hnm⟩) (hw _ (List.mem_of_getElem? (i := 37) rfl)) (ty := .long) (by decide) rfl rfl (g := (mkF m 220 #[.val (.ref a1), .val (.ref b1), .val (.int acc), .val (.long acc3), .second, .val (.long (0 : Int64)), .second, .val (.int i7)] [(.long (0 : Int64)), (.ref a1)])) rfl rfl (hb hby own_d8_220)
                have f69_1 := f68_2.other W69 (Or.inr (slot_ne (Or.inr (hw _ (List.mem_of_getElem? (i := 68) rfl))) (Or.inr (hw _ (List.mem_of_getElem? (i := 63) rfl))) (by decide) (t := .long) (t' := .long) (by decide) (by decide)))
                have f69_2 := f68_3.other W69 (Or.inr (slot_ne (Or.inr (hw _ (List.mem_of_getElem? (i := 73) rfl))) (Or.inr (hw _ (List.mem_of_getElem? (i := 63) rfl))) (by decide) (t := .long) (t' := .long) (by decide) (by decide)))
                have f69_3 := f68_4.wr W69
                have f69_4 := f68_5.other W69 ne_b1_a1
                have f69_5 := f68_6.other W69 (Or.inr (slot_ne (Or.inr (hw _ (List.mem_of_getElem? (i := 44) rfl))) (Or.inr (hw _ (List.mem_of_getElem? (i := 63) rfl))) (by decide) (t := (.array .char)) (t' := .long) (by decide) (by decide)))
                have f69_6 := f68_7.other W69 (Or.inr (slot_ne (Or.inr (hw _ (List.mem_of_getElem? (i := 46) rfl))) (Or.inr (hw _ (List.mem_of_getElem? (i := 63) rfl))) (by decide) (t := .int) (t' := .long) (by decide) (by decide)))
                have f69_7 := f68_8.other W69 (Or.inr (slot_ne (Or.inr (hw _ (List.mem_of_getElem? (i := 52) rfl))) (Or.inr (hw _ (List.mem_of_getElem? (i := 63) rfl))) (by decide) (t := .int) (t' := .long) (by decide) (by decide)))
                have f69_8 := f68_9.other W69 (Or.inr (slot_ne (Or.inr (hw _ (List.mem_of_getElem? (i := 57) rfl))) (Or.inr (hw _ (List.mem_of_getElem? (i := 63) rfl))) (by decide) (t := .int) (t' := .long) (by decide) (by decide)))
                have f69_9 := f68_10.other W69 (Or.inr (slot_ne (Or.inr (hw _ (List.mem_of_getElem? (i := 59) rfl))) (Or.inr (hw _ (List.mem_of_getElem? (i := 63) rfl))) (by decide) (t := .boolean) (t' := .long) (by decide) (by decide)))
                have f69_10 := F68.other W69 (Or.inr (slot_ne (Or.inr (hw _ (List.mem_of_getElem? (i := 61) rfl))) (Or.inr (hw _ (List.mem_of_getElem? (i := 63) rfl))) (by decide) (t := .long) (t' := .long) (by decide) (by decide)))
                have F69 := f68_1.same W69
                have N69 := Fr.snoc X69 N68 g_a1
                have K69 : Keep h0 h69 [a1] := K68.wr W69 (Or.inl (by simp))
                refine own_step (U' := (T69.setTop (mkF m 223 #[.val (.ref a1), .val (.ref b1), .val (.int acc), .val (.long acc3), .second, .val (.long (0 : Int64)), .second, .val (.int i7)] []))) (fun t ht => st69 _ ht) ?_
                refine own_step (U' := (T69.setTop (mkF m 224 #[.val (.ref a1), .val (.ref b1), .val (.int acc), .val (.long acc3), .second, .val (.long (0 : Int64)), .second, .val (.int i7)] [(.ref a1)]))) (fun t ht => XS.aloadN X69.here hx rfl (hb hby own_d8_223) rfl rfl ht) ?_
                refine own_step (U' := (T69.setTop (mkF m 225 #[.val (.ref a1), .val (.ref b1), .val (.int acc), .val (.long acc3), .second, .val (.long (0 : Int64)), .second, .val (.int i7)] [(.ref a1), (.ref a1)]))) (fun t ht => XS.aloadN X69.here hx rfl (hb hby own_d8_224) rfl rfl ht) ?_
                obtain ⟨T70, X70, e70, st70⟩ := getF X69 hx hZ hown (host := "") (Or.inl (hw _ (List.mem_of_getElem? (i := 45) rfl))) Via.refl e69 f69_6 (g := (mkF m 225 #[.val (.ref a1), .val (.ref b1), .val (.int acc), .val (.long acc3), .second, .val (.long (0 : Int64)), .second, .val (.int i7)] [(.ref a1), (.ref a1)])) rfl rfl (hb hby own_d8_225)
                refine own_step (U' := (T70.setTop (mkF m 228 #[.val (.ref a1), .val (.ref b1), .val (.int acc), .val (.long acc3), .second, .val (.long (0 : Int64)), .second, .val (.int i7)] [(.int mm), (.ref a1)]))) (fun t ht => st70 _ ht) ?_
                refine own_step (U' := (T70.setTop (mkF m 230 #[.val (.ref a1), .val (.ref b1), .val (.int acc), .val (.long acc3), .second, .val (.long (0 : Int64)), .second, .val (.int i7)] [(.int (8 : Int32)), (.int mm), (.ref a1)]))) (fun t ht => XS.bipush X70.here hx rfl (hb hby own_d8_228) ht) ?_
                obtain ⟨Lo72, Xo72, No72⟩ : ∃ Lx, Stand p l e ({ frames := 1, cells := 0, slots := 0, locals := 17 } : Room) s m #[(.ref a1), (.ref b1)] below meth c T70 Lx 0 0 ∧ Fr n0 Lx := ⟨_, X70, N69⟩
                obtain ⟨_, _, ⟨T71, L71, k71, n71⟩, -, X71, ⟨Lc71, hQ71, l71, y71, z71⟩, st71⟩ := Jvm.LawKit.callS Xo72 hx (y := (⟨"java/lang/Math", "min", "(II)I"⟩ : MethodName)) hown (mvT hZ (hw _ (List.mem_of_getElem? (i := 47) rfl))) (mvT hZ (hw _ (List.mem_of_getElem? (i := 48) rfl))) (mvT hZ (hw _ (List.mem_of_getElem? (i := 49) rfl))) (mvT hZ (hw _ (List.mem_of_getElem? (i := 50) rfl))) (by decide) (backOf (W := 1) (own_m_min l Z a0 hw [] (mm) ((8 : Int32)) h69 n0 (Nat.le_trans Z0 K69.1) ) hZ (hw _ (List.mem_of_getElem? (i := 50) rfl)) (hw _ (List.mem_of_getElem? (i := 49) rfl)) (by decide) (by decide)) (g := (mkF m 230 #[.val (.ref a1), .val (.ref b1), .val (.int acc), .val (.long acc3), .second, .val (.long (0 : Int64)), .second, .val (.int i7)] [(.int (8 : Int32)), (.int mm), (.ref a1)])) rfl (by rw [hml]; rfl) (argsL := [(.int mm), (.int (8 : Int32))]) (rest := [(.ref a1)]) (lenOf own_pd2 rfl) rfl (by show 2 * 0 + _ ≤ _; exact Nat.le_of_eq rfl) (hb hby own_d8_230) (fun _ _ => ⟨rfl, e70, (by decide : 0 + 0 ≤ _), (by decide : 0 + 0 ≤ _)⟩)
                dsimp only [Pt.U, Pt.locs, Pt.cells, Pt.slots] at X71 l71 y71 z71 st71 hQ71
                subst l71 y71 z71
                obtain ⟨rfl, Nq71, Kq71⟩ := hQ71
                have N71 := Fr.app No72 Nq71
                have e71 : T71.heap = h69 := Kq71
                refine own_step (U' := (T71.setTop (mkF m 233 #[.val (.ref a1), .val (.ref b1), .val (.int acc), .val (.long acc3), .second, .val (.long (0 : Int64)), .second, .val (.int i7)] [(.int (own_min mm (8 : Int32))), (.ref a1)]))) (fun t ht => st71 _ ht) ?_
                obtain ⟨_, _, ⟨T73, L73, k73, n73⟩, -, X73, ⟨Lc73, hQ73, l73, y73, z73⟩, st73⟩ := Jvm.LawKit.callS X71 hx (y := (⟨"com/example/skip2/skip2/windowsearch/FlagSearch", "mask", "(I)J"⟩ : MethodName)) hown (mvT hZ (hw _ (List.mem_of_getElem? (i := 64) rfl))) (mvT hZ (hw _ (List.mem_of_getElem? (i := 65) rfl))) (mvT hZ (hw _ (List.mem_of_getElem? (i := 38) rfl))) (mvT hZ (hw _ (List.mem_of_getElem? (i := 66) rfl))) (by decide) (backOf (W := 1) (own_m_mask l Z a0 hw [] ((own_min mm (8 : Int32))) h69 n0 (Nat.le_trans Z0 K69.1) ) hZ (hw _ (List.mem_of_getElem? (i := 66) rfl)) (hw _ (List.mem_of_getElem? (i := 38) rfl)) (by decide) (by decide)) (g := (mkF m 233 #[.val (.ref a1), .val (.ref b1), .val (.int acc), .val (.long acc3), .second, .val (.long (0 : Int64)), .second, .val (.int i7)] [(.int (own_min mm (8 : Int32))), (.ref a1)])) rfl (by rw [hml]; rfl) (argsL := [(.int (own_min mm (8 : Int32)))]) (rest := [(.ref a1)]) (lenOf own_pd4 rfl) rfl (by show 2 * 0 + _ ≤ _; exact Nat.le_of_eq rfl) (hb hby own_d8_233) (fun _ _ => ⟨rfl, e71, (by decide : 0 + 0 ≤ _), (by decide : 0 + 0 ≤ _)⟩)
                dsimp only [Pt.U, Pt.locs, Pt.cells, Pt.slots] at X73 l73 y73 z73 st73 hQ73
                subst l73 y73 z73
                obtain ⟨rfl, Nq73, Kq73⟩ := hQ73
                have N73 := Fr.app N71 Nq73
                have e73 : T73.heap = h69 := Kq73
                refine own_step (U' := (T73.setTop (mkF m 236 #[.val (.ref a1), .val (.ref b1), .val (.int acc), .val (.long acc3), .second, .val (.long (0 : Int64)), .second, .val (.int i7)] [(.long (own_mask (own_min mm (8 : Int32)))), (.ref a1)]))) (fun t ht => st73 _ ht) ?_
                obtain ⟨T74, h74, X74, e74, W74, st74⟩ := putF X73 hx hZ hown (host := "") (Or.inl (hw _ (List.mem_of_getElem? (i := 67) rfl))) Via.refl e73 f69_1 f69_3 (Or.inr ⟨(hw _ (List.mem_of_getElem? (i := 68) rfl)), rfl, hnm⟩) (hw _ (List.mem_of_getElem? (i := 37) rfl)) (ty := .long) (by decide) rfl rfl (g := (mkF m 236 #[.val (.ref a1), .val (.ref b1), .val (.int acc), .val (.long acc3), .second, .val (.long (0 : Int64)), .second, .val (.int i7)] [(.long (own_mask (own_min mm (8 : Int32)))), (.ref a1)])) rfl rfl (hb hby own_d8_236)
                have f74_1 := f69_2.other W74 (Or.inr (slot_ne (Or.inr (hw _ (List.mem_of_getElem? (i := 73) rfl))) (Or.inr (hw _ (List.mem_of_getElem? (i := 68) rfl))) (by decide) (t := .long) (t' := .long) (by decide) (by decide)))
                have f74_2 := f69_3.wr W74
                have f74_3 := f69_4.other W74 ne_b1_a1
                have f74_4 := f69_5.other W74 (Or.inr (slot_ne (Or.inr (hw _ (List.mem_of_getElem? (i := 44) rfl))) (Or.inr (hw _ (List.mem_of_getElem? (i := 68) rfl))) (by decide) (t := (.array .char)) (t' := .long) (by decide) (by decide)))
                have f74_5 := f69_6.other W74 (Or.inr (slot_ne (Or.inr (hw _ (List.mem_of_getElem? (i := 46) rfl))) (Or.inr (hw _ (List.mem_of_getElem? (i := 68) rfl))) (by decide) (t := .int) (t' := .long) (by decide) (by decide)))
                have f74_6 := f69_7.other W74 (Or.inr (slot_ne (Or.inr (hw _ (List.mem_of_getElem? (i := 52) rfl))) (Or.inr (hw _ (List.mem_of_getElem? (i := 68) rfl))) (by decide) (t := .int) (t' := .long) (by decide) (by decide)))
                have f74_7 := f69_8.other W74 (Or.inr (slot_ne (Or.inr (hw _ (List.mem_of_getElem? (i := 57) rfl))) (Or.inr (hw _ (List.mem_of_getElem? (i := 68) rfl))) (by decide) (t := .int) (t' := .long) (by decide) (by decide)))
                have f74_8 := f69_9.other W74 (Or.inr (slot_ne (Or.inr (hw _ (List.mem_of_getElem? (i := 59) rfl))) (Or.inr (hw _ (List.mem_of_getElem? (i := 68) rfl))) (by decide) (t := .boolean) (t' := .long) (by decide) (by decide)))
                have f74_9 := f69_10.other W74 (Or.inr (slot_ne (Or.inr (hw _ (List.mem_of_getElem? (i := 61) rfl))) (Or.inr (hw _ (List.mem_of_getElem? (i := 68) rfl))) (by decide) (t := .long) (t' := .long) (by decide) (by decide)))
                have f74_10 := F69.other W74 (Or.inr (slot_ne (Or.inr (hw _ (List.mem_of_getElem? (i := 63) rfl))) (Or.inr (hw _ (List.mem_of_getElem? (i := 68) rfl))) (by decide) (t := .long) (t' := .long) (by decide) (by decide)))
                have F74 := f69_1.same W74
                have N74 := Fr.snoc X74 N73 g_a1
                have K74 : Keep h0 h74 [a1] := K69.wr W74 (Or.inl (by simp))
                refine own_step (U' := (T74.setTop (mkF m 239 #[.val (.ref a1), .val (.ref b1), .val (.int acc), .val (.long acc3), .second, .val (.long (0 : Int64)), .second, .val (.int i7)] []))) (fun t ht => st74 _ ht) ?_
                refine own_step (U' := (T74.setTop (mkF m 240 #[.val (.ref a1), .val (.ref b1), .val (.int acc), .val (.long acc3), .second, .val (.long (0 : Int64)), .second, .val (.int i7)] [(.ref a1)]))) (fun t ht => XS.aloadN X74.here hx rfl (hb hby own_d8_239) rfl rfl ht) ?_
                refine own_step (U' := (T74.setTop (mkF m 241 #[.val (.ref a1), .val (.ref b1), .val (.int acc), .val (.long acc3), .second, .val (.long (0 : Int64)), .second, .val (.int i7)] [(.ref a1), (.ref a1)]))) (fun t ht => XS.aloadN X74.here hx rfl (hb hby own_d8_240) rfl rfl ht) ?_
                obtain ⟨T75, X75, e75, st75⟩ := getF X74 hx hZ hown (host := "") (Or.inl (hw _ (List.mem_of_getElem? (i := 45) rfl))) Via.refl e74 f74_5 (g := (mkF m 241 #[.val (.ref a1), .val (.ref b1), .val (.int acc), .val (.long acc3), .second, .val (.long (0 : Int64)), .second, .val (.int i7)] [(.ref a1), (.ref a1)])) rfl rfl (hb hby own_d8_241)
                refine own_step (U' := (T75.setTop (mkF m 244 #[.val (.ref a1), .val (.ref b1), .val (.int acc), .val (.long acc3), .second, .val (.long (0 : Int64)), .second, .val (.int i7)] [(.int mm), (.ref a1)]))) (fun t ht => st75 _ ht) ?_
                refine own_step (U' := (T75.setTop (mkF m 246 #[.val (.ref a1), .val (.ref b1), .val (.int acc), .val (.long acc3), .second, .val (.long (0 : Int64)), .second, .val (.int i7)] [(.int (8 : Int32)), (.int mm), (.ref a1)]))) (fun t ht => XS.bipush X75.here hx rfl (hb hby own_d8_244) ht) ?_
                refine own_step (U' := (T75.setTop (mkF m 247 #[.val (.ref a1), .val (.ref b1), .val (.int acc), .val (.long acc3), .second, .val (.long (0 : Int64)), .second, .val (.int i7)] [(.int (mm - (8 : Int32))), (.ref a1)]))) (fun t ht => XS.isub X75.here hx rfl (hb hby own_d8_246) rfl ht) ?_
                refine own_step (U' := (T75.setTop (mkF m 248 #[.val (.ref a1), .val (.ref b1), .val (.int acc), .val (.long acc3), .second, .val (.long (0 : Int64)), .second, .val (.int i7)] [(.int (0 : Int32)), (.int (mm - (8 : Int32))), (.ref a1)]))) (fun t ht => XS.iconst X75.here hx rfl (hb hby own_d8_247) ht) ?_
                obtain ⟨_, _, ⟨T76, L76, k76, n76⟩, -, X76, ⟨Lc76, hQ76, l76, y76, z76⟩, st76⟩ := Jvm.LawKit.callS X75 hx (y := (⟨"java/lang/Math", "max", "(II)I"⟩ : MethodName)) hown (mvT hZ (hw _ (List.mem_of_getElem? (i := 69) rfl))) (mvT hZ (hw _ (List.mem_of_getElem? (i := 70) rfl))) (mvT hZ (hw _ (List.mem_of_getElem? (i := 49) rfl))) (mvT hZ (hw _ (List.mem_of_getElem? (i := 71) rfl))) (by decide) (backOf (W := 1) (own_m_max l Z a0 hw [] ((mm - (8 : Int32))) ((0 : Int32)) h74 n0 (Nat.le_trans Z0 K74.1) ) hZ (hw _ (List.mem_of_getElem? (i := 71) rfl)) (hw _ (List.mem_of_getElem? (i := 49) rfl)) (by decide) (by decide)) (g := (mkF m 248 #[.val (.ref a1), .val (.ref b1), .val (.int acc), .val (.long acc3), .second, .val (.long (0 : Int64)), .second, .val (.int i7)] [(.int (0 : Int32)), (.int (mm - (8 : Int32))), (.ref a1)])) rfl (by rw [hml]; rfl) (argsL := [(.int (mm - (8 : Int32))), (.int (0 : Int32))]) (rest := [(.ref a1)]) (lenOf own_pd2 rfl) rfl (by show 2 * 0 + _ ≤ _; exact Nat.le_of_eq rfl) (hb hby own_d8_248) (fun _ _ => ⟨rfl, e75, (by decide : 0 + 0 ≤ _), (by decide : 0 + 0 ≤ _)⟩)
                dsimp only [Pt.U, Pt.locs, Pt.cells, Pt.slots] at X76 l76 y76 z76 st76 hQ76
                subst l76 y76 z76
                obtain ⟨rfl, Nq76, Kq76⟩ := hQ76
                have N76 := Fr.app N74 Nq76
                have e76 : T76.heap = h74 := Kq76
                refine own_step (U' := (T76.setTop (mkF m 251 #[.val (.ref a1), .val (.ref b1), .val (.int acc), .val (.long acc3), .second, .val (.long (0 : Int64)), .second, .val (.int i7)] [(.int (own_max (mm - (8 : Int32)) (0 : Int32))), (.ref a1)]))) (fun t ht => st76 _ ht) ?_
                refine own_step (U' := (T76.setTop (mkF m 253 #[.val (.ref a1), .val (.ref b1), .val (.int acc), .val (.long acc3), .second, .val (.long (0 : Int64)), .second, .val (.int i7)] [(.int (8 : Int32)), (.int (own_max (mm - (8 : Int32)) (0 : Int32))), (.ref a1)]))) (fun t ht => XS.bipush X76.here hx rfl (hb hby own_d8_251) ht) ?_
                obtain ⟨_, _, ⟨T77, L77, k77, n77⟩, -, X77, ⟨Lc77, hQ77, l77, y77, z77⟩, st77⟩ := Jvm.LawKit.callS X76 hx (y := (⟨"java/lang/Math", "min", "(II)I"⟩ : MethodName)) hown (mvT hZ (hw _ (List.mem_of_getElem? (i := 47) rfl))) (mvT hZ (hw _ (List.mem_of_getElem? (i := 48) rfl))) (mvT hZ (hw _ (List.mem_of_getElem? (i := 49) rfl))) (mvT hZ (hw _ (List.mem_of_getElem? (i := 50) rfl))) (by decide) (backOf (W := 1) (own_m_min l Z a0 hw [] ((own_max (mm - (8 : Int32)) (0 : Int32))) ((8 : Int32)) h74 n0 (Nat.le_trans Z0 K74.1) ) hZ (hw _ (List.mem_of_getElem? (i := 50) rfl)) (hw _ (List.mem_of_getElem? (i := 49) rfl)) (by decide) (by decide)) (g := (mkF m 253 #[.val (.ref a1), .val (.ref b1), .val (.int acc), .val (.long acc3), .second, .val (.long (0 : Int64)), .second, .val (.int i7)] [(.int (8 : Int32)), (.int (own_max (mm - (8 : Int32)) (0 : Int32))), (.ref a1)])) rfl (by rw [hml]; rfl) (argsL := [(.int (own_max (mm - (8 : Int32)) (0 : Int32))), (.int (8 : Int32))]) (rest := [(.ref a1)]) (lenOf own_pd2 rfl) rfl (by show 2 * 0 + _ ≤ _; exact Nat.le_of_eq rfl) (hb hby own_d8_253) (fun _ _ => ⟨rfl, e76, (by decide : 0 + 0 ≤ _), (by decide : 0 + 0 ≤ _)⟩)
                dsimp only [Pt.U, Pt.locs, Pt.cells, Pt.slots] at X77 l77 y77 z77 st77 hQ77
                subst l77 y77 z77
                obtain ⟨rfl, Nq77, Kq77⟩ := hQ77
                have N77 := Fr.app N76 Nq77
                have e77 : T77.heap = h74 := Kq77
                refine own_step (U' := (T77.setTop (mkF m 256 #[.val (.ref a1), .val (.ref b1), .val (.int acc), .val (.long acc3), .second, .val (.long (0 : Int64)), .second, .val (.int i7)] [(.int (own_min (own_max (mm - (8 : Int32)) (0 : Int32)) (8 : Int32))), (.ref a1)]))) (fun t ht => st77 _ ht) ?_
                obtain ⟨_, _, ⟨T78, L78, k78, n78⟩, -, X78, ⟨Lc78, hQ78, l78, y78, z78⟩, st78⟩ := Jvm.LawKit.callS X77 hx (y := (⟨"com/example/skip2/skip2/windowsearch/FlagSearch", "mask", "(I)J"⟩ : MethodName)) hown (mvT hZ (hw _ (List.mem_of_getElem? (i := 64) rfl))) (mvT hZ (hw _ (List.mem_of_getElem? (i := 65) rfl))) (mvT hZ (hw _ (List.mem_of_getElem? (i := 38) rfl))) (mvT hZ (hw _ (List.mem_of_getElem? (i := 66) rfl))) (by decide) (backOf (W := 1) (own_m_mask l Z a0 hw [] ((own_min (own_max (mm - (8 : Int32)) (0 : Int32)) (8 : Int32))) h74 n0 (Nat.le_trans Z0 K74.1) ) hZ (hw _ (List.mem_of_getElem? (i := 66) rfl)) (hw _ (List.mem_of_getElem? (i := 38) rfl)) (by decide) (by decide)) (g := (mkF m 256 #[.val (.ref a1), .val (.ref b1), .val (.int acc), .val (.long acc3), .second, .val (.long (0 : Int64)), .second, .val (.int i7)] [(.int (own_min (own_max (mm - (8 : Int32)) (0 : Int32)) (8 : Int32))), (.ref a1)])) rfl (by rw [hml]; rfl) (argsL := [(.int (own_min (own_max (mm - (8 : Int32)) (0 : Int32)) (8 : Int32)))]) (rest := [(.ref a1)]) (lenOf own_pd4 rfl) rfl (by show 2 * 0 + _ ≤ _; exact Nat.le_of_eq rfl) (hb hby own_d8_256) (fun _ _ => ⟨rfl, e77, (by decide : 0 + 0 ≤ _), (by decide : 0 + 0 ≤ _)⟩)
                dsimp only [Pt.U, Pt.locs, Pt.cells, Pt.slots] at X78 l78 y78 z78 st78 hQ78
                subst l78 y78 z78
                obtain ⟨rfl, Nq78, Kq78⟩ := hQ78
                have N78 := Fr.app N77 Nq78
                have e78 : T78.heap = h74 := Kq78
                refine own_step (U' := (T78.setTop (mkF m 259 #[.val (.ref a1), .val (.ref b1), .val (.int acc), .val (.long acc3), .second, .val (.long (0 : Int64)), .second, .val (.int i7)] [(.long (own_mask (own_min (own_max (mm - (8 : Int32)) (0 : Int32)) (8 : Int32)))), (.ref a1)]))) (fun t ht => st78 _ ht) ?_
                obtain ⟨T79, h79, X79, e79, W79, st79⟩ := putF X78 hx hZ hown (host := "") (Or.inl (hw _ (List.mem_of_getElem? (i := 72) rfl))) Via.refl e78 f74_1 f74_2 (Or.inr ⟨(hw _ (List.mem_of_getElem? (i := 73) rfl)), rfl, hnm⟩) (hw _ (List.mem_of_getElem? (i := 37) rfl)) (ty := .long) (by decide) rfl rfl (g := (mkF m 259 #[.val (.ref a1), .val (.ref b1), .val (.int acc), .val (.long acc3), .second, .val (.long (0 : Int64)), .second, .val (.int i7)] [(.long (own_mask (own_min (own_max (mm - (8 : Int32)) (0 : Int32)) (8 : Int32)))), (.ref a1)])) rfl rfl (hb hby own_d8_259)
                have f79_1 := f74_2.wr W79
                have f79_2 := f74_3.other W79 ne_b1_a1
                have f79_3 := f74_4.other W79 (Or.inr (slot_ne (Or.inr (hw _ (List.mem_of_getElem? (i := 44) rfl))) (Or.inr (hw _ (List.mem_of_getElem? (i := 73) rfl))) (by decide) (t := (.array .char)) (t' := .long) (by decide) (by decide)))
                have f79_4 := f74_5.other W79 (Or.inr (slot_ne (Or.inr (hw _ (List.mem_of_getElem? (i := 46) rfl))) (Or.inr (hw _ (List.mem_of_getElem? (i := 73) rfl))) (by decide) (t := .int) (t' := .long) (by decide) (by decide)))
                have f79_5 := f74_6.other W79 (Or.inr (slot_ne (Or.inr (hw _ (List.mem_of_getElem? (i := 52) rfl))) (Or.inr (hw _ (List.mem_of_getElem? (i := 73) rfl))) (by decide) (t := .int) (t' := .long) (by decide) (by decide)))
                have f79_6 := f74_7.other W79 (Or.inr (slot_ne (Or.inr (hw _ (List.mem_of_getElem? (i := 57) rfl))) (Or.inr (hw _ (List.mem_of_getElem? (i := 73) rfl))) (by decide) (t := .int) (t' := .long) (by decide) (by decide)))
                have f79_7 := f74_8.other W79 (Or.inr (slot_ne (Or.inr (hw _ (List.mem_of_getElem? (i := 59) rfl))) (Or.inr (hw _ (List.mem_of_getElem? (i := 73) rfl))) (by decide) (t := .boolean) (t' := .long) (by decide) (by decide)))
                have f79_8 := f74_9.other W79 (Or.inr (slot_ne (Or.inr (hw _ (List.mem_of_getElem? (i := 61) rfl))) (Or.inr (hw _ (List.mem_of_getElem? (i := 73) rfl))) (by decide) (t := .long) (t' := .long) (by decide) (by decide)))
                have f79_9 := f74_10.other W79 (Or.inr (slot_ne (Or.inr (hw _ (List.mem_of_getElem? (i := 63) rfl))) (Or.inr (hw _ (List.mem_of_getElem? (i := 73) rfl))) (by decide) (t := .long) (t' := .long) (by decide) (by decide)))
                have f79_10 := F74.other W79 (Or.inr (slot_ne (Or.inr (hw _ (List.mem_of_getElem? (i := 68) rfl))) (Or.inr (hw _ (List.mem_of_getElem? (i := 73) rfl))) (by decide) (t := .long) (t' := .long) (by decide) (by decide)))
                have F79 := f74_1.same W79
                have N79 := Fr.snoc X79 N78 g_a1
                have K79 : Keep h0 h79 [a1] := K74.wr W79 (Or.inl (by simp))
                refine own_step (U' := (T79.setTop (mkF m 262 #[.val (.ref a1), .val (.ref b1), .val (.int acc), .val (.long acc3), .second, .val (.long (0 : Int64)), .second, .val (.int i7)] []))) (fun t ht => st79 _ ht) ?_
                refine own_ret X79 (v := none) (fun _ => rfl) Bd.notSynchronized (by decide) (by decide) ?_ (fun fs hr => X79.returnOut hx Bd.returns (hb hby own_d8_262) hr)
                show own_Q_fli Z a1 b1 ka cs mm M h0 n0 _ T79.heap _
                rw [e79]
                exact ⟨rfl, N79, K79⟩
              refine own_step (U' := (T66.setTop (mkF m 198 #[.val (.ref a1), .val (.ref b1), .val (.int acc), .val (.long acc3), .second, .val (.long (0 : Int64)), .second, .val (.int i7)] [(.int acc), (.ref a1)]))) (fun t ht => XS.iloadN X66.here hx rfl (hb hby own_d8_197) rfl ht) ?_
              refine own_step (U' := (T66.setTop (mkF m 201 #[.val (.ref a1), .val (.ref b1), .val (.int acc), .val (.long acc3), .second, .val (.long (0 : Int64)), .second, .val (.int i7)] [(.int (255 : Int32)), (.int acc), (.ref a1)]))) (fun t ht => XS.sipush X66.here hx rfl (hb hby own_d8_198) ht) ?_
              by_cases hc201_80 : (255 : Int32) < acc
              ·
                refine own_step (U' := (T66.setTop (mkF m 208 #[.val (.ref a1), .val (.ref b1), .val (.int acc), .val (.long acc3), .second, .val (.long (0 : Int64)), .second, .val (.int i7)] [(.ref a1)]))) (fun t ht => XS.icmpYes X66.here hx rfl (pc0 := 201) (pc' := 208) rfl (hb hby own_d8_201) rfl (XT.ii_gt_t hc201_80) (by decide) (by decide) ht) ?_
                refine own_step (U' := (T66.setTop (mkF m 209 #[.val (.ref a1), .val (.ref b1), .val (.int acc), .val (.long acc3), .second, .val (.long (0 : Int64)), .second, .val (.int i7)] [(.int (0 : Int32)), (.ref a1)]))) (fun t ht => XS.iconst X66.here hx rfl (hb hby own_d8_208) ht) ?_
                exact tail209 ((0 : Int32)) 
              ·
                refine own_step (U' := (T66.setTop (mkF m 204 #[.val (.ref a1), .val (.ref b1), .val (.int acc), .val (.long acc3), .second, .val (.long (0 : Int64)), .second, .val (.int i7)] [(.ref a1)]))) (fun t ht => XS.icmpNo X66.here hx rfl (hb hby own_d8_201) rfl (XT.ii_gt_f hc201_80) ht) ?_
                refine own_step (U' := (T66.setTop (mkF m 205 #[.val (.ref a1), .val (.ref b1), .val (.int acc), .val (.long acc3), .second, .val (.long (0 : Int64)), .second, .val (.int i7)] [(.int (1 : Int32)), (.ref a1)]))) (fun t ht => XS.iconst X66.here hx rfl (hb hby own_d8_204) ht) ?_
                refine own_step (U' := (T66.setTop (mkF m 209 #[.val (.ref a1), .val (.ref b1), .val (.int acc), .val (.long acc3), .second, .val (.long (0 : Int64)), .second, .val (.int i7)] [(.int (1 : Int32)), (.ref a1)]))) (fun t ht => XS.goto X66.here hx rfl (pc0 := 205) (pc' := 209) rfl (hb hby own_d8_205) (by decide) (by decide) ht) ?_
                exact tail209 ((1 : Int32)) 
            ·
              refine own_step (U' := (T63.setTop (mkF m 184 #[.val (.ref a1), .val (.ref b1), .val (.int acc), .val (.long acc3), .second, .val (.long (0 : Int64)), .second, .val (.int i7)] [(.ref b1), (.ref a1)]))) (fun t ht => XS.ifYes X63.here hx rfl (pc0 := 176) (pc' := 184) rfl (hb hby own_d8_176) rfl (XT.i0_le_t hc176_64) (by decide) (by decide) ht) ?_
              refine own_step (U' := (T63.setTop (mkF m 185 #[.val (.ref a1), .val (.ref b1), .val (.int acc), .val (.long acc3), .second, .val (.long (0 : Int64)), .second, .val (.int i7)] [(.ref a1), (.ref b1), (.ref a1)]))) (fun t ht => XS.aloadN X63.here hx rfl (hb hby own_d8_184) rfl rfl ht) ?_
              obtain ⟨T81, X81, e81, st81⟩ := getF X63 hx hZ hown (host := "") (Or.inl (hw _ (List.mem_of_getElem? (i := 45) rfl))) Via.refl e63 f63_10 (g := (mkF m 185 #[.val (.ref a1), .val (.ref b1), .val (.int acc), .val (.long acc3), .second, .val (.long (0 : Int64)), .second, .val (.int i7)] [(.ref a1), (.ref b1), (.ref a1)])) rfl rfl (hb hby own_d8_185)
              refine own_step (U' := (T81.setTop (mkF m 188 #[.val (.ref a1), .val (.ref b1), .val (.int acc), .val (.long acc3), .second, .val (.long (0 : Int64)), .second, .val (.int i7)] [(.int mm), (.ref b1), (.ref a1)]))) (fun t ht => st81 _ ht) ?_
              refine own_step (U' := (T81.setTop (mkF m 189 #[.val (.ref a1), .val (.ref b1), .val (.int acc), .val (.long acc3), .second, .val (.long (0 : Int64)), .second, .val (.int i7)] [(.int (1 : Int32)), (.int mm), (.ref b1), (.ref a1)]))) (fun t ht => XS.iconst X81.here hx rfl (hb hby own_d8_188) ht) ?_
              refine own_step (U' := (T81.setTop (mkF m 190 #[.val (.ref a1), .val (.ref b1), .val (.int acc), .val (.long acc3), .second, .val (.long (0 : Int64)), .second, .val (.int i7)] [(.int (mm - (1 : Int32))), (.ref b1), (.ref a1)]))) (fun t ht => XS.isub X81.here hx rfl (hb hby own_d8_189) rfl ht) ?_
              obtain ⟨_, _, ⟨T82, L82, k82, n82⟩, -, X82, ⟨Lc82, hQ82, l82, y82, z82⟩, st82⟩ := Jvm.LawKit.callS X81 hx (y := (⟨"com/example/skip2/skip2/windowsearch/FlagSearch", "between", "([CI)I"⟩ : MethodName)) hown (mvT hZ (hw _ (List.mem_of_getElem? (i := 53) rfl))) (mvT hZ (hw _ (List.mem_of_getElem? (i := 54) rfl))) (mvT hZ (hw _ (List.mem_of_getElem? (i := 38) rfl))) (mvT hZ (hw _ (List.mem_of_getElem? (i := 55) rfl))) (by decide) (backOf (W := 1) (own_m_btw l Z a0 hw [] (b1) ((mm - (1 : Int32))) (ka) (cs) (mm) (M) ((M - 1)) h63 n0 (Nat.le_trans Z0 K63.1) f63_8 hm h8 (own_pre1 hm h1 h8) (by omega)) hZ (hw _ (List.mem_of_getElem? (i := 55) rfl)) (hw _ (List.mem_of_getElem? (i := 38) rfl)) (by decide) (by decide)) (g := (mkF m 190 #[.val (.ref a1), .val (.ref b1), .val (.int acc), .val (.long acc3), .second, .val (.long (0 : Int64)), .second, .val (.int i7)] [(.int (mm - (1 : Int32))), (.ref b1), (.ref a1)])) rfl (by rw [hml]; rfl) (argsL := [(.ref b1), (.int (mm - (1 : Int32)))]) (rest := [(.ref a1)]) (lenOf own_pd3 rfl) rfl (by show 2 * 0 + _ ≤ _; exact Nat.le_of_eq rfl) (hb hby own_d8_190) (fun _ _ => ⟨rfl, e81, (by decide : 0 + 0 ≤ _), (by decide : 0 + 0 ≤ _)⟩)
              dsimp only [Pt.U, Pt.locs, Pt.cells, Pt.slots] at X82 l82 y82 z82 st82 hQ82
              subst l82 y82 z82
              obtain ⟨r_82, rfl, Nq82, Kq82⟩ := hQ82
              have N82 := Fr.app N63 Nq82
              have e82 : T82.heap = h63 := Kq82
              refine own_step (U' := (T82.setTop (mkF m 193 #[.val (.ref a1), .val (.ref b1), .val (.int acc), .val (.long acc3), .second, .val (.long (0 : Int64)), .second, .val (.int i7)] [(.int r_82), (.ref a1)]))) (fun t ht => st82 _ ht) ?_
              obtain ⟨T83, h83, X83, e83, W83, st83⟩ := putF X82 hx hZ hown (host := "") (Or.inl (hw _ (List.mem_of_getElem? (i := 56) rfl))) Via.refl e82 f63_1 f63_7 (Or.inr ⟨(hw _ (List.mem_of_getElem? (i := 57) rfl)), rfl, hnm⟩) (hw _ (List.mem_of_getElem? (i := 37) rfl)) (ty := .int) (by decide) rfl rfl (g := (mkF m 193 #[.val (.ref a1), .val (.ref b1), .val (.int acc), .val (.long acc3), .second, .val (.long (0 : Int64)), .second, .val (.int i7)] [(.int r_82), (.ref a1)])) rfl rfl (hb hby own_d8_193)
              have f83_1 := f63_2.other W83 (Or.inr (slot_ne (Or.inr (hw _ (List.mem_of_getElem? (i := 59) rfl))) (Or.inr (hw _ (List.mem_of_getElem? (i := 57) rfl))) (by decide) (t := .boolean) (t' := .int) (by decide) (by decide)))
              have f83_2 := f63_3.other W83 (Or.inr (slot_ne (Or.inr (hw _ (List.mem_of_getElem? (i := 61) rfl))) (Or.inr (hw _ (List.mem_of_getElem? (i := 57) rfl))) (by decide) (t := .long) (t' := .int) (by decide) (by decide)))
              have f83_3 := f63_4.other W83 (Or.inr (slot_ne (Or.inr (hw _ (List.mem_of_getElem? (i := 63) rfl))) (Or.inr (hw _ (List.mem_of_getElem? (i := 57) rfl))) (by decide) (t := .long) (t' := .int) (by decide) (by decide)))
              have f83_4 := f63_5.other W83 (Or.inr (slot_ne (Or.inr (hw _ (List.mem_of_getElem? (i := 68) rfl))) (Or.inr (hw _ (List.mem_of_getElem? (i := 57) rfl))) (by decide) (t := .long) (t' := .int) (by decide) (by decide)))
              have f83_5 := f63_6.other W83 (Or.inr (slot_ne (Or.inr (hw _ (List.mem_of_getElem? (i := 73) rfl))) (Or.inr (hw _ (List.mem_of_getElem? (i := 57) rfl))) (by decide) (t := .long) (t' := .int) (by decide) (by decide)))
              have f83_6 := f63_7.wr W83
              have f83_7 := f63_8.other W83 ne_b1_a1
              have f83_8 := f63_9.other W83 (Or.inr (slot_ne (Or.inr (hw _ (List.mem_of_getElem? (i := 44) rfl))) (Or.inr (hw _ (List.mem_of_getElem? (i := 57) rfl))) (by decide) (t := (.array .char)) (t' := .int) (by decide) (by decide)))
              have f83_9 := f63_10.other W83 (Or.inr (slot_ne (Or.inr (hw _ (List.mem_of_getElem? (i := 46) rfl))) (Or.inr (hw _ (List.mem_of_getElem? (i := 57) rfl))) (by decide) (t := .int) (t' := .int) (by decide) (by decide)))
              have f83_10 := F63.other W83 (Or.inr (slot_ne (Or.inr (hw _ (List.mem_of_getElem? (i := 52) rfl))) (Or.inr (hw _ (List.mem_of_getElem? (i := 57) rfl))) (by decide) (t := .int) (t' := .int) (by decide) (by decide)))
              have F83 := f63_1.same W83
              have N83 := Fr.snoc X83 N82 g_a1
              have K83 : Keep h0 h83 [a1] := K63.wr W83 (Or.inl (by simp))
              refine own_step (U' := (T83.setTop (mkF m 196 #[.val (.ref a1), .val (.ref b1), .val (.int acc), .val (.long acc3), .second, .val (.long (0 : Int64)), .second, .val (.int i7)] []))) (fun t ht => st83 _ ht) ?_
              refine own_step (U' := (T83.setTop (mkF m 197 #[.val (.ref a1), .val (.ref b1), .val (.int acc), .val (.long acc3), .second, .val (.long (0 : Int64)), .second, .val (.int i7)] [(.ref a1)]))) (fun t ht => XS.aloadN X83.here hx rfl (hb hby own_d8_196) rfl rfl ht) ?_
              have tail209 : ∀ (qb : Int32), own_Go p e below s ({ frames := 1, cells := 0, slots := 0, locals := 17 } : Room).cells ({ frames := 1, cells := 0, slots := 0, locals := 17 } : Room).slots (own_Q_fli Z a1 b1 ka cs mm M h0 n0) (T83.setTop (mkF m 209 #[.val (.ref a1), .val (.ref b1), .val (.int acc), .val (.long acc3), .second, .val (.long (0 : Int64)), .second, .val (.int i7)] [(.int qb), (.ref a1)])) := by
                intro qb
                obtain ⟨T84, h84, X84, e84, W84, st84⟩ := putFN X83 hx hZ hown (hw _ (List.mem_of_getElem? (i := 58) rfl)) Via.refl e83 f83_1 f83_6 (Or.inr ⟨(hw _ (List.mem_of_getElem? (i := 59) rfl)), rfl, hnm⟩) (hw _ (List.mem_of_getElem? (i := 37) rfl)) (ty := .boolean) (v' := (.int (qb &&& 1))) (by decide) rfl (fits_nar_bool _) (g := (mkF m 209 #[.val (.ref a1), .val (.ref b1), .val (.int acc), .val (.long acc3), .second, .val (.long (0 : Int64)), .second, .val (.int i7)] [(.int qb), (.ref a1)])) rfl rfl (hb hby own_d8_209)
                have f84_1 := f83_2.other W84 (Or.inr (slot_ne (Or.inr (hw _ (List.mem_of_getElem? (i := 61) rfl))) (Or.inr (hw _ (List.mem_of_getElem? (i := 59) rfl))) (by decide) (t := .long) (t' := .boolean) (by decide) (by decide)))
                have f84_2 := f83_3.other W84 (Or.inr (slot_ne (Or.inr (hw _ (List.mem_of_getElem? (i := 63) rfl))) (Or.inr (hw _ (List.mem_of_getElem? (i := 59) rfl))) (by decide) (t := .long) (t' := .boolean) (by decide) (by decide)))
                have f84_3 := f83_4.other W84 (Or.inr (slot_ne (Or.inr (hw _ (List.mem_of_getElem? (i := 68) rfl))) (Or.inr (hw _ (List.mem_of_getElem? (i := 59) rfl))) (by decide) (t := .long) (t' := .boolean) (by decide) (by decide)))
                have f84_4 := f83_5.other W84 (Or.inr (slot_ne (Or.inr (hw _ (List.mem_of_getElem? (i := 73) rfl))) (Or.inr (hw _ (List.mem_of_getElem? (i := 59) rfl))) (by decide) (t := .long) (t' := .boolean) (by decide) (by decide)))
                have f84_5 := f83_6.wr W84
                have f84_6 := f83_7.other W84 ne_b1_a1
                have f84_7 := f83_8.other W84 (Or.inr (slot_ne (Or.inr (hw _ (List.mem_of_getElem? (i := 44) rfl))) (Or.inr (hw _ (List.mem_of_getElem? (i := 59) rfl))) (by decide) (t := (.array .char)) (t' := .boolean) (by decide) (by decide)))
                have f84_8 := f83_9.other W84 (Or.inr (slot_ne (Or.inr (hw _ (List.mem_of_getElem? (i := 46) rfl))) (Or.inr (hw _ (List.mem_of_getElem? (i := 59) rfl))) (by decide) (t := .int) (t' := .boolean) (by decide) (by decide)))
                have f84_9 := f83_10.other W84 (Or.inr (slot_ne (Or.inr (hw _ (List.mem_of_getElem? (i := 52) rfl))) (Or.inr (hw _ (List.mem_of_getElem? (i := 59) rfl))) (by decide) (t := .int) (t' := .boolean) (by decide) (by decide)))
                have f84_10 := F83.other W84 (Or.inr (slot_ne (Or.inr (hw _ (List.mem_of_getElem? (i := 57) rfl))) (Or.inr (hw _ (List.mem_of_getElem? (i := 59) rfl))) (by decide) (t := .int) (t' := .boolean) (by decide) (by decide)))
                have F84 := f83_1.same W84
                have N84 := Fr.snoc X84 N83 g_a1
                have K84 : Keep h0 h84 [a1] := K83.wr W84 (Or.inl (by simp))
                refine own_step (U' := (T84.setTop (mkF m 212 #[.val (.ref a1), .val (.ref b1), .val (.int acc), .val (.long acc3), .second, .val (.long (0 : Int64)), .second, .val (.int i7)] []))) (fun t ht => st84 _ ht) ?_
                refine own_step (U' := (T84.setTop (mkF m 213 #[.val (.ref a1), .val (.ref b1), .val (.int acc), .val (.long acc3), .second, .val (.long (0 : Int64)), .second, .val (.int i7)] [(.ref a1)]))) (fun t ht => XS.aloadN X84.here hx rfl (hb hby own_d8_212) rfl rfl ht) ?_
                refine own_step (U' := (T84.setTop (mkF m 214 #[.val (.ref a1), .val (.ref b1), .val (.int acc), .val (.long acc3), .second, .val (.long (0 : Int64)), .second, .val (.int i7)] [(.long acc3), (.ref a1)]))) (fun t ht => XT.lloadN X84.here hx rfl (hb hby own_d8_213) rfl ht) ?_
                obtain ⟨T85, h85, X85, e85, W85, st85⟩ := putF X84 hx hZ hown (host := "") (Or.inl (hw _ (List.mem_of_getElem? (i := 60) rfl))) Via.refl e84 f84_1 f84_5 (Or.inr ⟨(hw _ (List.mem_of_getElem? (i := 61) rfl)), rfl, hnm⟩) (hw _ (List.mem_of_getElem? (i := 37) rfl)) (ty := .long) (by decide) rfl rfl (g := (mkF m 214 #[.val (.ref a1), .val (.ref b1), .val (.int acc), .val (.long acc3), .second, .val (.long (0 : Int64)), .second, .val (.int i7)] [(.long acc3), (.ref a1)])) rfl rfl (hb hby own_d8_214)
                have f85_1 := f84_2.other W85 (Or.inr (slot_ne (Or.inr (hw _ (List.mem_of_getElem? (i := 63) rfl))) (Or.inr (hw _ (List.mem_of_getElem? (i := 61) rfl))) (by decide) (t := .long) (t' := .long) (by decide) (by decide)))
                have f85_2 := f84_3.other W85 (Or.inr (slot_ne (Or.inr (hw _ (List.mem_of_getElem? (i := 68) rfl))) (Or.inr (hw _ (List.mem_of_getElem? (i := 61) rfl))) (by decide) (t := .long) (t' := .long) (by decide) (by decide)))
                have f85_3 := f84_4.other W85 (Or.inr (slot_ne (Or.inr (hw _ (List.mem_of_getElem? (i := 73) rfl))) (Or.inr (hw _ (List.mem_of_getElem? (i := 61) rfl))) (by decide) (t := .long) (t' := .long) (by decide) (by decide)))
                have f85_4 := f84_5.wr W85
                have f85_5 := f84_6.other W85 ne_b1_a1
                have f85_6 := f84_7.other W85 (Or.inr (slot_ne (Or.inr (hw _ (List.mem_of_getElem? (i := 44) rfl))) (Or.inr (hw _ (List.mem_of_getElem? (i := 61) rfl))) (by decide) (t := (.array .char)) (t' := .long) (by decide) (by decide)))
                have f85_7 := f84_8.other W85 (Or.inr (slot_ne (Or.inr (hw _ (List.mem_of_getElem? (i := 46) rfl))) (Or.inr (hw _ (List.mem_of_getElem? (i := 61) rfl))) (by decide) (t := .int) (t' := .long) (by decide) (by decide)))
                have f85_8 := f84_9.other W85 (Or.inr (slot_ne (Or.inr (hw _ (List.mem_of_getElem? (i := 52) rfl))) (Or.inr (hw _ (List.mem_of_getElem? (i := 61) rfl))) (by decide) (t := .int) (t' := .long) (by decide) (by decide)))
                have f85_9 := f84_10.other W85 (Or.inr (slot_ne (Or.inr (hw _ (List.mem_of_getElem? (i := 57) rfl))) (Or.inr (hw _ (List.mem_of_getElem? (i := 61) rfl))) (by decide) (t := .int) (t' := .long) (by decide) (by decide)))
                have f85_10 := F84.other W85 (Or.inr (slot_ne (Or.inr (hw _ (List.mem_of_getElem? (i := 59) rfl))) (Or.inr (hw _ (List.mem_of_getElem? (i := 61) rfl))) (by decide) (t := .boolean) (t' := .long) (by decide) (by decide)))
                have F85 := f84_1.same W85
                have N85 := Fr.snoc X85 N84 g_a1
                have K85 : Keep h0 h85 [a1] := K84.wr W85 (Or.inl (by simp))
                refine own_step (U' := (T85.setTop (mkF m 217 #[.val (.ref a1), .val (.ref b1), .val (.int acc), .val (.long acc3), .second, .val (.long (0 : Int64)), .second, .val (.int i7)] []))) (fun t ht => st85 _ ht) ?_
                refine own_step (U' := (T85.setTop (mkF m 218 #[.val (.ref a1), .val (.ref b1), .val (.int acc), .val (.long acc3), .second, .val (.long (0 : Int64)), .second, .val (.int i7)] [(.ref a1)]))) (fun t ht => XS.aloadN X85.here hx rfl (hb hby own_d8_217) rfl rfl ht) ?_
                refine own_step (U' := (T85.setTop (mkF m 220 #[.val (.ref a1), .val (.ref b1), .val (.int acc), .val (.long acc3), .second, .val (.long (0 : Int64)), .second, .val (.int i7)] [(.long (0 : Int64)), (.ref a1)]))) (fun t ht => XT.lload X85.here hx rfl (hb hby own_d8_218) rfl ht) ?_
                obtain ⟨T86, h86, X86, e86, W86, st86⟩ := putF X85 hx hZ hown (host := "") (Or.inl (hw _ (List.mem_of_getElem? (i := 62) rfl))) Via.refl e85 f85_1 f85_4 (Or.inr ⟨(hw _ (List.mem_of_getElem? (i := 63) rfl)), rfl, hnm⟩) (hw _ (List.mem_of_getElem? (i := 37) rfl)) (ty := .long) (by decide) rfl rfl (g := (mkF m 220 #[.val (.ref a1), .val (.ref b1), .val (.int acc), .val (.long acc3), .second, .val (.long (0 : Int64)), .second, .val (.int i7)] [(.long (0 : Int64)), (.ref a1)])) rfl rfl (hb hby own_d8_220)
                have f86_1 := f85_2.other W86 (Or.inr (slot_ne (Or.inr (hw _ (List.mem_of_getElem? (i := 68) rfl))) (Or.inr (hw _ (List.mem_of_getElem? (i := 63) rfl))) (by decide) (t := .long) (t' := .long) (by decide) (by decide)))
                have f86_2 := f85_3.other W86 (Or.inr (slot_ne (Or.inr (hw _ (List.mem_of_getElem? (i := 73) rfl))) (Or.inr (hw _ (List.mem_of_getElem? (i := 63) rfl))) (by decide) (t := .long) (t' := .long) (by decide) (by decide)))
                have f86_3 := f85_4.wr W86
                have f86_4 := f85_5.other W86 ne_b1_a1
                have f86_5 := f85_6.other W86 (Or.inr (slot_ne (Or.inr (hw _ (List.mem_of_getElem? (i := 44) rfl))) (Or.inr (hw _ (List.mem_of_getElem? (i := 63) rfl))) (by decide) (t := (.array .char)) (t' := .long) (by decide) (by decide)))
                have f86_6 := f85_7.other W86 (Or.inr (slot_ne (Or.inr (hw _ (List.mem_of_getElem? (i := 46) rfl))) (Or.inr (hw _ (List.mem_of_getElem? (i := 63) rfl))) (by decide) (t := .int) (t' := .long) (by decide) (by decide)))
                have f86_7 := f85_8.other W86 (Or.inr (slot_ne (Or.inr (hw _ (List.mem_of_getElem? (i := 52) rfl))) (Or.inr (hw _ (List.mem_of_getElem? (i := 63) rfl))) (by decide) (t := .int) (t' := .long) (by decide) (by decide)))
                have f86_8 := f85_9.other W86 (Or.inr (slot_ne (Or.inr (hw _ (List.mem_of_getElem? (i := 57) rfl))) (Or.inr (hw _ (List.mem_of_getElem? (i := 63) rfl))) (by decide) (t := .int) (t' := .long) (by decide) (by decide)))
                have f86_9 := f85_10.other W86 (Or.inr (slot_ne (Or.inr (hw _ (List.mem_of_getElem? (i := 59) rfl))) (Or.inr (hw _ (List.mem_of_getElem? (i := 63) rfl))) (by decide) (t := .boolean) (t' := .long) (by decide) (by decide)))
                have f86_10 := F85.other W86 (Or.inr (slot_ne (Or.inr (hw _ (List.mem_of_getElem? (i := 61) rfl))) (Or.inr (hw _ (List.mem_of_getElem? (i := 63) rfl))) (by decide) (t := .long) (t' := .long) (by decide) (by decide)))
                have F86 := f85_1.same W86
                have N86 := Fr.snoc X86 N85 g_a1
                have K86 : Keep h0 h86 [a1] := K85.wr W86 (Or.inl (by simp))
                refine own_step (U' := (T86.setTop (mkF m 223 #[.val (.ref a1), .val (.ref b1), .val (.int acc), .val (.long acc3), .second, .val (.long (0 : Int64)), .second, .val (.int i7)] []))) (fun t ht => st86 _ ht) ?_
                refine own_step (U' := (T86.setTop (mkF m 224 #[.val (.ref a1), .val (.ref b1), .val (.int acc), .val (.long acc3), .second, .val (.long (0 : Int64)), .second, .val (.int i7)] [(.ref a1)]))) (fun t ht => XS.aloadN X86.here hx rfl (hb hby own_d8_223) rfl rfl ht) ?_
                refine own_step (U' := (T86.setTop (mkF m 225 #[.val (.ref a1), .val (.ref b1), .val (.int acc), .val (.long acc3), .second, .val (.long (0 : Int64)), .second, .val (.int i7)] [(.ref a1), (.ref a1)]))) (fun t ht => XS.aloadN X86.here hx rfl (hb hby own_d8_224) rfl rfl ht) ?_
                obtain ⟨T87, X87, e87, st87⟩ := getF X86 hx hZ hown (host := "") (Or.inl (hw _ (List.mem_of_getElem? (i := 45) rfl))) Via.refl e86 f86_6 (g := (mkF m 225 #[.val (.ref a1), .val (.ref b1), .val (.int acc), .val (.long acc3), .second, .val (.long (0 : Int64)), .second, .val (.int i7)] [(.ref a1), (.ref a1)])) rfl rfl (hb hby own_d8_225)
                refine own_step (U' := (T87.setTop (mkF m 228 #[.val (.ref a1), .val (.ref b1), .val (.int acc), .val (.long acc3), .second, .val (.long (0 : Int64)), .second, .val (.int i7)] [(.int mm), (.ref a1)]))) (fun t ht => st87 _ ht) ?_
                refine own_step (U' := (T87.setTop (mkF m 230 #[.val (.ref a1), .val (.ref b1), .val (.int acc), .val (.long acc3), .second, .val (.long (0 : Int64)), .second, .val (.int i7)] [(.int (8 : Int32)), (.int mm), (.ref a1)]))) (fun t ht => XS.bipush X87.here hx rfl (hb hby own_d8_228) ht) ?_
                obtain ⟨Lo89, Xo89, No89⟩ : ∃ Lx, Stand p l e ({ frames := 1, cells := 0, slots := 0, locals := 17 } : Room) s m #[(.ref a1), (.ref b1)] below meth c T87 Lx 0 0 ∧ Fr n0 Lx := ⟨_, X87, N86⟩
                obtain ⟨_, _, ⟨T88, L88, k88, n88⟩, -, X88, ⟨Lc88, hQ88, l88, y88, z88⟩, st88⟩ := Jvm.LawKit.callS Xo89 hx (y := (⟨"java/lang/Math", "min", "(II)I"⟩ : MethodName)) hown (mvT hZ (hw _ (List.mem_of_getElem? (i := 47) rfl))) (mvT hZ (hw _ (List.mem_of_getElem? (i := 48) rfl))) (mvT hZ (hw _ (List.mem_of_getElem? (i := 49) rfl))) (mvT hZ (hw _ (List.mem_of_getElem? (i := 50) rfl))) (by decide) (backOf (W := 1) (own_m_min l Z a0 hw [] (mm) ((8 : Int32)) h86 n0 (Nat.le_trans Z0 K86.1) ) hZ (hw _ (List.mem_of_getElem? (i := 50) rfl)) (hw _ (List.mem_of_getElem? (i := 49) rfl)) (by decide) (by decide)) (g := (mkF m 230 #[.val (.ref a1), .val (.ref b1), .val (.int acc), .val (.long acc3), .second, .val (.long (0 : Int64)), .second, .val (.int i7)] [(.int (8 : Int32)), (.int mm), (.ref a1)])) rfl (by rw [hml]; rfl) (argsL := [(.int mm), (.int (8 : Int32))]) (rest := [(.ref a1)]) (lenOf own_pd2 rfl) rfl (by show 2 * 0 + _ ≤ _; exact Nat.le_of_eq rfl) (hb hby own_d8_230) (fun _ _ => ⟨rfl, e87, (by decide : 0 + 0 ≤ _), (by decide : 0 + 0 ≤ _)⟩)
                dsimp only [Pt.U, Pt.locs, Pt.cells, Pt.slots] at X88 l88 y88 z88 st88 hQ88
                subst l88 y88 z88
                obtain ⟨rfl, Nq88, Kq88⟩ := hQ88
                have N88 := Fr.app No89 Nq88
                have e88 : T88.heap = h86 := Kq88
                refine own_step (U' := (T88.setTop (mkF m 233 #[.val (.ref a1), .val (.ref b1), .val (.int acc), .val (.long acc3), .second, .val (.long (0 : Int64)), .second, .val (.int i7)] [(.int (own_min mm (8 : Int32))), (.ref a1)]))) (fun t ht => st88 _ ht) ?_
                obtain ⟨_, _, ⟨T90, L90, k90, n90⟩, -, X90, ⟨Lc90, hQ90, l90, y90, z90⟩, st90⟩ := Jvm.LawKit.callS X88 hx (y := (⟨"com/example/skip2/skip2/windowsearch/FlagSearch", "mask", "(I)J"⟩ : MethodName)) hown (mvT hZ (hw _ (List.mem_of_getElem? (i := 64) rfl))) (mvT hZ (hw _ (List.mem_of_getElem? (i := 65) rfl))) (mvT hZ (hw _ (List.mem_of_getElem? (i := 38) rfl))) (mvT hZ (hw _ (List.mem_of_getElem? (i := 66) rfl))) (by decide) (backOf (W := 1) (own_m_mask l Z a0 hw [] ((own_min mm (8 : Int32))) h86 n0 (Nat.le_trans Z0 K86.1) ) hZ (hw _ (List.mem_of_getElem? (i := 66) rfl)) (hw _ (List.mem_of_getElem? (i := 38) rfl)) (by decide) (by decide)) (g := (mkF m 233 #[.val (.ref a1), .val (.ref b1), .val (.int acc), .val (.long acc3), .second, .val (.long (0 : Int64)), .second, .val (.int i7)] [(.int (own_min mm (8 : Int32))), (.ref a1)])) rfl (by rw [hml]; rfl) (argsL := [(.int (own_min mm (8 : Int32)))]) (rest := [(.ref a1)]) (lenOf own_pd4 rfl) rfl (by show 2 * 0 + _ ≤ _; exact Nat.le_of_eq rfl) (hb hby own_d8_233) (fun _ _ => ⟨rfl, e88, (by decide : 0 + 0 ≤ _), (by decide : 0 + 0 ≤ _)⟩)
                dsimp only [Pt.U, Pt.locs, Pt.cells, Pt.slots] at X90 l90 y90 z90 st90 hQ90
                subst l90 y90 z90
                obtain ⟨rfl, Nq90, Kq90⟩ := hQ90
                have N90 := Fr.app N88 Nq90
                have e90 : T90.heap = h86 := Kq90
                refine own_step (U' := (T90.setTop (mkF m 236 #[.val (.ref a1), .val (.ref b1), .val (.int acc), .val (.long acc3), .second, .val (.long (0 : Int64)), .second, .val (.int i7)] [(.long (own_mask (own_min mm (8 : Int32)))), (.ref a1)]))) (fun t ht => st90 _ ht) ?_
                obtain ⟨T91, h91, X91, e91, W91, st91⟩ := putF X90 hx hZ hown (host := "") (Or.inl (hw _ (List.mem_of_getElem? (i := 67) rfl))) Via.refl e90 f86_1 f86_3 (Or.inr ⟨(hw _ (List.mem_of_getElem? (i := 68) rfl)), rfl, hnm⟩) (hw _ (List.mem_of_getElem? (i := 37) rfl)) (ty := .long) (by decide) rfl rfl (g := (mkF m 236 #[.val (.ref a1), .val (.ref b1), .val (.int acc), .val (.long acc3), .second, .val (.long (0 : Int64)), .second, .val (.int i7)] [(.long (own_mask (own_min mm (8 : Int32)))), (.ref a1)])) rfl rfl (hb hby own_d8_236)
                have f91_1 := f86_2.other W91 (Or.inr (slot_ne (Or.inr (hw _ (List.mem_of_getElem? (i := 73) rfl))) (Or.inr (hw _ (List.mem_of_getElem? (i := 68) rfl))) (by decide) (t := .long) (t' := .long) (by decide) (by decide)))
                have f91_2 := f86_3.wr W91
                have f91_3 := f86_4.other W91 ne_b1_a1
                have f91_4 := f86_5.other W91 (Or.inr (slot_ne (Or.inr (hw _ (List.mem_of_getElem? (i := 44) rfl))) (Or.inr (hw _ (List.mem_of_getElem? (i := 68) rfl))) (by decide) (t := (.array .char)) (t' := .long) (by decide) (by decide)))
                have f91_5 := f86_6.other W91 (Or.inr (slot_ne (Or.inr (hw _ (List.mem_of_getElem? (i := 46) rfl))) (Or.inr (hw _ (List.mem_of_getElem? (i := 68) rfl))) (by decide) (t := .int) (t' := .long) (by decide) (by decide)))
                have f91_6 := f86_7.other W91 (Or.inr (slot_ne (Or.inr (hw _ (List.mem_of_getElem? (i := 52) rfl))) (Or.inr (hw _ (List.mem_of_getElem? (i := 68) rfl))) (by decide) (t := .int) (t' := .long) (by decide) (by decide)))
                have f91_7 := f86_8.other W91 (Or.inr (slot_ne (Or.inr (hw _ (List.mem_of_getElem? (i := 57) rfl))) (Or.inr (hw _ (List.mem_of_getElem? (i := 68) rfl))) (by decide) (t := .int) (t' := .long) (by decide) (by decide)))
                have f91_8 := f86_9.other W91 (Or.inr (slot_ne (Or.inr (hw _ (List.mem_of_getElem? (i := 59) rfl))) (Or.inr (hw _ (List.mem_of_getElem? (i := 68) rfl))) (by decide) (t := .boolean) (t' := .long) (by decide) (by decide)))
                have f91_9 := f86_10.other W91 (Or.inr (slot_ne (Or.inr (hw _ (List.mem_of_getElem? (i := 61) rfl))) (Or.inr (hw _ (List.mem_of_getElem? (i := 68) rfl))) (by decide) (t := .long) (t' := .long) (by decide) (by decide)))
                have f91_10 := F86.other W91 (Or.inr (slot_ne (Or.inr (hw _ (List.mem_of_getElem? (i := 63) rfl))) (Or.inr (hw _ (List.mem_of_getElem? (i := 68) rfl))) (by decide) (t := .long) (t' := .long) (by decide) (by decide)))
                have F91 := f86_1.same W91
                have N91 := Fr.snoc X91 N90 g_a1
                have K91 : Keep h0 h91 [a1] := K86.wr W91 (Or.inl (by simp))
                refine own_step (U' := (T91.setTop (mkF m 239 #[.val (.ref a1), .val (.ref b1), .val (.int acc), .val (.long acc3), .second, .val (.long (0 : Int64)), .second, .val (.int i7)] []))) (fun t ht => st91 _ ht) ?_
                refine own_step (U' := (T91.setTop (mkF m 240 #[.val (.ref a1), .val (.ref b1), .val (.int acc), .val (.long acc3), .second, .val (.long (0 : Int64)), .second, .val (.int i7)] [(.ref a1)]))) (fun t ht => XS.aloadN X91.here hx rfl (hb hby own_d8_239) rfl rfl ht) ?_
                refine own_step (U' := (T91.setTop (mkF m 241 #[.val (.ref a1), .val (.ref b1), .val (.int acc), .val (.long acc3), .second, .val (.long (0 : Int64)), .second, .val (.int i7)] [(.ref a1), (.ref a1)]))) (fun t ht => XS.aloadN X91.here hx rfl (hb hby own_d8_240) rfl rfl ht) ?_
                obtain ⟨T92, X92, e92, st92⟩ := getF X91 hx hZ hown (host := "") (Or.inl (hw _ (List.mem_of_getElem? (i := 45) rfl))) Via.refl e91 f91_5 (g := (mkF m 241 #[.val (.ref a1), .val (.ref b1), .val (.int acc), .val (.long acc3), .second, .val (.long (0 : Int64)), .second, .val (.int i7)] [(.ref a1), (.ref a1)])) rfl rfl (hb hby own_d8_241)
                refine own_step (U' := (T92.setTop (mkF m 244 #[.val (.ref a1), .val (.ref b1), .val (.int acc), .val (.long acc3), .second, .val (.long (0 : Int64)), .second, .val (.int i7)] [(.int mm), (.ref a1)]))) (fun t ht => st92 _ ht) ?_
                refine own_step (U' := (T92.setTop (mkF m 246 #[.val (.ref a1), .val (.ref b1), .val (.int acc), .val (.long acc3), .second, .val (.long (0 : Int64)), .second, .val (.int i7)] [(.int (8 : Int32)), (.int mm), (.ref a1)]))) (fun t ht => XS.bipush X92.here hx rfl (hb hby own_d8_244) ht) ?_
                refine own_step (U' := (T92.setTop (mkF m 247 #[.val (.ref a1), .val (.ref b1), .val (.int acc), .val (.long acc3), .second, .val (.long (0 : Int64)), .second, .val (.int i7)] [(.int (mm - (8 : Int32))), (.ref a1)]))) (fun t ht => XS.isub X92.here hx rfl (hb hby own_d8_246) rfl ht) ?_
                refine own_step (U' := (T92.setTop (mkF m 248 #[.val (.ref a1), .val (.ref b1), .val (.int acc), .val (.long acc3), .second, .val (.long (0 : Int64)), .second, .val (.int i7)] [(.int (0 : Int32)), (.int (mm - (8 : Int32))), (.ref a1)]))) (fun t ht => XS.iconst X92.here hx rfl (hb hby own_d8_247) ht) ?_
                obtain ⟨_, _, ⟨T93, L93, k93, n93⟩, -, X93, ⟨Lc93, hQ93, l93, y93, z93⟩, st93⟩ := Jvm.LawKit.callS X92 hx (y := (⟨"java/lang/Math", "max", "(II)I"⟩ : MethodName)) hown (mvT hZ (hw _ (List.mem_of_getElem? (i := 69) rfl))) (mvT hZ (hw _ (List.mem_of_getElem? (i := 70) rfl))) (mvT hZ (hw _ (List.mem_of_getElem? (i := 49) rfl))) (mvT hZ (hw _ (List.mem_of_getElem? (i := 71) rfl))) (by decide) (backOf (W := 1) (own_m_max l Z a0 hw [] ((mm - (8 : Int32))) ((0 : Int32)) h91 n0 (Nat.le_trans Z0 K91.1) ) hZ (hw _ (List.mem_of_getElem? (i := 71) rfl)) (hw _ (List.mem_of_getElem? (i := 49) rfl)) (by decide) (by decide)) (g := (mkF m 248 #[.val (.ref a1), .val (.ref b1), .val (.int acc), .val (.long acc3), .second, .val (.long (0 : Int64)), .second, .val (.int i7)] [(.int (0 : Int32)), (.int (mm - (8 : Int32))), (.ref a1)])) rfl (by rw [hml]; rfl) (argsL := [(.int (mm - (8 : Int32))), (.int (0 : Int32))]) (rest := [(.ref a1)]) (lenOf own_pd2 rfl) rfl (by show 2 * 0 + _ ≤ _; exact Nat.le_of_eq rfl) (hb hby own_d8_248) (fun _ _ => ⟨rfl, e92, (by decide : 0 + 0 ≤ _), (by decide : 0 + 0 ≤ _)⟩)
                dsimp only [Pt.U, Pt.locs, Pt.cells, Pt.slots] at X93 l93 y93 z93 st93 hQ93
                subst l93 y93 z93
                obtain ⟨rfl, Nq93, Kq93⟩ := hQ93
                have N93 := Fr.app N91 Nq93
                have e93 : T93.heap = h91 := Kq93
                refine own_step (U' := (T93.setTop (mkF m 251 #[.val (.ref a1), .val (.ref b1), .val (.int acc), .val (.long acc3), .second, .val (.long (0 : Int64)), .second, .val (.int i7)] [(.int (own_max (mm - (8 : Int32)) (0 : Int32))), (.ref a1)]))) (fun t ht => st93 _ ht) ?_
                refine own_step (U' := (T93.setTop (mkF m 253 #[.val (.ref a1), .val (.ref b1), .val (.int acc), .val (.long acc3), .second, .val (.long (0 : Int64)), .second, .val (.int i7)] [(.int (8 : Int32)), (.int (own_max (mm - (8 : Int32)) (0 : Int32))), (.ref a1)]))) (fun t ht => XS.bipush X93.here hx rfl (hb hby own_d8_251) ht) ?_
                obtain ⟨_, _, ⟨T94, L94, k94, n94⟩, -, X94, ⟨Lc94, hQ94, l94, y94, z94⟩, st94⟩ := Jvm.LawKit.callS X93 hx (y := (⟨"java/lang/Math", "min", "(II)I"⟩ : MethodName)) hown (mvT hZ (hw _ (List.mem_of_getElem? (i := 47) rfl))) (mvT hZ (hw _ (List.mem_of_getElem? (i := 48) rfl))) (mvT hZ (hw _ (List.mem_of_getElem? (i := 49) rfl))) (mvT hZ (hw _ (List.mem_of_getElem? (i := 50) rfl))) (by decide) (backOf (W := 1) (own_m_min l Z a0 hw [] ((own_max (mm - (8 : Int32)) (0 : Int32))) ((8 : Int32)) h91 n0 (Nat.le_trans Z0 K91.1) ) hZ (hw _ (List.mem_of_getElem? (i := 50) rfl)) (hw _ (List.mem_of_getElem? (i := 49) rfl)) (by decide) (by decide)) (g := (mkF m 253 #[.val (.ref a1), .val (.ref b1), .val (.int acc), .val (.long acc3), .second, .val (.long (0 : Int64)), .second, .val (.int i7)] [(.int (8 : Int32)), (.int (own_max (mm - (8 : Int32)) (0 : Int32))), (.ref a1)])) rfl (by rw [hml]; rfl) (argsL := [(.int (own_max (mm - (8 : Int32)) (0 : Int32))), (.int (8 : Int32))]) (rest := [(.ref a1)]) (lenOf own_pd2 rfl) rfl (by show 2 * 0 + _ ≤ _; exact Nat.le_of_eq rfl) (hb hby own_d8_253) (fun _ _ => ⟨rfl, e93, (by decide : 0 + 0 ≤ _), (by decide : 0 + 0 ≤ _)⟩)
                dsimp only [Pt.U, Pt.locs, Pt.cells, Pt.slots] at X94 l94 y94 z94 st94 hQ94
                subst l94 y94 z94
                obtain ⟨rfl, Nq94, Kq94⟩ := hQ94
                have N94 := Fr.app N93 Nq94
                have e94 : T94.heap = h91 := Kq94
                refine own_step (U' := (T94.setTop (mkF m 256 #[.val (.ref a1), .val (.ref b1), .val (.int acc), .val (.long acc3), .second, .val (.long (0 : Int64)), .second, .val (.int i7)] [(.int (own_min (own_max (mm - (8 : Int32)) (0 : Int32)) (8 : Int32))), (.ref a1)]))) (fun t ht => st94 _ ht) ?_
                obtain ⟨_, _, ⟨T95, L95, k95, n95⟩, -, X95, ⟨Lc95, hQ95, l95, y95, z95⟩, st95⟩ := Jvm.LawKit.callS X94 hx (y := (⟨"com/example/skip2/skip2/windowsearch/FlagSearch", "mask", "(I)J"⟩ : MethodName)) hown (mvT hZ (hw _ (List.mem_of_getElem? (i := 64) rfl))) (mvT hZ (hw _ (List.mem_of_getElem? (i := 65) rfl))) (mvT hZ (hw _ (List.mem_of_getElem? (i := 38) rfl))) (mvT hZ (hw _ (List.mem_of_getElem? (i := 66) rfl))) (by decide) (backOf (W := 1) (own_m_mask l Z a0 hw [] ((own_min (own_max (mm - (8 : Int32)) (0 : Int32)) (8 : Int32))) h91 n0 (Nat.le_trans Z0 K91.1) ) hZ (hw _ (List.mem_of_getElem? (i := 66) rfl)) (hw _ (List.mem_of_getElem? (i := 38) rfl)) (by decide) (by decide)) (g := (mkF m 256 #[.val (.ref a1), .val (.ref b1), .val (.int acc), .val (.long acc3), .second, .val (.long (0 : Int64)), .second, .val (.int i7)] [(.int (own_min (own_max (mm - (8 : Int32)) (0 : Int32)) (8 : Int32))), (.ref a1)])) rfl (by rw [hml]; rfl) (argsL := [(.int (own_min (own_max (mm - (8 : Int32)) (0 : Int32)) (8 : Int32)))]) (rest := [(.ref a1)]) (lenOf own_pd4 rfl) rfl (by show 2 * 0 + _ ≤ _; exact Nat.le_of_eq rfl) (hb hby own_d8_256) (fun _ _ => ⟨rfl, e94, (by decide : 0 + 0 ≤ _), (by decide : 0 + 0 ≤ _)⟩)
                dsimp only [Pt.U, Pt.locs, Pt.cells, Pt.slots] at X95 l95 y95 z95 st95 hQ95
                subst l95 y95 z95
                obtain ⟨rfl, Nq95, Kq95⟩ := hQ95
                have N95 := Fr.app N94 Nq95
                have e95 : T95.heap = h91 := Kq95
                refine own_step (U' := (T95.setTop (mkF m 259 #[.val (.ref a1), .val (.ref b1), .val (.int acc), .val (.long acc3), .second, .val (.long (0 : Int64)), .second, .val (.int i7)] [(.long (own_mask (own_min (own_max (mm - (8 : Int32)) (0 : Int32)) (8 : Int32)))), (.ref a1)]))) (fun t ht => st95 _ ht) ?_
                obtain ⟨T96, h96, X96, e96, W96, st96⟩ := putF X95 hx hZ hown (host := "") (Or.inl (hw _ (List.mem_of_getElem? (i := 72) rfl))) Via.refl e95 f91_1 f91_2 (Or.inr ⟨(hw _ (List.mem_of_getElem? (i := 73) rfl)), rfl, hnm⟩) (hw _ (List.mem_of_getElem? (i := 37) rfl)) (ty := .long) (by decide) rfl rfl (g := (mkF m 259 #[.val (.ref a1), .val (.ref b1), .val (.int acc), .val (.long acc3), .second, .val (.long (0 : Int64)), .second, .val (.int i7)] [(.long (own_mask (own_min (own_max (mm - (8 : Int32)) (0 : Int32)) (8 : Int32)))), (.ref a1)])) rfl rfl (hb hby own_d8_259)
                have f96_1 := f91_2.wr W96
                have f96_2 := f91_3.other W96 ne_b1_a1
                have f96_3 := f91_4.other W96 (Or.inr (slot_ne (Or.inr (hw _ (List.mem_of_getElem? (i := 44) rfl))) (Or.inr (hw _ (List.mem_of_getElem? (i := 73) rfl))) (by decide) (t := (.array .char)) (t' := .long) (by decide) (by decide)))
                have f96_4 := f91_5.other W96 (Or.inr (slot_ne (Or.inr (hw _ (List.mem_of_getElem? (i := 46) rfl))) (Or.inr (hw _ (List.mem_of_getElem? (i := 73) rfl))) (by decide) (t := .int) (t' := .long) (by decide) (by decide)))
                have f96_5 := f91_6.other W96 (Or.inr (slot_ne (Or.inr (hw _ (List.mem_of_getElem? (i := 52) rfl))) (Or.inr (hw _ (List.mem_of_getElem? (i := 73) rfl))) (by decide) (t := .int) (t' := .long) (by decide) (by decide)))
                have f96_6 := f91_7.other W96 (Or.inr (slot_ne (Or.inr (hw _ (List.mem_of_getElem? (i := 57) rfl))) (Or.inr (hw _ (List.mem_of_getElem? (i := 73) rfl))) (by decide) (t := .int) (t' := .long) (by decide) (by decide)))
                have f96_7 := f91_8.other W96 (Or.inr (slot_ne (Or.inr (hw _ (List.mem_of_getElem? (i := 59) rfl))) (Or.inr (hw _ (List.mem_of_getElem? (i := 73) rfl))) (by decide) (t := .boolean) (t' := .long) (by decide) (by decide)))
                have f96_8 := f91_9.other W96 (Or.inr (slot_ne (Or.inr (hw _ (List.mem_of_getElem? (i := 61) rfl))) (Or.inr (hw _ (List.mem_of_getElem? (i := 73) rfl))) (by decide) (t := .long) (t' := .long) (by decide) (by decide)))
                have f96_9 := f91_10.other W96 (Or.inr (slot_ne (Or.inr (hw _ (List.mem_of_getElem? (i := 63) rfl))) (Or.inr (hw _ (List.mem_of_getElem? (i := 73) rfl))) (by decide) (t := .long) (t' := .long) (by decide) (by decide)))
                have f96_10 := F91.other W96 (Or.inr (slot_ne (Or.inr (hw _ (List.mem_of_getElem? (i := 68) rfl))) (Or.inr (hw _ (List.mem_of_getElem? (i := 73) rfl))) (by decide) (t := .long) (t' := .long) (by decide) (by decide)))
                have F96 := f91_1.same W96
                have N96 := Fr.snoc X96 N95 g_a1
                have K96 : Keep h0 h96 [a1] := K91.wr W96 (Or.inl (by simp))
                refine own_step (U' := (T96.setTop (mkF m 262 #[.val (.ref a1), .val (.ref b1), .val (.int acc), .val (.long acc3), .second, .val (.long (0 : Int64)), .second, .val (.int i7)] []))) (fun t ht => st96 _ ht) ?_
                refine own_ret X96 (v := none) (fun _ => rfl) Bd.notSynchronized (by decide) (by decide) ?_ (fun fs hr => X96.returnOut hx Bd.returns (hb hby own_d8_262) hr)
                show own_Q_fli Z a1 b1 ka cs mm M h0 n0 _ T96.heap _
                rw [e96]
                exact ⟨rfl, N96, K96⟩
              refine own_step (U' := (T83.setTop (mkF m 198 #[.val (.ref a1), .val (.ref b1), .val (.int acc), .val (.long acc3), .second, .val (.long (0 : Int64)), .second, .val (.int i7)] [(.int acc), (.ref a1)]))) (fun t ht => XS.iloadN X83.here hx rfl (hb hby own_d8_197) rfl ht) ?_
              refine own_step (U' := (T83.setTop (mkF m 201 #[.val (.ref a1), .val (.ref b1), .val (.int acc), .val (.long acc3), .second, .val (.long (0 : Int64)), .second, .val (.int i7)] [(.int (255 : Int32)), (.int acc), (.ref a1)]))) (fun t ht => XS.sipush X83.here hx rfl (hb hby own_d8_198) ht) ?_
              by_cases hc201_97 : (255 : Int32) < acc
              ·
                refine own_step (U' := (T83.setTop (mkF m 208 #[.val (.ref a1), .val (.ref b1), .val (.int acc), .val (.long acc3), .second, .val (.long (0 : Int64)), .second, .val (.int i7)] [(.ref a1)]))) (fun t ht => XS.icmpYes X83.here hx rfl (pc0 := 201) (pc' := 208) rfl (hb hby own_d8_201) rfl (XT.ii_gt_t hc201_97) (by decide) (by decide) ht) ?_
                refine own_step (U' := (T83.setTop (mkF m 209 #[.val (.ref a1), .val (.ref b1), .val (.int acc), .val (.long acc3), .second, .val (.long (0 : Int64)), .second, .val (.int i7)] [(.int (0 : Int32)), (.ref a1)]))) (fun t ht => XS.iconst X83.here hx rfl (hb hby own_d8_208) ht) ?_
                exact tail209 ((0 : Int32)) 
              ·
                refine own_step (U' := (T83.setTop (mkF m 204 #[.val (.ref a1), .val (.ref b1), .val (.int acc), .val (.long acc3), .second, .val (.long (0 : Int64)), .second, .val (.int i7)] [(.ref a1)]))) (fun t ht => XS.icmpNo X83.here hx rfl (hb hby own_d8_201) rfl (XT.ii_gt_f hc201_97) ht) ?_
                refine own_step (U' := (T83.setTop (mkF m 205 #[.val (.ref a1), .val (.ref b1), .val (.int acc), .val (.long acc3), .second, .val (.long (0 : Int64)), .second, .val (.int i7)] [(.int (1 : Int32)), (.ref a1)]))) (fun t ht => XS.iconst X83.here hx rfl (hb hby own_d8_204) ht) ?_
                refine own_step (U' := (T83.setTop (mkF m 209 #[.val (.ref a1), .val (.ref b1), .val (.int acc), .val (.long acc3), .second, .val (.long (0 : Int64)), .second, .val (.int i7)] [(.int (1 : Int32)), (.ref a1)]))) (fun t ht => XS.goto X83.here hx rfl (pc0 := 205) (pc' := 209) rfl (hb hby own_d8_205) (by decide) (by decide) ht) ?_
                exact tail209 ((1 : Int32)) 
          have loop4 : ∀ (k : Nat) (i7 : Int32) (hi7 : i7.toInt = (k : Int)) (hkM : k < M), own_Go p e below s ({ frames := 1, cells := 0, slots := 0, locals := 17 } : Room).cells ({ frames := 1, cells := 0, slots := 0, locals := 17 } : Room).slots (own_Q_fli Z a1 b1 ka cs mm M h0 n0) (T62.setTop (mkF m 145 #[.val (.ref a1), .val (.ref b1), .val (.int acc), .val (.long acc3), .second, .val (.long (0 : Int64)), .second, .val (.int i7)] [])) := by
            intro k
            induction k with
            | zero =>
              intro i7 hi7 hkM
              refine own_step (U' := (T62.setTop (mkF m 147 #[.val (.ref a1), .val (.ref b1), .val (.int acc), .val (.long acc3), .second, .val (.long (0 : Int64)), .second, .val (.int i7)] [(.int i7)]))) (fun t ht => XS.iload X62.here hx rfl (hb hby own_d8_145) rfl ht) ?_
              refine own_step (U' := (T62.setTop (mkF m 166 #[.val (.ref a1), .val (.ref b1), .val (.int acc), .val (.long acc3), .second, .val (.long (0 : Int64)), .second, .val (.int i7)] []))) (fun t ht => XS.ifYes X62.here hx rfl (pc0 := 147) (pc' := 166) rfl (hb hby own_d8_147) rfl (XT.i0_le_t ((fun q => absurd ((own_ltI (a := 0) rfl hi7).mp q) (by omega)) : ¬ (0 < i7))) (by decide) (by decide) ht) ?_
              exact tail166 _ _ hi7 hkM
            | succ k ih =>
              intro i7 hi7 hkM
              refine own_step (U' := (T62.setTop (mkF m 147 #[.val (.ref a1), .val (.ref b1), .val (.int acc), .val (.long acc3), .second, .val (.long (0 : Int64)), .second, .val (.int i7)] [(.int i7)]))) (fun t ht => XS.iload X62.here hx rfl (hb hby own_d8_145) rfl ht) ?_
              refine own_step (U' := (T62.setTop (mkF m 150 #[.val (.ref a1), .val (.ref b1), .val (.int acc), .val (.long acc3), .second, .val (.long (0 : Int64)), .second, .val (.int i7)] []))) (fun t ht => XS.ifNo X62.here hx rfl (hb hby own_d8_147) rfl (XT.i0_le_f (((own_ltI (a := 0) rfl hi7).mpr (by omega)) : 0 < i7)) ht) ?_
              refine own_step (U' := (T62.setTop (mkF m 151 #[.val (.ref a1), .val (.ref b1), .val (.int acc), .val (.long acc3), .second, .val (.long (0 : Int64)), .second, .val (.int i7)] [(.ref b1)]))) (fun t ht => XS.aloadN X62.here hx rfl (hb hby own_d8_150) rfl rfl ht) ?_
              refine own_step (U' := (T62.setTop (mkF m 153 #[.val (.ref a1), .val (.ref b1), .val (.int acc), .val (.long acc3), .second, .val (.long (0 : Int64)), .second, .val (.int i7)] [(.int i7), (.ref b1)]))) (fun t ht => XS.iload X62.here hx rfl (hb hby own_d8_151) rfl ht) ?_
              obtain ⟨cl98, Ar98, q98, S98, N98_, H98, G98⟩ := (id f55_9)
              have hin98 : ¬ (i7 < 0 ∨ cl98.slots.size ≤ (i7).toNatClampNeg) := inb_of S98 (own_inN hi7 hm (by omega))
              have hat98 : cl98.slots[(i7).toNatClampNeg]? = some (.int (own_g cs i7)) := Has.at H98 hin98 (own_ldI _ _)
              refine own_step (U' := (T62.setTop (mkF m 154 #[.val (.ref a1), .val (.ref b1), .val (.int acc), .val (.long acc3), .second, .val (.long (0 : Int64)), .second, .val (.int i7)] [(.int (own_g cs i7))]))) (fun t ht => X62.caload hx (j := i7) (v := (.int (own_g cs i7))) (own_at e62 Ar98.1) (State.isArrayOf_alike hZ.alike Ar98.2.1) Ar98.2.2 hin98 hat98 (g := (mkF m 153 #[.val (.ref a1), .val (.ref b1), .val (.int acc), .val (.long acc3), .second, .val (.long (0 : Int64)), .second, .val (.int i7)] [(.int i7), (.ref b1)])) rfl rfl (hb hby own_d8_153) _ ht) ?_
              refine own_step (U' := (T62.setTop (mkF m 155 #[.val (.ref a1), .val (.ref b1), .val (.int acc), .val (.long acc3), .second, .val (.long (0 : Int64)), .second, .val (.int i7)] [(.ref b1), (.int (own_g cs i7))]))) (fun t ht => XS.aloadN X62.here hx rfl (hb hby own_d8_154) rfl rfl ht) ?_
              refine own_step (U' := (T62.setTop (mkF m 156 #[.val (.ref a1), .val (.ref b1), .val (.int acc), .val (.long acc3), .second, .val (.long (0 : Int64)), .second, .val (.int i7)] [(.int (0 : Int32)), (.ref b1), (.int (own_g cs i7))]))) (fun t ht => XS.iconst X62.here hx rfl (hb hby own_d8_155) ht) ?_
              obtain ⟨cl99, Ar99, q99, S99, N99_, H99, G99⟩ := (id f55_9)
              have hin99 : ¬ ((0 : Int32) < 0 ∨ cl99.slots.size ≤ ((0 : Int32)).toNatClampNeg) := inb_of S99 (own_inN (i := 0) rfl hm (by omega))
              have hat99 : cl99.slots[((0 : Int32)).toNatClampNeg]? = some (.int (own_g cs (0 : Int32))) := Has.at H99 hin99 (own_ldI _ _)
              refine own_step (U' := (T62.setTop (mkF m 157 #[.val (.ref a1), .val (.ref b1), .val (.int acc), .val (.long acc3), .second, .val (.long (0 : Int64)), .second, .val (.int i7)] [(.int (own_g cs (0 : Int32))), (.int (own_g cs i7))]))) (fun t ht => X62.caload hx (j := (0 : Int32)) (v := (.int (own_g cs (0 : Int32)))) (own_at e62 Ar99.1) (State.isArrayOf_alike hZ.alike Ar99.2.1) Ar99.2.2 hin99 hat99 (g := (mkF m 156 #[.val (.ref a1), .val (.ref b1), .val (.int acc), .val (.long acc3), .second, .val (.long (0 : Int64)), .second, .val (.int i7)] [(.int (0 : Int32)), (.ref b1), (.int (own_g cs i7))])) rfl rfl (hb hby own_d8_156) _ ht) ?_
              by_cases hc157_100 : (own_g cs i7) = (own_g cs (0 : Int32))
              ·
                refine own_step (U' := (T62.setTop (mkF m 160 #[.val (.ref a1), .val (.ref b1), .val (.int acc), .val (.long acc3), .second, .val (.long (0 : Int64)), .second, .val (.int i7)] []))) (fun t ht => XS.icmpNo X62.here hx rfl (hb hby own_d8_157) rfl (XT.ii_ne_f hc157_100) ht) ?_
                refine own_step (U' := (T62.setTop (mkF m 163 #[.val (.ref a1), .val (.ref b1), .val (.int acc), .val (.long acc3), .second, .val (.long (0 : Int64)), .second, .val (.int (i7 + (-1 : Int32)))] []))) (fun t ht => XT.iincV X62.here hx rfl (-1 : Int32) (hb hby own_d8_160) rfl rfl (l' := #[.val (.ref a1), .val (.ref b1), .val (.int acc), .val (.long acc3), .second, .val (.long (0 : Int64)), .second, .val (.int (i7 + (-1 : Int32)))]) rfl ht) ?_
                refine own_step (U' := (T62.setTop (mkF m 145 #[.val (.ref a1), .val (.ref b1), .val (.int acc), .val (.long acc3), .second, .val (.long (0 : Int64)), .second, .val (.int (i7 + (-1 : Int32)))] []))) (fun t ht => XS.goto X62.here hx rfl (pc0 := 163) (pc' := 145) rfl (hb hby own_d8_163) (by decide) (by decide) ht) ?_
                exact ih _ (own_decN hi7 (by omega)) (by omega)
              ·
                refine own_step (U' := (T62.setTop (mkF m 166 #[.val (.ref a1), .val (.ref b1), .val (.int acc), .val (.long acc3), .second, .val (.long (0 : Int64)), .second, .val (.int i7)] []))) (fun t ht => XS.icmpYes X62.here hx rfl (pc0 := 157) (pc' := 166) rfl (hb hby own_d8_157) rfl (XT.ii_ne_t hc157_100) (by decide) (by decide) ht) ?_
                exact tail166 _ _ hi7 hkM
          exact loop4 (M - 1) _ (own_pre1 hm h1 h8) (by omega)
        | succ k ih =>
          intro acc3 j5 hj5 hkM
          refine own_step (U' := (T59.setTop (mkF m 67 #[.val (.ref a1), .val (.ref b1), .val (.int acc), .val (.long acc3), .second, .val (.int j5), .val (.int c6), .unset] [(.int j5)]))) (fun t ht => XS.iload X59.here hx rfl (hb hby own_d8_65) rfl ht) ?_
          refine own_step (U' := (T59.setTop (mkF m 70 #[.val (.ref a1), .val (.ref b1), .val (.int acc), .val (.long acc3), .second, .val (.int j5), .val (.int c6), .unset] []))) (fun t ht => XS.ifNo X59.here hx rfl (hb hby own_d8_67) rfl (XT.i0_lt_f ((fun q => absurd ((own_ltI hj5 (b := 0) rfl).mp q) (by omega)) : ¬ (j5 < 0))) ht) ?_
          refine own_step (U' := (T59.setTop (mkF m 71 #[.val (.ref a1), .val (.ref b1), .val (.int acc), .val (.long acc3), .second, .val (.int j5), .val (.int c6), .unset] [(.long acc3)]))) (fun t ht => XT.lloadN X59.here hx rfl (hb hby own_d8_70) rfl ht) ?_
          refine own_step (U' := (T59.setTop (mkF m 73 #[.val (.ref a1), .val (.ref b1), .val (.int acc), .val (.long acc3), .second, .val (.int j5), .val (.int c6), .unset] [(.int (8 : Int32)), (.long acc3)]))) (fun t ht => XS.bipush X59.here hx rfl (hb hby own_d8_71) ht) ?_
          refine own_step (U' := (T59.setTop (mkF m 74 #[.val (.ref a1), .val (.ref b1), .val (.int acc), .val (.long acc3), .second, .val (.int j5), .val (.int c6), .unset] [(.long (acc3 <<< ((8 : Int32).toInt64 &&& 63)))]))) (fun t ht => XT.lshl X59.here hx rfl (hb hby own_d8_73) rfl ht) ?_
          refine own_step (U' := (T59.setTop (mkF m 75 #[.val (.ref a1), .val (.ref b1), .val (.int acc), .val (.long acc3), .second, .val (.int j5), .val (.int c6), .unset] [(.ref b1), (.long (acc3 <<< ((8 : Int32).toInt64 &&& 63)))]))) (fun t ht => XS.aloadN X59.here hx rfl (hb hby own_d8_74) rfl rfl ht) ?_
          refine own_step (U' := (T59.setTop (mkF m 77 #[.val (.ref a1), .val (.ref b1), .val (.int acc), .val (.long acc3), .second, .val (.int j5), .val (.int c6), .unset] [(.int j5), (.ref b1), (.long (acc3 <<< ((8 : Int32).toInt64 &&& 63)))]))) (fun t ht => XS.iload X59.here hx rfl (hb hby own_d8_75) rfl ht) ?_
          obtain ⟨cl101, Ar101, q101, S101, N101_, H101, G101⟩ := (id f55_9)
          have hin101 : ¬ (j5 < 0 ∨ cl101.slots.size ≤ (j5).toNatClampNeg) := inb_of S101 (own_inI hj5 hm (by omega))
          have hat101 : cl101.slots[(j5).toNatClampNeg]? = some (.int (own_g cs j5)) := Has.at H101 hin101 (own_ldI _ _)
          refine own_step (U' := (T59.setTop (mkF m 78 #[.val (.ref a1), .val (.ref b1), .val (.int acc), .val (.long acc3), .second, .val (.int j5), .val (.int c6), .unset] [(.int (own_g cs j5)), (.long (acc3 <<< ((8 : Int32).toInt64 &&& 63)))]))) (fun t ht => X59.caload hx (j := j5) (v := (.int (own_g cs j5))) (own_at e59 Ar101.1) (State.isArrayOf_alike hZ.alike Ar101.2.1) Ar101.2.2 hin101 hat101 (g := (mkF m 77 #[.val (.ref a1), .val (.ref b1), .val (.int acc), .val (.long acc3), .second, .val (.int j5), .val (.int c6), .unset] [(.int j5), (.ref b1), (.long (acc3 <<< ((8 : Int32).toInt64 &&& 63)))])) rfl rfl (hb hby own_d8_77) _ ht) ?_
          refine own_step (U' := (T59.setTop (mkF m 81 #[.val (.ref a1), .val (.ref b1), .val (.int acc), .val (.long acc3), .second, .val (.int j5), .val (.int c6), .unset] [(.int (255 : Int32)), (.int (own_g cs j5)), (.long (acc3 <<< ((8 : Int32).toInt64 &&& 63)))]))) (fun t ht => XS.sipush X59.here hx rfl (hb hby own_d8_78) ht) ?_
          refine own_step (U' := (T59.setTop (mkF m 82 #[.val (.ref a1), .val (.ref b1), .val (.int acc), .val (.long acc3), .second, .val (.int j5), .val (.int c6), .unset] [(.int ((own_g cs j5) &&& (255 : Int32))), (.long (acc3 <<< ((8 : Int32).toInt64 &&& 63)))]))) (fun t ht => XS.iand X59.here hx rfl (hb hby own_d8_81) rfl ht) ?_
          refine own_step (U' := (T59.setTop (mkF m 83 #[.val (.ref a1), .val (.ref b1), .val (.int acc), .val (.long acc3), .second, .val (.int j5), .val (.int c6), .unset] [(.long (((own_g cs j5) &&& (255 : Int32)).toInt64)), (.long (acc3 <<< ((8 : Int32).toInt64 &&& 63)))]))) (fun t ht => XT.i2l X59.here hx rfl (hb hby own_d8_82) rfl ht) ?_
          refine own_step (U' := (T59.setTop (mkF m 84 #[.val (.ref a1), .val (.ref b1), .val (.int acc), .val (.long acc3), .second, .val (.int j5), .val (.int c6), .unset] [(.long ((acc3 <<< ((8 : Int32).toInt64 &&& 63)) ||| (((own_g cs j5) &&& (255 : Int32)).toInt64)))]))) (fun t ht => XT.lor X59.here hx rfl (hb hby own_d8_83) rfl ht) ?_
          refine own_step (U' := (T59.setTop (mkF m 85 #[.val (.ref a1), .val (.ref b1), .val (.int acc), .val (.long ((acc3 <<< ((8 : Int32).toInt64 &&& 63)) ||| (((own_g cs j5) &&& (255 : Int32)).toInt64))), .second, .val (.int j5), .val (.int c6), .unset] []))) (fun t ht => XT.lstoreN X59.here hx rfl (hb hby own_d8_84) rfl (l' := #[.val (.ref a1), .val (.ref b1), .val (.int acc), .val (.long ((acc3 <<< ((8 : Int32).toInt64 &&& 63)) ||| (((own_g cs j5) &&& (255 : Int32)).toInt64))), .second, .val (.int j5), .val (.int c6), .unset]) rfl ht) ?_
          refine own_step (U' := (T59.setTop (mkF m 88 #[.val (.ref a1), .val (.ref b1), .val (.int acc), .val (.long ((acc3 <<< ((8 : Int32).toInt64 &&& 63)) ||| (((own_g cs j5) &&& (255 : Int32)).toInt64))), .second, .val (.int (j5 + (-1 : Int32))), .val (.int c6), .unset] []))) (fun t ht => XT.iincV X59.here hx rfl (-1 : Int32) (hb hby own_d8_85) rfl rfl (l' := #[.val (.ref a1), .val (.ref b1), .val (.int acc), .val (.long ((acc3 <<< ((8 : Int32).toInt64 &&& 63)) ||| (((own_g cs j5) &&& (255 : Int32)).toInt64))), .second, .val (.int (j5 + (-1 : Int32))), .val (.int c6), .unset]) rfl ht) ?_
          refine own_step (U' := (T59.setTop (mkF m 65 #[.val (.ref a1), .val (.ref b1), .val (.int acc), .val (.long ((acc3 <<< ((8 : Int32).toInt64 &&& 63)) ||| (((own_g cs j5) &&& (255 : Int32)).toInt64))), .second, .val (.int (j5 + (-1 : Int32))), .val (.int c6), .unset] []))) (fun t ht => XS.goto X59.here hx rfl (pc0 := 88) (pc' := 65) rfl (hb hby own_d8_88) (by decide) (by decide) ht) ?_
          exact ih _ _ (own_subI hj5 (by omega) (by omega) (by omega)) (by omega)
      exact loop2 M _ _ (by rw [own_minN hm (b := 8) rfl h8, own_pre1 hm h1 h8]; omega) (Nat.le_refl _)
    | succ k ih =>
      intro i acc i5 c6 hi5 hik
      refine own_step (U' := (T55.setTop (mkF m 28 #[.val (.ref a1), .val (.ref b1), .val (.int acc), .val (.ref b1), .val (.int mm), .val (.int i5), .val (.int c6), .unset] [(.int i5)]))) (fun t ht => XS.iload X55.here hx rfl (hb hby own_d8_26) rfl ht) ?_
      refine own_step (U' := (T55.setTop (mkF m 30 #[.val (.ref a1), .val (.ref b1), .val (.int acc), .val (.ref b1), .val (.int mm), .val (.int i5), .val (.int c6), .unset] [(.int mm), (.int i5)]))) (fun t ht => XS.iload X55.here hx rfl (hb hby own_d8_28) rfl ht) ?_
      refine own_step (U' := (T55.setTop (mkF m 33 #[.val (.ref a1), .val (.ref b1), .val (.int acc), .val (.ref b1), .val (.int mm), .val (.int i5), .val (.int c6), .unset] []))) (fun t ht => XS.icmpNo X55.here hx rfl (hb hby own_d8_30) rfl (XT.ii_ge_f (((own_lti hi5 hm).mpr (by omega)) : i5 < mm)) ht) ?_
      refine own_step (U' := (T55.setTop (mkF m 34 #[.val (.ref a1), .val (.ref b1), .val (.int acc), .val (.ref b1), .val (.int mm), .val (.int i5), .val (.int c6), .unset] [(.ref b1)]))) (fun t ht => XS.aloadN X55.here hx rfl (hb hby own_d8_33) rfl rfl ht) ?_
      refine own_step (U' := (T55.setTop (mkF m 36 #[.val (.ref a1), .val (.ref b1), .val (.int acc), .val (.ref b1), .val (.int mm), .val (.int i5), .val (.int c6), .unset] [(.int i5), (.ref b1)]))) (fun t ht => XS.iload X55.here hx rfl (hb hby own_d8_34) rfl ht) ?_
      obtain ⟨cl102, Ar102, q102, S102, N102_, H102, G102⟩ := (id f55_9)
      have hin102 : ¬ (i5 < 0 ∨ cl102.slots.size ≤ (i5).toNatClampNeg) := inb_of S102 (own_inN hi5 hm (by omega))
      have hat102 : cl102.slots[(i5).toNatClampNeg]? = some (.int (own_g cs i5)) := Has.at H102 hin102 (own_ldI _ _)
      refine own_step (U' := (T55.setTop (mkF m 37 #[.val (.ref a1), .val (.ref b1), .val (.int acc), .val (.ref b1), .val (.int mm), .val (.int i5), .val (.int c6), .unset] [(.int (own_g cs i5))]))) (fun t ht => X55.caload hx (j := i5) (v := (.int (own_g cs i5))) (own_at e55 Ar102.1) (State.isArrayOf_alike hZ.alike Ar102.2.1) Ar102.2.2 hin102 hat102 (g := (mkF m 36 #[.val (.ref a1), .val (.ref b1), .val (.int acc), .val (.ref b1), .val (.int mm), .val (.int i5), .val (.int c6), .unset] [(.int i5), (.ref b1)])) rfl rfl (hb hby own_d8_36) _ ht) ?_
      refine own_step (U' := (T55.setTop (mkF m 39 #[.val (.ref a1), .val (.ref b1), .val (.int acc), .val (.ref b1), .val (.int mm), .val (.int i5), .val (.int (own_g cs i5)), .unset] []))) (fun t ht => XS.istore X55.here hx rfl (hb hby own_d8_37) rfl (l' := #[.val (.ref a1), .val (.ref b1), .val (.int acc), .val (.ref b1), .val (.int mm), .val (.int i5), .val (.int (own_g cs i5)), .unset]) rfl ht) ?_
      refine own_step (U' := (T55.setTop (mkF m 40 #[.val (.ref a1), .val (.ref b1), .val (.int acc), .val (.ref b1), .val (.int mm), .val (.int i5), .val (.int (own_g cs i5)), .unset] [(.int acc)]))) (fun t ht => XS.iloadN X55.here hx rfl (hb hby own_d8_39) rfl ht) ?_
      refine own_step (U' := (T55.setTop (mkF m 42 #[.val (.ref a1), .val (.ref b1), .val (.int acc), .val (.ref b1), .val (.int mm), .val (.int i5), .val (.int (own_g cs i5)), .unset] [(.int (own_g cs i5)), (.int acc)]))) (fun t ht => XS.iload X55.here hx rfl (hb hby own_d8_40) rfl ht) ?_
      refine own_step (U' := (T55.setTop (mkF m 43 #[.val (.ref a1), .val (.ref b1), .val (.int acc), .val (.ref b1), .val (.int mm), .val (.int i5), .val (.int (own_g cs i5)), .unset] [(.int (acc ||| (own_g cs i5)))]))) (fun t ht => XT.ior X55.here hx rfl (hb hby own_d8_42) rfl ht) ?_
      refine own_step (U' := (T55.setTop (mkF m 44 #[.val (.ref a1), .val (.ref b1), .val (.int (acc ||| (own_g cs i5))), .val (.ref b1), .val (.int mm), .val (.int i5), .val (.int (own_g cs i5)), .unset] []))) (fun t ht => XS.istoreN X55.here hx rfl (hb hby own_d8_43) rfl (l' := #[.val (.ref a1), .val (.ref b1), .val (.int (acc ||| (own_g cs i5))), .val (.ref b1), .val (.int mm), .val (.int i5), .val (.int (own_g cs i5)), .unset]) rfl ht) ?_
      refine own_step (U' := (T55.setTop (mkF m 47 #[.val (.ref a1), .val (.ref b1), .val (.int (acc ||| (own_g cs i5))), .val (.ref b1), .val (.int mm), .val (.int (i5 + (1 : Int32))), .val (.int (own_g cs i5)), .unset] []))) (fun t ht => XT.iincV X55.here hx rfl (1 : Int32) (hb hby own_d8_44) rfl rfl (l' := #[.val (.ref a1), .val (.ref b1), .val (.int (acc ||| (own_g cs i5))), .val (.ref b1), .val (.int mm), .val (.int (i5 + (1 : Int32))), .val (.int (own_g cs i5)), .unset]) rfl ht) ?_
      refine own_step (U' := (T55.setTop (mkF m 26 #[.val (.ref a1), .val (.ref b1), .val (.int (acc ||| (own_g cs i5))), .val (.ref b1), .val (.int mm), .val (.int (i5 + (1 : Int32))), .val (.int (own_g cs i5)), .unset] []))) (fun t ht => XS.goto X55.here hx rfl (pc0 := 47) (pc' := 26) rfl (hb hby own_d8_47) (by decide) (by decide) ht) ?_
      exact ih (i + 1) _ _ _ (own_incN hi5 (by omega)) (by omega)
  exact loop1 (M - 1) 1 _ _ _ (own_incN (x := (0 : Int32)) (i := 0) rfl (by omega)) (by omega)
theorem own_pn5 : plainName "com/example/skip2/skip2/windowsearch/WindowSearcher" = true := by first | (simp [plainName, overriddenIn]; done) | decide +kernel
theorem own_d6_0 : decode prog_43_method_1_code 0 = .ok (.aload_n 0, 1) := by decide +kernel
theorem own_d6_1 : decode prog_43_method_1_code 1 = .ok (.invokespecial 1, 3) := by decide +kernel
theorem own_d6_4 : decode prog_43_method_1_code 4 = .ok (.aload_n 0, 1) := by decide +kernel
theorem own_d6_5 : decode prog_43_method_1_code 5 = .ok (.iload_n 1, 1) := by decide +kernel
theorem own_d6_6 : decode prog_43_method_1_code 6 = .ok (.putfield 7, 3) := by decide +kernel
theorem own_d6_9 : decode prog_43_method_1_code 9 = .ok (.return_, 1) := by decide +kernel
def own_Q_wsi (Z : State) (a1 : Addr) (p1 : Int32) (u1 : Value) (u2 : Value) (u3 : Value) (u4 : Value) (u5 : Value) (w1 : Value) (w2 : Value) (w3 : Value) (w4 : Value) (h0 : Heap) (n0 : Nat) (v : Option Value) (h : Heap) (L : List Loc) : Prop := v = none ∧ Fr n0 L ∧ Keep h0 h [a1] ∧ (Fld Z h a1 "com/example/skip2/skip2/windowsearch/WindowSearcher" "length" "I" (.int p1)) ∧ (Fld Z h a1 "com/example/skip2/skip2/windowsearch/SkipSearcher" "pattern" "[C" u2) ∧ (Fld Z h a1 "com/example/skip2/skip2/windowsearch/SkipSearcher" "length" "I" u3) ∧ (Fld Z h a1 "com/example/skip2/skip2/windowsearch/SkipSearcher" "flagSearch" "Lcom/example/skip2/skip2/windowsearch/FlagSearch;" u4) ∧ (Fld Z h a1 "com/example/skip2/skip2/windowsearch/SkipSearcher" "byPairs" "Z" u5) ∧ (Fld Z h a1 "com/example/skip2/skip2/boyermoore/BoyerMooreSearcher" "pattern" "[C" w1) ∧ (Fld Z h a1 "com/example/skip2/skip2/boyermoore/BoyerMooreSearcher" "budget" "I" w2) ∧ (Fld Z h a1 "com/example/skip2/skip2/boyermoore/BoyerMooreSearcher" "goodSuffixShift" "[I" w3) ∧ (Fld Z h a1 "com/example/skip2/skip2/boyermoore/BoyerMooreSearcher" "spent" "I" w4) ∧ (Exa Z h a1 "com/example/skip2/skip2/boyermoore/BoyerMooreSearcher")
set_option maxRecDepth 65536 in
set_option maxHeartbeats 40000000 in
theorem own_m_wsi (l : Launch) (Z : State) (a0 : Array Value) (hw : ∀ d ∈ tables_1, d.before a0 Z = true) (ws : List Jvm.Cond) (a1 : Addr) (p1 : Int32) (u1 : Value) (u2 : Value) (u3 : Value) (u4 : Value) (u5 : Value) (w1 : Value) (w2 : Value) (w3 : Value) (w4 : Value) (h0 : Heap) (n0 : Nat) (Z0 : n0 ≤ h0.size) (g_a1 : n0 ≤ a1) (b1_ : Fld Z h0 a1 "com/example/skip2/skip2/windowsearch/WindowSearcher" "length" "I" u1) (b2_ : Fld Z h0 a1 "com/example/skip2/skip2/windowsearch/SkipSearcher" "pattern" "[C" u2) (b3_ : Fld Z h0 a1 "com/example/skip2/skip2/windowsearch/SkipSearcher" "length" "I" u3) (b4_ : Fld Z h0 a1 "com/example/skip2/skip2/windowsearch/SkipSearcher" "flagSearch" "Lcom/example/skip2/skip2/windowsearch/FlagSearch;" u4) (b5_ : Fld Z h0 a1 "com/example/skip2/skip2/windowsearch/SkipSearcher" "byPairs" "Z" u5) (b6_ : Fld Z h0 a1 "com/example/skip2/skip2/boyermoore/BoyerMooreSearcher" "pattern" "[C" w1) (b7_ : Fld Z h0 a1 "com/example/skip2/skip2/boyermoore/BoyerMooreSearcher" "budget" "I" w2) (b8_ : Fld Z h0 a1 "com/example/skip2/skip2/boyermoore/BoyerMooreSearcher" "goodSuffixShift" "[I" w3) (b9_ : Fld Z h0 a1 "com/example/skip2/skip2/boyermoore/BoyerMooreSearcher" "spent" "I" w4) (Eb : Exa Z h0 a1 "com/example/skip2/skip2/boyermoore/BoyerMooreSearcher") :
    MetFree l (⟨"com/example/skip2/skip2/windowsearch/WindowSearcher", "<init>", "(I)V"⟩ : MethodName) (head1 (Jvm.Cond.code (⟨"com/example/skip2/skip2/windowsearch/WindowSearcher", "<init>", "(I)V"⟩ : MethodName) prog_43_method_1_code 2 none :: ws) ({ frames := 1, cells := 0, slots := 0, locals := 12 } : Room)) (fun a U => a = #[(.ref a1), (.int p1)] ∧ Z.Warmed39 U.vm ∧ U.heap = h0) (fun _ _ _ _ _ => True) (fun _ U o U' => ∃ v L, o = .returned v ∧ own_Q_wsi Z a1 p1 u1 u2 u3 u4 u5 w1 w2 w3 w4 h0 n0 v U'.heap L ∧ FrameEnd U o U' L ({ frames := 1, cells := 0, slots := 0, locals := 12 } : Room).cells ({ frames := 1, cells := 0, slots := 0, locals := 12 } : Room).slots) := by
  refine MetFree.of_bodySF (plainFor_of_name own_pn5) hisR ?_
  intro p e s m args below meth c s₁ Bd hml0 hP hK
  obtain ⟨rfl, hZ, hh⟩ := hP
  have hx := Bd.exec
  have hby := Bd.bytes
  have hml : c.maxLocals = 2 := hml0
  have hown : s.vm.findClass "com/example/skip2/skip2/windowsearch/WindowSearcher" = some m.cls := findClass_of_methodNamed Bd.named
  have hnm := (name_of_methodNamed Bd.named Bd.method).1
  have X0 : Stand p l e ({ frames := 1, cells := 0, slots := 0, locals := 12 } : Room) s m #[(.ref a1), (.int p1)] below meth c s₁ [] 0 0 := Stand.of_body Bd
  have e0 : s₁.heap = h0 := by rw [← hh, Bd.state]; rfl
  have N0 := Fr.nil n0
  have K0 : Keep h0 h0 [a1] := Keep.refl _ _
  show own_Go p e below s ({ frames := 1, cells := 0, slots := 0, locals := 12 } : Room).cells ({ frames := 1, cells := 0, slots := 0, locals := 12 } : Room).slots (own_Q_wsi Z a1 p1 u1 u2 u3 u4 u5 w1 w2 w3 w4 h0 n0) (s₁.setTop (entryFrame m #[(.ref a1), (.int p1)] 2))
  have ef : entryFrame m #[(.ref a1), (.int p1)] 2 = (mkF m 0 #[.val (.ref a1), .val (.int p1)] []) := by first | (simp [entryFrame, mkF, argsToLocals, Value.category, maxLocals]; done) | rfl
  rw [ef]
  show own_Go p e below s _ _ _ (s₁.setTop (mkF m 0 #[.val (.ref a1), .val (.int p1)] []))
  refine own_step (U' := (s₁.setTop (mkF m 1 #[.val (.ref a1), .val (.int p1)] [(.ref a1)]))) (fun t ht => XS.aloadN X0.here hx rfl (hb hby own_d6_0) rfl rfl ht) ?_
  obtain ⟨T103, X103, e103, st103⟩ := initO X0 hx hZ hown (hw _ (List.mem_of_getElem? (i := 27) rfl)) (hw _ (List.mem_of_getElem? (i := 28) rfl)) (hw _ (List.mem_of_getElem? (i := 29) rfl)) e0 (g := (mkF m 1 #[.val (.ref a1), .val (.int p1)] [(.ref a1)])) rfl (by rw [hml]; rfl) rfl (hb hby own_d6_1) (by decide) (W := 0) (by show 2 * 0 + _ ≤ _; exact Nat.le_of_eq rfl) (by decide)
  refine own_step (U' := (T103.setTop (mkF m 4 #[.val (.ref a1), .val (.int p1)] []))) (fun t ht => st103 _ ht) ?_
  refine own_step (U' := (T103.setTop (mkF m 5 #[.val (.ref a1), .val (.int p1)] [(.ref a1)]))) (fun t ht => XS.aloadN X103.here hx rfl (hb hby own_d6_4) rfl rfl ht) ?_
  refine own_step (U' := (T103.setTop (mkF m 6 #[.val (.ref a1), .val (.int p1)] [(.int p1), (.ref a1)]))) (fun t ht => XS.iloadN X103.here hx rfl (hb hby own_d6_5) rfl ht) ?_
  obtain ⟨T104, h104, X104, e104, W104, st104⟩ := putF X103 hx hZ hown (host := "") (Or.inl (hw _ (List.mem_of_getElem? (i := 30) rfl))) Via.refl e103 b1_ Eb (Or.inr ⟨(hw _ (List.mem_of_getElem? (i := 31) rfl)), rfl, hnm⟩) (hw _ (List.mem_of_getElem? (i := 12) rfl)) (ty := .int) (by decide) rfl rfl (g := (mkF m 6 #[.val (.ref a1), .val (.int p1)] [(.int p1), (.ref a1)])) rfl rfl (hb hby own_d6_6)
  have f104_1 := b2_.other W104 (Or.inr (slot_ne (Or.inr (hw _ (List.mem_of_getElem? (i := 33) rfl))) (Or.inr (hw _ (List.mem_of_getElem? (i := 31) rfl))) (by decide) (t := (.array .char)) (t' := .int) (by decide) (by decide)))
  have f104_2 := b3_.other W104 (Or.inr (own_slotO (hw _ (List.mem_of_getElem? (i := 35) rfl)) (hw _ (List.mem_of_getElem? (i := 31) rfl)) (by decide)))
  have f104_3 := b4_.other W104 (Or.inr (slot_ne (Or.inr (hw _ (List.mem_of_getElem? (i := 75) rfl))) (Or.inr (hw _ (List.mem_of_getElem? (i := 31) rfl))) (by decide) (t := (.object "com/example/skip2/skip2/windowsearch/FlagSearch")) (t' := .int) (by decide) (by decide)))
  have f104_4 := b5_.other W104 (Or.inr (slot_ne (Or.inr (hw _ (List.mem_of_getElem? (i := 77) rfl))) (Or.inr (hw _ (List.mem_of_getElem? (i := 31) rfl))) (by decide) (t := .boolean) (t' := .int) (by decide) (by decide)))
  have f104_5 := b6_.other W104 (Or.inr (slot_ne (Or.inr (hw _ (List.mem_of_getElem? (i := 79) rfl))) (Or.inr (hw _ (List.mem_of_getElem? (i := 31) rfl))) (by decide) (t := (.array .char)) (t' := .int) (by decide) (by decide)))
  have f104_6 := b7_.other W104 (Or.inr (slot_ne (Or.inr (hw _ (List.mem_of_getElem? (i := 86) rfl))) (Or.inr (hw _ (List.mem_of_getElem? (i := 31) rfl))) (by decide) (t := .int) (t' := .int) (by decide) (by decide)))
  have f104_7 := b8_.other W104 (Or.inr (slot_ne (Or.inl (hw _ (List.mem_of_getElem? (i := 93) rfl))) (Or.inr (hw _ (List.mem_of_getElem? (i := 31) rfl))) (by decide) (t := (.array .int)) (t' := .int) (by decide) (by decide)))
  have f104_8 := b9_.other W104 (Or.inr (slot_ne (Or.inl (hw _ (List.mem_of_getElem? (i := 105) rfl))) (Or.inr (hw _ (List.mem_of_getElem? (i := 31) rfl))) (by decide) (t := .int) (t' := .int) (by decide) (by decide)))
  have f104_9 := Eb.wr W104
  have F104 := b1_.same W104
  have N104 := Fr.snoc X104 N0 g_a1
  have K104 : Keep h0 h104 [a1] := K0.wr W104 (Or.inl (by simp))
  refine own_step (U' := (T104.setTop (mkF m 9 #[.val (.ref a1), .val (.int p1)] []))) (fun t ht => st104 _ ht) ?_
  refine own_ret X104 (v := none) (fun _ => rfl) Bd.notSynchronized (by decide) (by decide) ?_ (fun fs hr => X104.returnOut hx Bd.returns (hb hby own_d6_9) hr)
  show own_Q_wsi Z a1 p1 u1 u2 u3 u4 u5 w1 w2 w3 w4 h0 n0 _ T104.heap _
  rw [e104]
  exact ⟨rfl, N104, K104, F104, f104_1, f104_2, f104_3, f104_4, f104_5, f104_6, f104_7, f104_8, f104_9⟩
theorem own_pn6 : plainName "com/example/skip2/skip2/windowsearch/SkipSearcher" = true := by first | (simp [plainName, overriddenIn]; done) | decide +kernel
theorem own_pd5 : parseMethodDescriptor "(I)V" = some ⟨[.int], none⟩ := by decide +kernel
theorem own_pd6 : parseMethodDescriptor "([C)V" = some ⟨[(.array .char)], none⟩ := by decide +kernel
theorem own_d5_0 : decode prog_39_method_1_code 0 = .ok (.aload_n 0, 1) := by decide +kernel
theorem own_d5_1 : decode prog_39_method_1_code 1 = .ok (.aload_n 1, 1) := by decide +kernel
theorem own_d5_2 : decode prog_39_method_1_code 2 = .ok (.arraylength, 1) := by decide +kernel
theorem own_d5_3 : decode prog_39_method_1_code 3 = .ok (.invokespecial 5, 3) := by decide +kernel
theorem own_d5_6 : decode prog_39_method_1_code 6 = .ok (.aload_n 0, 1) := by decide +kernel
theorem own_d5_7 : decode prog_39_method_1_code 7 = .ok (.aload_n 1, 1) := by decide +kernel
theorem own_d5_8 : decode prog_39_method_1_code 8 = .ok (.putfield 11, 3) := by decide +kernel
theorem own_d5_11 : decode prog_39_method_1_code 11 = .ok (.aload_n 0, 1) := by decide +kernel
theorem own_d5_12 : decode prog_39_method_1_code 12 = .ok (.aload_n 1, 1) := by decide +kernel
theorem own_d5_13 : decode prog_39_method_1_code 13 = .ok (.arraylength, 1) := by decide +kernel
theorem own_d5_14 : decode prog_39_method_1_code 14 = .ok (.putfield 15, 3) := by decide +kernel
theorem own_d5_17 : decode prog_39_method_1_code 17 = .ok (.aload_n 0, 1) := by decide +kernel
theorem own_d5_18 : decode prog_39_method_1_code 18 = .ok (.aload_n 0, 1) := by decide +kernel
theorem own_d5_19 : decode prog_39_method_1_code 19 = .ok (.getfield 15, 3) := by decide +kernel
theorem own_d5_22 : decode prog_39_method_1_code 22 = .ok (.bipush 32, 2) := by decide +kernel
theorem own_d5_24 : decode prog_39_method_1_code 24 = .ok (.if_icmp .gt 14, 3) := by decide +kernel
theorem own_d5_27 : decode prog_39_method_1_code 27 = .ok (.new 1, 3) := by decide +kernel
theorem own_d5_30 : decode prog_39_method_1_code 30 = .ok (.dup, 1) := by decide +kernel
theorem own_d5_31 : decode prog_39_method_1_code 31 = .ok (.aload_n 1, 1) := by decide +kernel
theorem own_d5_32 : decode prog_39_method_1_code 32 = .ok (.invokespecial 19, 3) := by decide +kernel
theorem own_d5_35 : decode prog_39_method_1_code 35 = .ok (.goto 4, 3) := by decide +kernel
theorem own_d5_39 : decode prog_39_method_1_code 39 = .ok (.putfield 22, 3) := by decide +kernel
theorem own_d5_42 : decode prog_39_method_1_code 42 = .ok (.aload_n 0, 1) := by decide +kernel
theorem own_d5_43 : decode prog_39_method_1_code 43 = .ok (.iload_n 2, 1) := by decide +kernel
theorem own_d5_44 : decode prog_39_method_1_code 44 = .ok (.putfield 26, 3) := by decide +kernel
theorem own_d5_47 : decode prog_39_method_1_code 47 = .ok (.return_, 1) := by decide +kernel
def own_Q_ssi (Z : State) (a1 : Addr) (b1 : Addr) (p2 : Int32) (ka : ClassId) (cs : List Int32) (mm : Int32) (M : Nat) (u1 : Value) (u2 : Value) (u3 : Value) (u4 : Value) (u5 : Value) (w1 : Value) (w2 : Value) (w3 : Value) (w4 : Value) (h0 : Heap) (n0 : Nat) (v : Option Value) (h : Heap) (L : List Loc) : Prop := v = none ∧ Fr n0 L ∧ Keep h0 h [a1] ∧ (Fld Z h a1 "com/example/skip2/skip2/boyermoore/BoyerMooreSearcher" "pattern" "[C" w1) ∧ (Fld Z h a1 "com/example/skip2/skip2/boyermoore/BoyerMooreSearcher" "budget" "I" w2) ∧ (Fld Z h a1 "com/example/skip2/skip2/boyermoore/BoyerMooreSearcher" "goodSuffixShift" "[I" w3) ∧ (Fld Z h a1 "com/example/skip2/skip2/boyermoore/BoyerMooreSearcher" "spent" "I" w4) ∧ (Exa Z h a1 "com/example/skip2/skip2/boyermoore/BoyerMooreSearcher")
set_option maxRecDepth 65536 in
set_option maxHeartbeats 40000000 in
theorem own_m_ssi (l : Launch) (Z : State) (a0 : Array Value) (hw : ∀ d ∈ tables_1, d.before a0 Z = true) (ws : List Jvm.Cond) (a1 : Addr) (b1 : Addr) (p2 : Int32) (ka : ClassId) (cs : List Int32) (mm : Int32) (M : Nat) (u1 : Value) (u2 : Value) (u3 : Value) (u4 : Value) (u5 : Value) (w1 : Value) (w2 : Value) (w3 : Value) (w4 : Value) (h0 : Heap) (n0 : Nat) (Z0 : n0 ≤ h0.size) (g_a1 : n0 ≤ a1) (ne_b1_a1 : b1 ≠ a1) (b1_ : Fld Z h0 a1 "com/example/skip2/skip2/windowsearch/WindowSearcher" "length" "I" u1) (b2_ : Fld Z h0 a1 "com/example/skip2/skip2/windowsearch/SkipSearcher" "pattern" "[C" u2) (b3_ : Fld Z h0 a1 "com/example/skip2/skip2/windowsearch/SkipSearcher" "length" "I" u3) (b4_ : Fld Z h0 a1 "com/example/skip2/skip2/windowsearch/SkipSearcher" "flagSearch" "Lcom/example/skip2/skip2/windowsearch/FlagSearch;" u4) (b5_ : Fld Z h0 a1 "com/example/skip2/skip2/windowsearch/SkipSearcher" "byPairs" "Z" u5) (b6_ : Fld Z h0 a1 "com/example/skip2/skip2/boyermoore/BoyerMooreSearcher" "pattern" "[C" w1) (b7_ : Fld Z h0 a1 "com/example/skip2/skip2/boyermoore/BoyerMooreSearcher" "budget" "I" w2) (b8_ : Fld Z h0 a1 "com/example/skip2/skip2/boyermoore/BoyerMooreSearcher" "goodSuffixShift" "[I" w3) (b9_ : Fld Z h0 a1 "com/example/skip2/skip2/boyermoore/BoyerMooreSearcher" "spent" "I" w4) (Eb : Exa Z h0 a1 "com/example/skip2/skip2/boyermoore/BoyerMooreSearcher") (Va : Arv Z h0 b1 ka .char mm (cs.map Value.int) (.int (0 : Int32))) (hm : mm.toInt = (M : Int)) (h1 : 1 ≤ M) (h8 : M ≤ 8) :
    MetFree l (⟨"com/example/skip2/skip2/windowsearch/SkipSearcher", "<init>", "([CZ)V"⟩ : MethodName) (head1 (Jvm.Cond.code (⟨"com/example/skip2/skip2/windowsearch/SkipSearcher", "<init>", "([CZ)V"⟩ : MethodName) prog_39_method_1_code 3 none :: ws) ({ frames := 2, cells := 1, slots := 9, locals := 38 } : Room)) (fun a U => a = #[(.ref a1), (.ref b1), (.int p2)] ∧ Z.Warmed39 U.vm ∧ U.heap = h0) (fun _ _ _ _ _ => True) (fun _ U o U' => ∃ v L, o = .returned v ∧ own_Q_ssi Z a1 b1 p2 ka cs mm M u1 u2 u3 u4 u5 w1 w2 w3 w4 h0 n0 v U'.heap L ∧ FrameEnd U o U' L ({ frames := 2, cells := 1, slots := 9, locals := 38 } : Room).cells ({ frames := 2, cells := 1, slots := 9, locals := 38 } : Room).slots) := by
  refine MetFree.of_bodySF (plainFor_of_name own_pn6) hisR ?_
  intro p e s m args below meth c s₁ Bd hml0 hP hK
  obtain ⟨rfl, hZ, hh⟩ := hP
  have hx := Bd.exec
  have hby := Bd.bytes
  have hml : c.maxLocals = 3 := hml0
  have hown : s.vm.findClass "com/example/skip2/skip2/windowsearch/SkipSearcher" = some m.cls := findClass_of_methodNamed Bd.named
  have hnm := (name_of_methodNamed Bd.named Bd.method).1
  have X0 : Stand p l e ({ frames := 2, cells := 1, slots := 9, locals := 38 } : Room) s m #[(.ref a1), (.ref b1), (.int p2)] below meth c s₁ [] 0 0 := Stand.of_body Bd
  have e0 : s₁.heap = h0 := by rw [← hh, Bd.state]; rfl
  have N0 := Fr.nil n0
  have K0 : Keep h0 h0 [a1] := Keep.refl _ _
  show own_Go p e below s ({ frames := 2, cells := 1, slots := 9, locals := 38 } : Room).cells ({ frames := 2, cells := 1, slots := 9, locals := 38 } : Room).slots (own_Q_ssi Z a1 b1 p2 ka cs mm M u1 u2 u3 u4 u5 w1 w2 w3 w4 h0 n0) (s₁.setTop (entryFrame m #[(.ref a1), (.ref b1), (.int p2)] 3))
  have ef : entryFrame m #[(.ref a1), (.ref b1), (.int p2)] 3 = (mkF m 0 #[.val (.ref a1), .val (.ref b1), .val (.int p2)] []) := by first | (simp [entryFrame, mkF, argsToLocals, Value.category, maxLocals]; done) | rfl
  rw [ef]
  show own_Go p e below s _ _ _ (s₁.setTop (mkF m 0 #[.val (.ref a1), .val (.ref b1), .val (.int p2)] []))
  refine own_step (U' := (s₁.setTop (mkF m 1 #[.val (.ref a1), .val (.ref b1), .val (.int p2)] [(.ref a1)]))) (fun t ht => XS.aloadN X0.here hx rfl (hb hby own_d5_0) rfl rfl ht) ?_
  refine own_step (U' := (s₁.setTop (mkF m 2 #[.val (.ref a1), .val (.ref b1), .val (.int p2)] [(.ref b1), (.ref a1)]))) (fun t ht => XS.aloadN X0.here hx rfl (hb hby own_d5_1) rfl rfl ht) ?_
  obtain ⟨cl105, Ar105, q105, S105, N105_, H105, G105⟩ := (id Va)
  refine own_step (U' := (s₁.setTop (mkF m 3 #[.val (.ref a1), .val (.ref b1), .val (.int p2)] [(.int mm), (.ref a1)]))) (fun t ht => X0.arraylength hx (own_at e0 Ar105.1) (State.isArrayOf_alike hZ.alike Ar105.2.1) (g := (mkF m 2 #[.val (.ref a1), .val (.ref b1), .val (.int p2)] [(.ref b1), (.ref a1)])) rfl rfl (hb hby own_d5_2) _ (by rw [len_of S105 N105_]; exact ht)) ?_
  obtain ⟨_, _, ⟨T106, L106, k106, n106⟩, -, X106, ⟨Lc106, hQ106, l106, y106, z106⟩, st106⟩ := X0.specialBack hx (y := (⟨"com/example/skip2/skip2/windowsearch/WindowSearcher", "<init>", "(I)V"⟩ : MethodName)) rfl hown (mvT hZ (hw _ (List.mem_of_getElem? (i := 22) rfl))) (mvT hZ (hw _ (List.mem_of_getElem? (i := 23) rfl))) (mvT hZ (hw _ (List.mem_of_getElem? (i := 26) rfl))) (by decide) (backOf (W := 0) (own_m_wsi l Z a0 hw [] (a1) (mm) (u1) (u2) (u3) (u4) (u5) (w1) (w2) (w3) (w4) h0 n0 Z0 g_a1 b1_ b2_ b3_ b4_ b5_ b6_ b7_ b8_ b9_ Eb) hZ (hw _ (List.mem_of_getElem? (i := 26) rfl)) (hw _ (List.mem_of_getElem? (i := 25) rfl)) (by decide) (by decide)) (g := (mkF m 3 #[.val (.ref a1), .val (.ref b1), .val (.int p2)] [(.int mm), (.ref a1)])) rfl (by rw [hml]; rfl) (Steps.refl _) (a := a1) (argsL := [(.int mm)]) (rest := []) (lenOf own_pd5 rfl) rfl (by show 2 * 0 + _ ≤ _; exact Nat.le_of_eq rfl) (hb hby own_d5_3) (fun _ _ => ⟨rfl, e0, (by decide : 0 + 0 ≤ _), (by decide : 0 + 0 ≤ _)⟩)
  dsimp only [Pt.U, Pt.locs, Pt.cells, Pt.slots] at X106 l106 y106 z106 st106 hQ106
  subst l106 y106 z106
  obtain ⟨rfl, Nq106, Kq106, Fq106_0, Fq106_1, Fq106_2, Fq106_3, Fq106_4, Fq106_5, Fq106_6, Fq106_7, Fq106_8, Fq106_9⟩ := hQ106
  have N106 := Fr.app N0 Nq106
  have f106_9 := Eb.keep Kq106
  have f106_10 := Va.keep Kq106 (ninS ne_b1_a1 nin0)
  have K106 : Keep h0 T106.heap [a1] := K0.trans Kq106 (allS (Or.inl (by simp)) all0)
  refine own_step (U' := (T106.setTop (mkF m 6 #[.val (.ref a1), .val (.ref b1), .val (.int p2)] []))) (fun t ht => st106.trans ht) ?_
  refine own_step (U' := (T106.setTop (mkF m 7 #[.val (.ref a1), .val (.ref b1), .val (.int p2)] [(.ref a1)]))) (fun t ht => XS.aloadN X106.here hx rfl (hb hby own_d5_6) rfl rfl ht) ?_
  refine own_step (U' := (T106.setTop (mkF m 8 #[.val (.ref a1), .val (.ref b1), .val (.int p2)] [(.ref b1), (.ref a1)]))) (fun t ht => XS.aloadN X106.here hx rfl (hb hby own_d5_7) rfl rfl ht) ?_
  obtain ⟨T107, h107, X107, e107, W107, st107⟩ := putF X106 hx hZ hown (host := "") (Or.inl (hw _ (List.mem_of_getElem? (i := 32) rfl))) Via.refl rfl Fq106_1 Fq106_9 (Or.inr ⟨(hw _ (List.mem_of_getElem? (i := 33) rfl)), rfl, hnm⟩) (hw _ (List.mem_of_getElem? (i := 12) rfl)) (ty := (.array .char)) (by decide) rfl rfl (g := (mkF m 8 #[.val (.ref a1), .val (.ref b1), .val (.int p2)] [(.ref b1), (.ref a1)])) rfl rfl (hb hby own_d5_8)
  have f107_0 := f106_10.other W107 ne_b1_a1
  have f107_1 := Fq106_0.other W107 (Or.inr (slot_ne (Or.inr (hw _ (List.mem_of_getElem? (i := 31) rfl))) (Or.inr (hw _ (List.mem_of_getElem? (i := 33) rfl))) (by decide) (t := .int) (t' := (.array .char)) (by decide) (by decide)))
  have f107_3 := Fq106_2.other W107 (Or.inr (slot_ne (Or.inr (hw _ (List.mem_of_getElem? (i := 35) rfl))) (Or.inr (hw _ (List.mem_of_getElem? (i := 33) rfl))) (by decide) (t := .int) (t' := (.array .char)) (by decide) (by decide)))
  have f107_4 := Fq106_3.other W107 (Or.inr (slot_ne (Or.inr (hw _ (List.mem_of_getElem? (i := 75) rfl))) (Or.inr (hw _ (List.mem_of_getElem? (i := 33) rfl))) (by decide) (t := (.object "com/example/skip2/skip2/windowsearch/FlagSearch")) (t' := (.array .char)) (by decide) (by decide)))
  have f107_5 := Fq106_4.other W107 (Or.inr (slot_ne (Or.inr (hw _ (List.mem_of_getElem? (i := 77) rfl))) (Or.inr (hw _ (List.mem_of_getElem? (i := 33) rfl))) (by decide) (t := .boolean) (t' := (.array .char)) (by decide) (by decide)))
  have f107_6 := Fq106_5.other W107 (Or.inr (own_slotO (hw _ (List.mem_of_getElem? (i := 79) rfl)) (hw _ (List.mem_of_getElem? (i := 33) rfl)) (by decide)))
  have f107_7 := Fq106_6.other W107 (Or.inr (slot_ne (Or.inr (hw _ (List.mem_of_getElem? (i := 86) rfl))) (Or.inr (hw _ (List.mem_of_getElem? (i := 33) rfl))) (by decide) (t := .int) (t' := (.array .char)) (by decide) (by decide)))
  have f107_8 := Fq106_7.other W107 (Or.inr (slot_ne (Or.inl (hw _ (List.mem_of_getElem? (i := 93) rfl))) (Or.inr (hw _ (List.mem_of_getElem? (i := 33) rfl))) (by decide) (t := (.array .int)) (t' := (.array .char)) (by decide) (by decide)))
  have f107_9 := Fq106_8.other W107 (Or.inr (slot_ne (Or.inl (hw _ (List.mem_of_getElem? (i := 105) rfl))) (Or.inr (hw _ (List.mem_of_getElem? (i := 33) rfl))) (by decide) (t := .int) (t' := (.array .char)) (by decide) (by decide)))
  have f107_10 := Fq106_9.wr W107
  have F107 := Fq106_1.same W107
  have N107 := Fr.snoc X107 N106 g_a1
  have K107 : Keep h0 h107 [a1] := K106.wr W107 (Or.inl (by simp))
  refine own_step (U' := (T107.setTop (mkF m 11 #[.val (.ref a1), .val (.ref b1), .val (.int p2)] []))) (fun t ht => st107 _ ht) ?_
  refine own_step (U' := (T107.setTop (mkF m 12 #[.val (.ref a1), .val (.ref b1), .val (.int p2)] [(.ref a1)]))) (fun t ht => XS.aloadN X107.here hx rfl (hb hby own_d5_11) rfl rfl ht) ?_
  refine own_step (U' := (T107.setTop (mkF m 13 #[.val (.ref a1), .val (.ref b1), .val (.int p2)] [(.ref b1), (.ref a1)]))) (fun t ht => XS.aloadN X107.here hx rfl (hb hby own_d5_12) rfl rfl ht) ?_
  obtain ⟨cl108, Ar108, q108, S108, N108_, H108, G108⟩ := (id f107_0)
  refine own_step (U' := (T107.setTop (mkF m 14 #[.val (.ref a1), .val (.ref b1), .val (.int p2)] [(.int mm), (.ref a1)]))) (fun t ht => X107.arraylength hx (own_at e107 Ar108.1) (State.isArrayOf_alike hZ.alike Ar108.2.1) (g := (mkF m 13 #[.val (.ref a1), .val (.ref b1), .val (.int p2)] [(.ref b1), (.ref a1)])) rfl rfl (hb hby own_d5_13) _ (by rw [len_of S108 N108_]; exact ht)) ?_
  obtain ⟨T109, h109, X109, e109, W109, st109⟩ := putF X107 hx hZ hown (host := "") (Or.inl (hw _ (List.mem_of_getElem? (i := 34) rfl))) Via.refl e107 f107_3 f107_10 (Or.inr ⟨(hw _ (List.mem_of_getElem? (i := 35) rfl)), rfl, hnm⟩) (hw _ (List.mem_of_getElem? (i := 12) rfl)) (ty := .int) (by decide) rfl rfl (g := (mkF m 14 #[.val (.ref a1), .val (.ref b1), .val (.int p2)] [(.int mm), (.ref a1)])) rfl rfl (hb hby own_d5_14)
  have f109_0 := f107_0.other W109 ne_b1_a1
  have f109_1 := f107_1.other W109 (Or.inr (own_slotO (hw _ (List.mem_of_getElem? (i := 31) rfl)) (hw _ (List.mem_of_getElem? (i := 35) rfl)) (by decide)))
  have f109_3 := f107_4.other W109 (Or.inr (slot_ne (Or.inr (hw _ (List.mem_of_getElem? (i := 75) rfl))) (Or.inr (hw _ (List.mem_of_getElem? (i := 35) rfl))) (by decide) (t := (.object "com/example/skip2/skip2/windowsearch/FlagSearch")) (t' := .int) (by decide) (by decide)))
  have f109_4 := f107_5.other W109 (Or.inr (slot_ne (Or.inr (hw _ (List.mem_of_getElem? (i := 77) rfl))) (Or.inr (hw _ (List.mem_of_getElem? (i := 35) rfl))) (by decide) (t := .boolean) (t' := .int) (by decide) (by decide)))
  have f109_5 := f107_6.other W109 (Or.inr (slot_ne (Or.inr (hw _ (List.mem_of_getElem? (i := 79) rfl))) (Or.inr (hw _ (List.mem_of_getElem? (i := 35) rfl))) (by decide) (t := (.array .char)) (t' := .int) (by decide) (by decide)))
  have f109_6 := f107_7.other W109 (Or.inr (slot_ne (Or.inr (hw _ (List.mem_of_getElem? (i := 86) rfl))) (Or.inr (hw _ (List.mem_of_getElem? (i := 35) rfl))) (by decide) (t := .int) (t' := .int) (by decide) (by decide)))
  have f109_7 := f107_8.other W109 (Or.inr (slot_ne (Or.inl (hw _ (List.mem_of_getElem? (i := 93) rfl))) (Or.inr (hw _ (List.mem_of_getElem? (i := 35) rfl))) (by decide) (t := (.array .int)) (t' := .int) (by decide) (by decide)))
  have f109_8 := f107_9.other W109 (Or.inr (slot_ne (Or.inl (hw _ (List.mem_of_getElem? (i := 105) rfl))) (Or.inr (hw _ (List.mem_of_getElem? (i := 35) rfl))) (by decide) (t := .int) (t' := .int) (by decide) (by decide)))
  have f109_9 := f107_10.wr W109
  have f109_10 := F107.other W109 (Or.inr (slot_ne (Or.inr (hw _ (List.mem_of_getElem? (i := 33) rfl))) (Or.inr (hw _ (List.mem_of_getElem? (i := 35) rfl))) (by decide) (t := (.array .char)) (t' := .int) (by decide) (by decide)))
  have F109 := f107_3.same W109
  have N109 := Fr.snoc X109 N107 g_a1
  have K109 : Keep h0 h109 [a1] := K107.wr W109 (Or.inl (by simp))
  refine own_step (U' := (T109.setTop (mkF m 17 #[.val (.ref a1), .val (.ref b1), .val (.int p2)] []))) (fun t ht => st109 _ ht) ?_
  refine own_step (U' := (T109.setTop (mkF m 18 #[.val (.ref a1), .val (.ref b1), .val (.int p2)] [(.ref a1)]))) (fun t ht => XS.aloadN X109.here hx rfl (hb hby own_d5_17) rfl rfl ht) ?_
  refine own_step (U' := (T109.setTop (mkF m 19 #[.val (.ref a1), .val (.ref b1), .val (.int p2)] [(.ref a1), (.ref a1)]))) (fun t ht => XS.aloadN X109.here hx rfl (hb hby own_d5_18) rfl rfl ht) ?_
  obtain ⟨T110, X110, e110, st110⟩ := getF X109 hx hZ hown (host := "") (Or.inl (hw _ (List.mem_of_getElem? (i := 34) rfl))) Via.refl e109 F109 (g := (mkF m 19 #[.val (.ref a1), .val (.ref b1), .val (.int p2)] [(.ref a1), (.ref a1)])) rfl rfl (hb hby own_d5_19)
  refine own_step (U' := (T110.setTop (mkF m 22 #[.val (.ref a1), .val (.ref b1), .val (.int p2)] [(.int mm), (.ref a1)]))) (fun t ht => st110 _ ht) ?_
  refine own_step (U' := (T110.setTop (mkF m 24 #[.val (.ref a1), .val (.ref b1), .val (.int p2)] [(.int (32 : Int32)), (.int mm), (.ref a1)]))) (fun t ht => XS.bipush X110.here hx rfl (hb hby own_d5_22) ht) ?_
  refine own_step (U' := (T110.setTop (mkF m 27 #[.val (.ref a1), .val (.ref b1), .val (.int p2)] [(.ref a1)]))) (fun t ht => XS.icmpNo X110.here hx rfl (hb hby own_d5_24) rfl (XT.ii_gt_f ((fun q => absurd ((own_lti (i := 32) rfl hm).mp q) (by omega)) : ¬ ((32 : Int32) < mm))) ht) ?_
  obtain ⟨T111, h111, X111, e111, E111, A111, D111, -, st111⟩ := newO X110 hx hZ hown (hw _ (List.mem_of_getElem? (i := 36) rfl)) (hw _ (List.mem_of_getElem? (i := 37) rfl)) (hw _ (List.mem_of_getElem? (i := 38) rfl)) e110 (g := (mkF m 27 #[.val (.ref a1), .val (.ref b1), .val (.int p2)] [(.ref a1)])) rfl (hb hby own_d5_27) (by decide) (by decide)
  obtain ⟨b111, g111⟩ : ∃ z, z = (h109).size := ⟨_, rfl⟩
  rw [← g111] at A111 D111 st111
  have ne_b1_b111 : b1 ≠ b111 := Nat.ne_of_lt (Nat.lt_of_lt_of_le f109_0.lt (Nat.le_of_eq g111.symm))
  have ne_a1_b111 : a1 ≠ b111 := Nat.ne_of_lt (Nat.lt_of_lt_of_le f109_1.lt (Nat.le_of_eq g111.symm))
  have g_b111 : n0 ≤ b111 := Nat.le_trans (Nat.le_trans Z0 K109.1) (Nat.le_of_eq g111.symm)
  have sz_b111 : h0.size ≤ b111 := Nat.le_trans K109.1 (Nat.le_of_eq g111.symm)
  have f111_0 := f109_0.ext E111
  have f111_1 := f109_1.ext E111
  have f111_2 := f109_3.ext E111
  have f111_3 := f109_4.ext E111
  have f111_4 := f109_5.ext E111
  have f111_5 := f109_6.ext E111
  have f111_6 := f109_7.ext E111
  have f111_7 := f109_8.ext E111
  have f111_8 := f109_9.ext E111
  have f111_9 := f109_10.ext E111
  have f111_10 := F109.ext E111
  have K111 : Keep h0 h111 [a1] := K109.ext E111
  have F111_44 : Fld Z h111 b111 "com/example/skip2/skip2/windowsearch/FlagSearch" "pattern" "[C" .null := D111 (Or.inr (hw _ (List.mem_of_getElem? (i := 44) rfl))) (ty := (.array .char)) (by decide)
  have F111_46 : Fld Z h111 b111 "com/example/skip2/skip2/windowsearch/FlagSearch" "length" "I" (.int (0 : Int32)) := D111 (Or.inr (hw _ (List.mem_of_getElem? (i := 46) rfl))) (ty := .int) (by decide)
  have F111_52 : Fld Z h111 b111 "com/example/skip2/skip2/windowsearch/FlagSearch" "lastUnlike" "I" (.int (0 : Int32)) := D111 (Or.inr (hw _ (List.mem_of_getElem? (i := 52) rfl))) (ty := .int) (by decide)
  have F111_57 : Fld Z h111 b111 "com/example/skip2/skip2/windowsearch/FlagSearch" "between" "I" (.int (0 : Int32)) := D111 (Or.inr (hw _ (List.mem_of_getElem? (i := 57) rfl))) (ty := .int) (by decide)
  have F111_59 : Fld Z h111 b111 "com/example/skip2/skip2/windowsearch/FlagSearch" "lowBytes" "Z" (.int (0 : Int32)) := D111 (Or.inr (hw _ (List.mem_of_getElem? (i := 59) rfl))) (ty := .boolean) (by decide)
  have F111_61 : Fld Z h111 b111 "com/example/skip2/skip2/windowsearch/FlagSearch" "lowWord" "J" (.long (0 : Int64)) := D111 (Or.inr (hw _ (List.mem_of_getElem? (i := 61) rfl))) (ty := .long) (by decide)
  have F111_63 : Fld Z h111 b111 "com/example/skip2/skip2/windowsearch/FlagSearch" "highWord" "J" (.long (0 : Int64)) := D111 (Or.inr (hw _ (List.mem_of_getElem? (i := 63) rfl))) (ty := .long) (by decide)
  have F111_68 : Fld Z h111 b111 "com/example/skip2/skip2/windowsearch/FlagSearch" "lowMask" "J" (.long (0 : Int64)) := D111 (Or.inr (hw _ (List.mem_of_getElem? (i := 68) rfl))) (ty := .long) (by decide)
  have F111_73 : Fld Z h111 b111 "com/example/skip2/skip2/windowsearch/FlagSearch" "highMask" "J" (.long (0 : Int64)) := D111 (Or.inr (hw _ (List.mem_of_getElem? (i := 73) rfl))) (ty := .long) (by decide)
  refine own_step (U' := (T111.setTop (mkF m 30 #[.val (.ref a1), .val (.ref b1), .val (.int p2)] [(.ref b111), (.ref a1)]))) (fun t ht => st111 _ ht) ?_
  refine own_step (U' := (T111.setTop (mkF m 31 #[.val (.ref a1), .val (.ref b1), .val (.int p2)] [(.ref b111), (.ref b111), (.ref a1)]))) (fun t ht => XS.dup X111.here hx rfl (hb hby own_d5_30) rfl rfl ht) ?_
  refine own_step (U' := (T111.setTop (mkF m 32 #[.val (.ref a1), .val (.ref b1), .val (.int p2)] [(.ref b1), (.ref b111), (.ref b111), (.ref a1)]))) (fun t ht => XS.aloadN X111.here hx rfl (hb hby own_d5_31) rfl rfl ht) ?_
  obtain ⟨_, _, ⟨T112, L112, k112, n112⟩, -, X112, ⟨Lc112, hQ112, l112, y112, z112⟩, st112⟩ := X111.specialBack hx (y := (⟨"com/example/skip2/skip2/windowsearch/FlagSearch", "<init>", "([C)V"⟩ : MethodName)) rfl hown (mvT hZ (hw _ (List.mem_of_getElem? (i := 39) rfl))) (mvT hZ (hw _ (List.mem_of_getElem? (i := 40) rfl))) (mvT hZ (hw _ (List.mem_of_getElem? (i := 41) rfl))) (by decide) (backOf (W := 2) (own_m_fli l Z a0 hw [] (b111) (b1) (ka) (cs) (mm) (M) h111 n0 (Nat.le_trans Z0 K111.1) g_b111 ne_b1_b111 F111_44 F111_46 F111_52 F111_57 F111_59 F111_61 F111_63 F111_68 F111_73 A111 f111_0 hm h1 h8) hZ (hw _ (List.mem_of_getElem? (i := 41) rfl)) (hw _ (List.mem_of_getElem? (i := 38) rfl)) (by decide) (by decide)) (g := (mkF m 32 #[.val (.ref a1), .val (.ref b1), .val (.int p2)] [(.ref b1), (.ref b111), (.ref b111), (.ref a1)])) rfl (by rw [hml]; rfl) (Steps.refl _) (a := b111) (argsL := [(.ref b1)]) (rest := [(.ref b111), (.ref a1)]) (lenOf own_pd6 rfl) rfl (by show 2 * 0 + _ ≤ _; exact Nat.le_of_eq rfl) (hb hby own_d5_32) (fun _ _ => ⟨rfl, e111, (by decide : 1 + 0 ≤ _), (by decide : 9 + 0 ≤ _)⟩)
  dsimp only [Pt.U, Pt.locs, Pt.cells, Pt.slots] at X112 l112 y112 z112 st112 hQ112
  subst l112 y112 z112
  obtain ⟨rfl, Nq112, Kq112⟩ := hQ112
  have N112 := Fr.app N109 Nq112
  have f112_0 := f111_0.keep Kq112 (ninS ne_b1_b111 nin0)
  have f112_1 := f111_1.keep Kq112 (ninS ne_a1_b111 nin0)
  have f112_2 := f111_2.keep Kq112 (ninS ne_a1_b111 nin0)
  have f112_3 := f111_3.keep Kq112 (ninS ne_a1_b111 nin0)
  have f112_4 := f111_4.keep Kq112 (ninS ne_a1_b111 nin0)
  have f112_5 := f111_5.keep Kq112 (ninS ne_a1_b111 nin0)
  have f112_6 := f111_6.keep Kq112 (ninS ne_a1_b111 nin0)
  have f112_7 := f111_7.keep Kq112 (ninS ne_a1_b111 nin0)
  have f112_8 := f111_8.keep Kq112
  have f112_9 := f111_9.keep Kq112 (ninS ne_a1_b111 nin0)
  have f112_10 := f111_10.keep Kq112 (ninS ne_a1_b111 nin0)
  have f112_11 := A111.keep Kq112
  have K112 : Keep h0 T112.heap [a1] := K111.trans Kq112 (allS (Or.inr sz_b111) all0)
  refine own_step (U' := (T112.setTop (mkF m 35 #[.val (.ref a1), .val (.ref b1), .val (.int p2)] [(.ref b111), (.ref a1)]))) (fun t ht => st112.trans ht) ?_
  refine own_step (U' := (T112.setTop (mkF m 39 #[.val (.ref a1), .val (.ref b1), .val (.int p2)] [(.ref b111), (.ref a1)]))) (fun t ht => XS.goto X112.here hx rfl (pc0 := 35) (pc' := 39) rfl (hb hby own_d5_35) (by decide) (by decide) ht) ?_
  obtain ⟨T113, h113, X113, e113, W113, st113⟩ := putF X112 hx hZ hown (host := "") (Or.inl (hw _ (List.mem_of_getElem? (i := 74) rfl))) Via.refl rfl f112_2 f112_8 (Or.inr ⟨(hw _ (List.mem_of_getElem? (i := 75) rfl)), rfl, hnm⟩) (hw _ (List.mem_of_getElem? (i := 12) rfl)) (ty := (.object "com/example/skip2/skip2/windowsearch/FlagSearch")) (by decide) rfl rfl (g := (mkF m 39 #[.val (.ref a1), .val (.ref b1), .val (.int p2)] [(.ref b111), (.ref a1)])) rfl rfl (hb hby own_d5_39)
  have f113_0 := f112_0.other W113 ne_b1_a1
  have f113_1 := f112_1.other W113 (Or.inr (slot_ne (Or.inr (hw _ (List.mem_of_getElem? (i := 31) rfl))) (Or.inr (hw _ (List.mem_of_getElem? (i := 75) rfl))) (by decide) (t := .int) (t' := (.object "com/example/skip2/skip2/windowsearch/FlagSearch")) (by decide) (by decide)))
  have f113_3 := f112_3.other W113 (Or.inr (slot_ne (Or.inr (hw _ (List.mem_of_getElem? (i := 77) rfl))) (Or.inr (hw _ (List.mem_of_getElem? (i := 75) rfl))) (by decide) (t := .boolean) (t' := (.object "com/example/skip2/skip2/windowsearch/FlagSearch")) (by decide) (by decide)))
  have f113_4 := f112_4.other W113 (Or.inr (slot_ne (Or.inr (hw _ (List.mem_of_getElem? (i := 79) rfl))) (Or.inr (hw _ (List.mem_of_getElem? (i := 75) rfl))) (by decide) (t := (.array .char)) (t' := (.object "com/example/skip2/skip2/windowsearch/FlagSearch")) (by decide) (by decide)))
  have f113_5 := f112_5.other W113 (Or.inr (slot_ne (Or.inr (hw _ (List.mem_of_getElem? (i := 86) rfl))) (Or.inr (hw _ (List.mem_of_getElem? (i := 75) rfl))) (by decide) (t := .int) (t' := (.object "com/example/skip2/skip2/windowsearch/FlagSearch")) (by decide) (by decide)))
  have f113_6 := f112_6.other W113 (Or.inr (slot_ne (Or.inl (hw _ (List.mem_of_getElem? (i := 93) rfl))) (Or.inr (hw _ (List.mem_of_getElem? (i := 75) rfl))) (by decide) (t := (.array .int)) (t' := (.object "com/example/skip2/skip2/windowsearch/FlagSearch")) (by decide) (by decide)))
  have f113_7 := f112_7.other W113 (Or.inr (slot_ne (Or.inl (hw _ (List.mem_of_getElem? (i := 105) rfl))) (Or.inr (hw _ (List.mem_of_getElem? (i := 75) rfl))) (by decide) (t := .int) (t' := (.object "com/example/skip2/skip2/windowsearch/FlagSearch")) (by decide) (by decide)))
  have f113_8 := f112_8.wr W113
  have f113_9 := f112_9.other W113 (Or.inr (slot_ne (Or.inr (hw _ (List.mem_of_getElem? (i := 33) rfl))) (Or.inr (hw _ (List.mem_of_getElem? (i := 75) rfl))) (by decide) (t := (.array .char)) (t' := (.object "com/example/skip2/skip2/windowsearch/FlagSearch")) (by decide) (by decide)))
  have f113_10 := f112_10.other W113 (Or.inr (slot_ne (Or.inr (hw _ (List.mem_of_getElem? (i := 35) rfl))) (Or.inr (hw _ (List.mem_of_getElem? (i := 75) rfl))) (by decide) (t := .int) (t' := (.object "com/example/skip2/skip2/windowsearch/FlagSearch")) (by decide) (by decide)))
  have f113_11 := f112_11.wr W113
  have F113 := f112_2.same W113
  have N113 := Fr.snoc X113 N112 g_a1
  have K113 : Keep h0 h113 [a1] := K112.wr W113 (Or.inl (by simp))
  refine own_step (U' := (T113.setTop (mkF m 42 #[.val (.ref a1), .val (.ref b1), .val (.int p2)] []))) (fun t ht => st113 _ ht) ?_
  refine own_step (U' := (T113.setTop (mkF m 43 #[.val (.ref a1), .val (.ref b1), .val (.int p2)] [(.ref a1)]))) (fun t ht => XS.aloadN X113.here hx rfl (hb hby own_d5_42) rfl rfl ht) ?_
  refine own_step (U' := (T113.setTop (mkF m 44 #[.val (.ref a1), .val (.ref b1), .val (.int p2)] [(.int p2), (.ref a1)]))) (fun t ht => XS.iloadN X113.here hx rfl (hb hby own_d5_43) rfl ht) ?_
  obtain ⟨T114, h114, X114, e114, W114, st114⟩ := putFN X113 hx hZ hown (hw _ (List.mem_of_getElem? (i := 76) rfl)) Via.refl e113 f113_3 f113_8 (Or.inr ⟨(hw _ (List.mem_of_getElem? (i := 77) rfl)), rfl, hnm⟩) (hw _ (List.mem_of_getElem? (i := 12) rfl)) (ty := .boolean) (v' := (.int (p2 &&& 1))) (by decide) rfl (fits_nar_bool _) (g := (mkF m 44 #[.val (.ref a1), .val (.ref b1), .val (.int p2)] [(.int p2), (.ref a1)])) rfl rfl (hb hby own_d5_44)
  have f114_0 := f113_0.other W114 ne_b1_a1
  have f114_1 := f113_1.other W114 (Or.inr (slot_ne (Or.inr (hw _ (List.mem_of_getElem? (i := 31) rfl))) (Or.inr (hw _ (List.mem_of_getElem? (i := 77) rfl))) (by decide) (t := .int) (t' := .boolean) (by decide) (by decide)))
  have f114_3 := f113_4.other W114 (Or.inr (slot_ne (Or.inr (hw _ (List.mem_of_getElem? (i := 79) rfl))) (Or.inr (hw _ (List.mem_of_getElem? (i := 77) rfl))) (by decide) (t := (.array .char)) (t' := .boolean) (by decide) (by decide)))
  have f114_4 := f113_5.other W114 (Or.inr (slot_ne (Or.inr (hw _ (List.mem_of_getElem? (i := 86) rfl))) (Or.inr (hw _ (List.mem_of_getElem? (i := 77) rfl))) (by decide) (t := .int) (t' := .boolean) (by decide) (by decide)))
  have f114_5 := f113_6.other W114 (Or.inr (slot_ne (Or.inl (hw _ (List.mem_of_getElem? (i := 93) rfl))) (Or.inr (hw _ (List.mem_of_getElem? (i := 77) rfl))) (by decide) (t := (.array .int)) (t' := .boolean) (by decide) (by decide)))
  have f114_6 := f113_7.other W114 (Or.inr (slot_ne (Or.inl (hw _ (List.mem_of_getElem? (i := 105) rfl))) (Or.inr (hw _ (List.mem_of_getElem? (i := 77) rfl))) (by decide) (t := .int) (t' := .boolean) (by decide) (by decide)))
  have f114_7 := f113_8.wr W114
  have f114_8 := f113_9.other W114 (Or.inr (slot_ne (Or.inr (hw _ (List.mem_of_getElem? (i := 33) rfl))) (Or.inr (hw _ (List.mem_of_getElem? (i := 77) rfl))) (by decide) (t := (.array .char)) (t' := .boolean) (by decide) (by decide)))
  have f114_9 := f113_10.other W114 (Or.inr (slot_ne (Or.inr (hw _ (List.mem_of_getElem? (i := 35) rfl))) (Or.inr (hw _ (List.mem_of_getElem? (i := 77) rfl))) (by decide) (t := .int) (t' := .boolean) (by decide) (by decide)))
  have f114_10 := f113_11.wr W114
  have f114_11 := F113.other W114 (Or.inr (slot_ne (Or.inr (hw _ (List.mem_of_getElem? (i := 75) rfl))) (Or.inr (hw _ (List.mem_of_getElem? (i := 77) rfl))) (by decide) (t := (.object "com/example/skip2/skip2/windowsearch/FlagSearch")) (t' := .boolean) (by decide) (by decide)))
  have F114 := f113_3.same W114
  have N114 := Fr.snoc X114 N113 g_a1
  have K114 : Keep h0 h114 [a1] := K113.wr W114 (Or.inl (by simp))
  refine own_step (U' := (T114.setTop (mkF m 47 #[.val (.ref a1), .val (.ref b1), .val (.int p2)] []))) (fun t ht => st114 _ ht) ?_
  refine own_ret X114 (v := none) (fun _ => rfl) Bd.notSynchronized (by decide) (by decide) ?_ (fun fs hr => X114.returnOut hx Bd.returns (hb hby own_d5_47) hr)
  show own_Q_ssi Z a1 b1 p2 ka cs mm M u1 u2 u3 u4 u5 w1 w2 w3 w4 h0 n0 _ T114.heap _
  rw [e114]
  exact ⟨rfl, N114, K114, f114_3, f114_4, f114_5, f114_6, f114_7⟩
theorem own_pn7 : plainName "com/example/skip2/skip2/boyermoore/BoyerMooreSearcher" = true := by first | (simp [plainName, overriddenIn]; done) | decide +kernel
theorem own_pd7 : parseMethodDescriptor "([CZ)V" = some ⟨[(.array .char), .boolean], none⟩ := by decide +kernel
theorem own_pd8 : parseMethodDescriptor "(JJ)J" = some ⟨[.long, .long], some .long⟩ := by decide +kernel
theorem own_d4_0 : decode prog_5_method_1_code 0 = .ok (.aload_n 0, 1) := by decide +kernel
theorem own_d4_1 : decode prog_5_method_1_code 1 = .ok (.aload_n 1, 1) := by decide +kernel
theorem own_d4_2 : decode prog_5_method_1_code 2 = .ok (.iconst 1, 1) := by decide +kernel
theorem own_d4_3 : decode prog_5_method_1_code 3 = .ok (.invokespecial 1, 3) := by decide +kernel
theorem own_d4_6 : decode prog_5_method_1_code 6 = .ok (.aload_n 0, 1) := by decide +kernel
theorem own_d4_7 : decode prog_5_method_1_code 7 = .ok (.aload_n 1, 1) := by decide +kernel
theorem own_d4_8 : decode prog_5_method_1_code 8 = .ok (.putfield 7, 3) := by decide +kernel
theorem own_d4_11 : decode prog_5_method_1_code 11 = .ok (.aload_n 0, 1) := by decide +kernel
theorem own_d4_12 : decode prog_5_method_1_code 12 = .ok (.ldc2_w 13, 3) := by decide +kernel
theorem own_d4_15 : decode prog_5_method_1_code 15 = .ok (.aload_n 1, 1) := by decide +kernel
theorem own_d4_16 : decode prog_5_method_1_code 16 = .ok (.arraylength, 1) := by decide +kernel
theorem own_d4_17 : decode prog_5_method_1_code 17 = .ok (.i2l, 1) := by decide +kernel
theorem own_d4_18 : decode prog_5_method_1_code 18 = .ok (.lmul, 1) := by decide +kernel
theorem own_d4_19 : decode prog_5_method_1_code 19 = .ok (.ldc2_w 17, 3) := by decide +kernel
theorem own_d4_22 : decode prog_5_method_1_code 22 = .ok (.invokestatic 19, 3) := by decide +kernel
theorem own_d4_25 : decode prog_5_method_1_code 25 = .ok (.l2i, 1) := by decide +kernel
theorem own_d4_26 : decode prog_5_method_1_code 26 = .ok (.putfield 25, 3) := by decide +kernel
theorem own_d4_29 : decode prog_5_method_1_code 29 = .ok (.return_, 1) := by decide +kernel
def own_Q_bmi (Z : State) (a1 : Addr) (b1 : Addr) (ka : ClassId) (cs : List Int32) (mm : Int32) (M : Nat) (u1 : Value) (u2 : Value) (u3 : Value) (u4 : Value) (u5 : Value) (h0 : Heap) (n0 : Nat) (v : Option Value) (h : Heap) (L : List Loc) : Prop := v = none ∧ Fr n0 L ∧ Keep h0 h [a1] ∧ (Fld Z h a1 "com/example/skip2/skip2/boyermoore/BoyerMooreSearcher" "pattern" "[C" (.ref b1)) ∧ (Fld Z h a1 "com/example/skip2/skip2/boyermoore/BoyerMooreSearcher" "budget" "I" (.int (own_bud mm))) ∧ (Fld Z h a1 "com/example/skip2/skip2/boyermoore/BoyerMooreSearcher" "goodSuffixShift" "[I" .null) ∧ (Fld Z h a1 "com/example/skip2/skip2/boyermoore/BoyerMooreSearcher" "spent" "I" (.int (0 : Int32))) ∧ (Exa Z h a1 "com/example/skip2/skip2/boyermoore/BoyerMooreSearcher")
set_option maxRecDepth 65536 in
set_option maxHeartbeats 40000000 in
theorem own_m_bmi (l : Launch) (Z : State) (a0 : Array Value) (hw : ∀ d ∈ tables_1, d.before a0 Z = true) (ws : List Jvm.Cond) (a1 : Addr) (b1 : Addr) (ka : ClassId) (cs : List Int32) (mm : Int32) (M : Nat) (u1 : Value) (u2 : Value) (u3 : Value) (u4 : Value) (u5 : Value) (h0 : Heap) (n0 : Nat) (Z0 : n0 ≤ h0.size) (g_a1 : n0 ≤ a1) (ne_b1_a1 : b1 ≠ a1) (b1_ : Fld Z h0 a1 "com/example/skip2/skip2/windowsearch/WindowSearcher" "length" "I" u1) (b2_ : Fld Z h0 a1 "com/example/skip2/skip2/windowsearch/SkipSearcher" "pattern" "[C" u2) (b3_ : Fld Z h0 a1 "com/example/skip2/skip2/windowsearch/SkipSearcher" "length" "I" u3) (b4_ : Fld Z h0 a1 "com/example/skip2/skip2/windowsearch/SkipSearcher" "flagSearch" "Lcom/example/skip2/skip2/windowsearch/FlagSearch;" u4) (b5_ : Fld Z h0 a1 "com/example/skip2/skip2/windowsearch/SkipSearcher" "byPairs" "Z" u5) (b6_ : Fld Z h0 a1 "com/example/skip2/skip2/boyermoore/BoyerMooreSearcher" "pattern" "[C" .null) (b7_ : Fld Z h0 a1 "com/example/skip2/skip2/boyermoore/BoyerMooreSearcher" "budget" "I" (.int (0 : Int32))) (b8_ : Fld Z h0 a1 "com/example/skip2/skip2/boyermoore/BoyerMooreSearcher" "goodSuffixShift" "[I" .null) (b9_ : Fld Z h0 a1 "com/example/skip2/skip2/boyermoore/BoyerMooreSearcher" "spent" "I" (.int (0 : Int32))) (Eb : Exa Z h0 a1 "com/example/skip2/skip2/boyermoore/BoyerMooreSearcher") (Va : Arv Z h0 b1 ka .char mm (cs.map Value.int) (.int (0 : Int32))) (hm : mm.toInt = (M : Int)) (h1 : 1 ≤ M) (h8 : M ≤ 8) :
    MetFree l (⟨"com/example/skip2/skip2/boyermoore/BoyerMooreSearcher", "<init>", "([C)V"⟩ : MethodName) (head1 (Jvm.Cond.code (⟨"com/example/skip2/skip2/boyermoore/BoyerMooreSearcher", "<init>", "([C)V"⟩ : MethodName) prog_5_method_1_code 2 none :: ws) ({ frames := 3, cells := 1, slots := 9, locals := 52 } : Room)) (fun a U => a = #[(.ref a1), (.ref b1)] ∧ Z.Warmed39 U.vm ∧ U.heap = h0) (fun _ _ _ _ _ => True) (fun _ U o U' => ∃ v L, o = .returned v ∧ own_Q_bmi Z a1 b1 ka cs mm M u1 u2 u3 u4 u5 h0 n0 v U'.heap L ∧ FrameEnd U o U' L ({ frames := 3, cells := 1, slots := 9, locals := 52 } : Room).cells ({ frames := 3, cells := 1, slots := 9, locals := 52 } : Room).slots) := by
  refine MetFree.of_bodySF (plainFor_of_name own_pn7) hisR ?_
  intro p e s m args below meth c s₁ Bd hml0 hP hK
  obtain ⟨rfl, hZ, hh⟩ := hP
  have hx := Bd.exec
  have hby := Bd.bytes
  have hml : c.maxLocals = 2 := hml0
  have hown : s.vm.findClass "com/example/skip2/skip2/boyermoore/BoyerMooreSearcher" = some m.cls := findClass_of_methodNamed Bd.named
  have hnm := (name_of_methodNamed Bd.named Bd.method).1
  have X0 : Stand p l e ({ frames := 3, cells := 1, slots := 9, locals := 52 } : Room) s m #[(.ref a1), (.ref b1)] below meth c s₁ [] 0 0 := Stand.of_body Bd
  have e0 : s₁.heap = h0 := by rw [← hh, Bd.state]; rfl
  have N0 := Fr.nil n0
  have K0 : Keep h0 h0 [a1] := Keep.refl _ _
  show own_Go p e below s ({ frames := 3, cells := 1, slots := 9, locals := 52 } : Room).cells ({ frames := 3, cells := 1, slots := 9, locals := 52 } : Room).slots (own_Q_bmi Z a1 b1 ka cs mm M u1 u2 u3 u4 u5 h0 n0) (s₁.setTop (entryFrame m #[(.ref a1), (.ref b1)] 2))
  have ef : entryFrame m #[(.ref a1), (.ref b1)] 2 = (mkF m 0 #[.val (.ref a1), .val (.ref b1)] []) := by first | (simp [entryFrame, mkF, argsToLocals, Value.category, maxLocals]; done) | rfl
  rw [ef]
  show own_Go p e below s _ _ _ (s₁.setTop (mkF m 0 #[.val (.ref a1), .val (.ref b1)] []))
  refine own_step (U' := (s₁.setTop (mkF m 1 #[.val (.ref a1), .val (.ref b1)] [(.ref a1)]))) (fun t ht => XS.aloadN X0.here hx rfl (hb hby own_d4_0) rfl rfl ht) ?_
  refine own_step (U' := (s₁.setTop (mkF m 2 #[.val (.ref a1), .val (.ref b1)] [(.ref b1), (.ref a1)]))) (fun t ht => XS.aloadN X0.here hx rfl (hb hby own_d4_1) rfl rfl ht) ?_
  refine own_step (U' := (s₁.setTop (mkF m 3 #[.val (.ref a1), .val (.ref b1)] [(.int (1 : Int32)), (.ref b1), (.ref a1)]))) (fun t ht => XS.iconst X0.here hx rfl (hb hby own_d4_2) ht) ?_
  obtain ⟨_, _, ⟨T115, L115, k115, n115⟩, -, X115, ⟨Lc115, hQ115, l115, y115, z115⟩, st115⟩ := X0.specialBack hx (y := (⟨"com/example/skip2/skip2/windowsearch/SkipSearcher", "<init>", "([CZ)V"⟩ : MethodName)) rfl hown (mvT hZ (hw _ (List.mem_of_getElem? (i := 17) rfl))) (mvT hZ (hw _ (List.mem_of_getElem? (i := 18) rfl))) (mvT hZ (hw _ (List.mem_of_getElem? (i := 21) rfl))) (by decide) (backOf (W := 0) (own_m_ssi l Z a0 hw [] (a1) (b1) ((1 : Int32)) (ka) (cs) (mm) (M) (u1) (u2) (u3) (u4) (u5) (.null) ((.int (0 : Int32))) (.null) ((.int (0 : Int32))) h0 n0 Z0 g_a1 ne_b1_a1 b1_ b2_ b3_ b4_ b5_ b6_ b7_ b8_ b9_ Eb Va hm h1 h8) hZ (hw _ (List.mem_of_getElem? (i := 21) rfl)) (hw _ (List.mem_of_getElem? (i := 20) rfl)) (by decide) (by decide)) (g := (mkF m 3 #[.val (.ref a1), .val (.ref b1)] [(.int (1 : Int32)), (.ref b1), (.ref a1)])) rfl (by rw [hml]; rfl) (Steps.refl _) (a := a1) (argsL := [(.ref b1), (.int (1 : Int32))]) (rest := []) (lenOf own_pd7 rfl) rfl (by show 2 * 0 + _ ≤ _; exact Nat.le_of_eq rfl) (hb hby own_d4_3) (fun _ _ => ⟨rfl, e0, (by decide : 0 + 1 ≤ _), (by decide : 0 + 9 ≤ _)⟩)
  dsimp only [Pt.U, Pt.locs, Pt.cells, Pt.slots] at X115 l115 y115 z115 st115 hQ115
  subst l115 y115 z115
  obtain ⟨rfl, Nq115, Kq115, Fq115_0, Fq115_1, Fq115_2, Fq115_3, Fq115_4⟩ := hQ115
  have N115 := Fr.app N0 Nq115
  have f115_9 := Eb.keep Kq115
  have f115_10 := Va.keep Kq115 (ninS ne_b1_a1 nin0)
  have K115 : Keep h0 T115.heap [a1] := K0.trans Kq115 (allS (Or.inl (by simp)) all0)
  refine own_step (U' := (T115.setTop (mkF m 6 #[.val (.ref a1), .val (.ref b1)] []))) (fun t ht => st115.trans ht) ?_
  refine own_step (U' := (T115.setTop (mkF m 7 #[.val (.ref a1), .val (.ref b1)] [(.ref a1)]))) (fun t ht => XS.aloadN X115.here hx rfl (hb hby own_d4_6) rfl rfl ht) ?_
  refine own_step (U' := (T115.setTop (mkF m 8 #[.val (.ref a1), .val (.ref b1)] [(.ref b1), (.ref a1)]))) (fun t ht => XS.aloadN X115.here hx rfl (hb hby own_d4_7) rfl rfl ht) ?_
  obtain ⟨T116, h116, X116, e116, W116, st116⟩ := putF X115 hx hZ hown (host := "") (Or.inl (hw _ (List.mem_of_getElem? (i := 78) rfl))) Via.refl rfl Fq115_0 Fq115_4 (Or.inr ⟨(hw _ (List.mem_of_getElem? (i := 79) rfl)), rfl, hnm⟩) (hw _ (List.mem_of_getElem? (i := 12) rfl)) (ty := (.array .char)) (by decide) rfl rfl (g := (mkF m 8 #[.val (.ref a1), .val (.ref b1)] [(.ref b1), (.ref a1)])) rfl rfl (hb hby own_d4_8)
  have f116_0 := f115_10.other W116 ne_b1_a1
  have f116_2 := Fq115_1.other W116 (Or.inr (slot_ne (Or.inr (hw _ (List.mem_of_getElem? (i := 86) rfl))) (Or.inr (hw _ (List.mem_of_getElem? (i := 79) rfl))) (by decide) (t := .int) (t' := (.array .char)) (by decide) (by decide)))
  have f116_3 := Fq115_2.other W116 (Or.inr (slot_ne (Or.inl (hw _ (List.mem_of_getElem? (i := 93) rfl))) (Or.inr (hw _ (List.mem_of_getElem? (i := 79) rfl))) (by decide) (t := (.array .int)) (t' := (.array .char)) (by decide) (by decide)))
  have f116_4 := Fq115_3.other W116 (Or.inr (slot_ne (Or.inl (hw _ (List.mem_of_getElem? (i := 105) rfl))) (Or.inr (hw _ (List.mem_of_getElem? (i := 79) rfl))) (by decide) (t := .int) (t' := (.array .char)) (by decide) (by decide)))
  have f116_5 := Fq115_4.wr W116
  have F116 := Fq115_0.same W116
  have N116 := Fr.snoc X116 N115 g_a1
  have K116 : Keep h0 h116 [a1] := K115.wr W116 (Or.inl (by simp))
  refine own_step (U' := (T116.setTop (mkF m 11 #[.val (.ref a1), .val (.ref b1)] []))) (fun t ht => st116 _ ht) ?_
  refine own_step (U' := (T116.setTop (mkF m 12 #[.val (.ref a1), .val (.ref b1)] [(.ref a1)]))) (fun t ht => XS.aloadN X116.here hx rfl (hb hby own_d4_11) rfl rfl ht) ?_
  refine own_step (U' := (T116.setTop (mkF m 15 #[.val (.ref a1), .val (.ref b1)] [(.long (2 : Int64)), (.ref a1)]))) (fun t ht => X116.ldc2Long hx hown (mvT hZ (hw _ (List.mem_of_getElem? (i := 80) rfl))) (g := (mkF m 12 #[.val (.ref a1), .val (.ref b1)] [(.ref a1)])) rfl (hb hby own_d4_12) _ ht) ?_
  refine own_step (U' := (T116.setTop (mkF m 16 #[.val (.ref a1), .val (.ref b1)] [(.ref b1), (.long (2 : Int64)), (.ref a1)]))) (fun t ht => XS.aloadN X116.here hx rfl (hb hby own_d4_15) rfl rfl ht) ?_
  obtain ⟨cl117, Ar117, q117, S117, N117_, H117, G117⟩ := (id f116_0)
  refine own_step (U' := (T116.setTop (mkF m 17 #[.val (.ref a1), .val (.ref b1)] [(.int mm), (.long (2 : Int64)), (.ref a1)]))) (fun t ht => X116.arraylength hx (own_at e116 Ar117.1) (State.isArrayOf_alike hZ.alike Ar117.2.1) (g := (mkF m 16 #[.val (.ref a1), .val (.ref b1)] [(.ref b1), (.long (2 : Int64)), (.ref a1)])) rfl rfl (hb hby own_d4_16) _ (by rw [len_of S117 N117_]; exact ht)) ?_
  refine own_step (U' := (T116.setTop (mkF m 18 #[.val (.ref a1), .val (.ref b1)] [(.long (mm.toInt64)), (.long (2 : Int64)), (.ref a1)]))) (fun t ht => XT.i2l X116.here hx rfl (hb hby own_d4_17) rfl ht) ?_
  refine own_step (U' := (T116.setTop (mkF m 19 #[.val (.ref a1), .val (.ref b1)] [(.long ((2 : Int64) * (mm.toInt64))), (.ref a1)]))) (fun t ht => XT.lmul X116.here hx rfl (hb hby own_d4_18) rfl ht) ?_
  refine own_step (U' := (T116.setTop (mkF m 22 #[.val (.ref a1), .val (.ref b1)] [(.long (2147483647 : Int64)), (.long ((2 : Int64) * (mm.toInt64))), (.ref a1)]))) (fun t ht => X116.ldc2Long hx hown (mvT hZ (hw _ (List.mem_of_getElem? (i := 81) rfl))) (g := (mkF m 19 #[.val (.ref a1), .val (.ref b1)] [(.long ((2 : Int64) * (mm.toInt64))), (.ref a1)])) rfl (hb hby own_d4_19) _ ht) ?_
  obtain ⟨_, _, ⟨T118, L118, k118, n118⟩, -, X118, ⟨Lc118, hQ118, l118, y118, z118⟩, st118⟩ := Jvm.LawKit.callS X116 hx (y := (⟨"java/lang/Math", "min", "(JJ)J"⟩ : MethodName)) hown (mvT hZ (hw _ (List.mem_of_getElem? (i := 82) rfl))) (mvT hZ (hw _ (List.mem_of_getElem? (i := 83) rfl))) (mvT hZ (hw _ (List.mem_of_getElem? (i := 49) rfl))) (mvT hZ (hw _ (List.mem_of_getElem? (i := 84) rfl))) (by decide) (backOf (W := 1) (own_m_minJ l Z a0 hw [] (((2 : Int64) * (mm.toInt64))) ((2147483647 : Int64)) h116 n0 (Nat.le_trans Z0 K116.1) ) hZ (hw _ (List.mem_of_getElem? (i := 84) rfl)) (hw _ (List.mem_of_getElem? (i := 49) rfl)) (by decide) (by decide)) (g := (mkF m 22 #[.val (.ref a1), .val (.ref b1)] [(.long (2147483647 : Int64)), (.long ((2 : Int64) * (mm.toInt64))), (.ref a1)])) rfl (by rw [hml]; rfl) (argsL := [(.long ((2 : Int64) * (mm.toInt64))), (.long (2147483647 : Int64))]) (rest := [(.ref a1)]) (lenOf own_pd8 rfl) rfl (by show 2 * 0 + _ ≤ _; exact Nat.le_of_eq rfl) (hb hby own_d4_22) (fun _ _ => ⟨rfl, e116, (by decide : 1 + 0 ≤ _), (by decide : 9 + 0 ≤ _)⟩)
  dsimp only [Pt.U, Pt.locs, Pt.cells, Pt.slots] at X118 l118 y118 z118 st118 hQ118
  subst l118 y118 z118
  obtain ⟨rfl, Nq118, Kq118⟩ := hQ118
  have N118 := Fr.app N116 Nq118
  have e118 : T118.heap = h116 := Kq118
  refine own_step (U' := (T118.setTop (mkF m 25 #[.val (.ref a1), .val (.ref b1)] [(.long (own_minJ ((2 : Int64) * (mm.toInt64)) (2147483647 : Int64))), (.ref a1)]))) (fun t ht => st118 _ ht) ?_
  refine own_step (U' := (T118.setTop (mkF m 26 #[.val (.ref a1), .val (.ref b1)] [(.int ((own_minJ ((2 : Int64) * (mm.toInt64)) (2147483647 : Int64)).toInt32)), (.ref a1)]))) (fun t ht => XT.l2i X118.here hx rfl (hb hby own_d4_25) rfl ht) ?_
  obtain ⟨T119, h119, X119, e119, W119, st119⟩ := putF X118 hx hZ hown (host := "") (Or.inl (hw _ (List.mem_of_getElem? (i := 85) rfl))) Via.refl e118 f116_2 f116_5 (Or.inr ⟨(hw _ (List.mem_of_getElem? (i := 86) rfl)), rfl, hnm⟩) (hw _ (List.mem_of_getElem? (i := 12) rfl)) (ty := .int) (by decide) rfl rfl (g := (mkF m 26 #[.val (.ref a1), .val (.ref b1)] [(.int ((own_minJ ((2 : Int64) * (mm.toInt64)) (2147483647 : Int64)).toInt32)), (.ref a1)])) rfl rfl (hb hby own_d4_26)
  have f119_0 := f116_0.other W119 ne_b1_a1
  have f119_2 := f116_3.other W119 (Or.inr (slot_ne (Or.inl (hw _ (List.mem_of_getElem? (i := 93) rfl))) (Or.inr (hw _ (List.mem_of_getElem? (i := 86) rfl))) (by decide) (t := (.array .int)) (t' := .int) (by decide) (by decide)))
  have f119_3 := f116_4.other W119 (Or.inr (slot_ne (Or.inl (hw _ (List.mem_of_getElem? (i := 105) rfl))) (Or.inr (hw _ (List.mem_of_getElem? (i := 86) rfl))) (by decide) (t := .int) (t' := .int) (by decide) (by decide)))
  have f119_4 := f116_5.wr W119
  have f119_5 := F116.other W119 (Or.inr (slot_ne (Or.inr (hw _ (List.mem_of_getElem? (i := 79) rfl))) (Or.inr (hw _ (List.mem_of_getElem? (i := 86) rfl))) (by decide) (t := (.array .char)) (t' := .int) (by decide) (by decide)))
  have F119 := f116_2.same W119
  have N119 := Fr.snoc X119 N118 g_a1
  have K119 : Keep h0 h119 [a1] := K116.wr W119 (Or.inl (by simp))
  refine own_step (U' := (T119.setTop (mkF m 29 #[.val (.ref a1), .val (.ref b1)] []))) (fun t ht => st119 _ ht) ?_
  refine own_ret X119 (v := none) (fun _ => rfl) Bd.notSynchronized (by decide) (by decide) ?_ (fun fs hr => X119.returnOut hx Bd.returns (hb hby own_d4_29) hr)
  show own_Q_bmi Z a1 b1 ka cs mm M u1 u2 u3 u4 u5 h0 n0 _ T119.heap _
  rw [e119]
  exact ⟨rfl, N119, K119, f119_5, F119, f119_2, f119_3, f119_4⟩
theorem own_d14_0 : decode prog_5_method_3_code 0 = .ok (.aload_n 0, 1) := by decide +kernel
theorem own_d14_1 : decode prog_5_method_3_code 1 = .ok (.getfield 35, 3) := by decide +kernel
theorem own_d14_4 : decode prog_5_method_3_code 4 = .ok (.astore_n 1, 1) := by decide +kernel
theorem own_d14_5 : decode prog_5_method_3_code 5 = .ok (.aload_n 1, 1) := by decide +kernel
theorem own_d14_6 : decode prog_5_method_3_code 6 = .ok (.ifnonnull 7, 3) := by decide +kernel
theorem own_d14_9 : decode prog_5_method_3_code 9 = .ok (.iconst 0, 1) := by decide +kernel
theorem own_d14_10 : decode prog_5_method_3_code 10 = .ok (.goto 6, 3) := by decide +kernel
theorem own_d14_16 : decode prog_5_method_3_code 16 = .ok (.ireturn, 1) := by decide +kernel
def own_Q_perN (Z : State) (a1 : Addr) (h0 : Heap) (n0 : Nat) (v : Option Value) (h : Heap) (L : List Loc) : Prop := v = some (.int (0 : Int32)) ∧ Fr n0 L ∧ h = h0
set_option maxRecDepth 65536 in
set_option maxHeartbeats 40000000 in
theorem own_m_perN (l : Launch) (Z : State) (a0 : Array Value) (hw : ∀ d ∈ tables_1, d.before a0 Z = true) (ws : List Jvm.Cond) (a1 : Addr) (h0 : Heap) (n0 : Nat) (Z0 : n0 ≤ h0.size) (Fg : Fld Z h0 a1 "com/example/skip2/skip2/boyermoore/BoyerMooreSearcher" "goodSuffixShift" "[I" .null) :
    MetFree l (⟨"com/example/skip2/skip2/boyermoore/BoyerMooreSearcher", "period", "()I"⟩ : MethodName) (head1 (Jvm.Cond.code (⟨"com/example/skip2/skip2/boyermoore/BoyerMooreSearcher", "period", "()I"⟩ : MethodName) prog_5_method_3_code 2 (some .int) :: ws) ({ frames := 0, cells := 0, slots := 0, locals := 0 } : Room)) (fun a U => a = #[(.ref a1)] ∧ Z.Warmed39 U.vm ∧ U.heap = h0) (fun _ _ _ _ _ => True) (fun _ U o U' => ∃ v L, o = .returned v ∧ own_Q_perN Z a1 h0 n0 v U'.heap L ∧ FrameEnd U o U' L ({ frames := 0, cells := 0, slots := 0, locals := 0 } : Room).cells ({ frames := 0, cells := 0, slots := 0, locals := 0 } : Room).slots) := by
  refine MetFree.of_bodySF (plainFor_of_name own_pn7) hisR ?_
  intro p e s m args below meth c s₁ Bd hml0 hP hK
  obtain ⟨rfl, hZ, hh⟩ := hP
  have hx := Bd.exec
  have hby := Bd.bytes
  have hml : c.maxLocals = 2 := hml0
  have hown : s.vm.findClass "com/example/skip2/skip2/boyermoore/BoyerMooreSearcher" = some m.cls := findClass_of_methodNamed Bd.named
  have hnm := (name_of_methodNamed Bd.named Bd.method).1
  have X0 : Stand p l e ({ frames := 0, cells := 0, slots := 0, locals := 0 } : Room) s m #[(.ref a1)] below meth c s₁ [] 0 0 := Stand.of_body Bd
  have e0 : s₁.heap = h0 := by rw [← hh, Bd.state]; rfl
  have N0 := Fr.nil n0
  have K0 : Keep h0 h0 [] := Keep.refl _ _
  show own_Go p e below s ({ frames := 0, cells := 0, slots := 0, locals := 0 } : Room).cells ({ frames := 0, cells := 0, slots := 0, locals := 0 } : Room).slots (own_Q_perN Z a1 h0 n0) (s₁.setTop (entryFrame m #[(.ref a1)] 2))
  have ef : entryFrame m #[(.ref a1)] 2 = (mkF m 0 #[.val (.ref a1), .unset] []) := by first | (simp [entryFrame, mkF, argsToLocals, Value.category, maxLocals]; done) | rfl
  rw [ef]
  show own_Go p e below s _ _ _ (s₁.setTop (mkF m 0 #[.val (.ref a1), .unset] []))
  refine own_step (U' := (s₁.setTop (mkF m 1 #[.val (.ref a1), .unset] [(.ref a1)]))) (fun t ht => XS.aloadN X0.here hx rfl (hb hby own_d14_0) rfl rfl ht) ?_
  obtain ⟨T120, X120, e120, st120⟩ := getF X0 hx hZ hown (host := "") (Or.inl (hw _ (List.mem_of_getElem? (i := 92) rfl))) Via.refl e0 Fg (g := (mkF m 1 #[.val (.ref a1), .unset] [(.ref a1)])) rfl rfl (hb hby own_d14_1)
  refine own_step (U' := (T120.setTop (mkF m 4 #[.val (.ref a1), .unset] [.null]))) (fun t ht => st120 _ ht) ?_
  refine own_step (U' := (T120.setTop (mkF m 5 #[.val (.ref a1), .val .null] []))) (fun t ht => XS.astoreN X120.here hx rfl (hb hby own_d14_4) rfl rfl (l' := #[.val (.ref a1), .val .null]) rfl ht) ?_
  refine own_step (U' := (T120.setTop (mkF m 6 #[.val (.ref a1), .val .null] [.null]))) (fun t ht => XS.aloadN X120.here hx rfl (hb hby own_d14_5) rfl rfl ht) ?_
  refine own_step (U' := (T120.setTop (mkF m 9 #[.val (.ref a1), .val .null] []))) (fun t ht => XT.nonnullNo X120.here hx rfl (hb hby own_d14_6) rfl rfl ht) ?_
  refine own_step (U' := (T120.setTop (mkF m 10 #[.val (.ref a1), .val .null] [(.int (0 : Int32))]))) (fun t ht => XS.iconst X120.here hx rfl (hb hby own_d14_9) ht) ?_
  refine own_step (U' := (T120.setTop (mkF m 16 #[.val (.ref a1), .val .null] [(.int (0 : Int32))]))) (fun t ht => XS.goto X120.here hx rfl (pc0 := 10) (pc' := 16) rfl (hb hby own_d14_10) (by decide) (by decide) ht) ?_
  refine own_ret X120 (v := (some (.int (0 : Int32)))) (fun h => by rw [Bd.returns] at h; cases h) Bd.notSynchronized (by decide) (by decide) ?_ (fun fs hr => retI X120 hx Bd.returns (hb hby own_d14_16) hr)
  show own_Q_perN Z a1 h0 n0 _ T120.heap _
  rw [e120]
  exact ⟨rfl, N0, rfl⟩
theorem own_d14_13 : decode prog_5_method_3_code 13 = .ok (.aload_n 1, 1) := by decide +kernel
theorem own_d14_14 : decode prog_5_method_3_code 14 = .ok (.iconst 0, 1) := by decide +kernel
theorem own_d14_15 : decode prog_5_method_3_code 15 = .ok (.iaload, 1) := by decide +kernel
def own_Q_perA (Z : State) (a1 : Addr) (s1 : Addr) (ks : ClassId) (xs : List Int32) (mm : Int32) (M : Nat) (h0 : Heap) (n0 : Nat) (v : Option Value) (h : Heap) (L : List Loc) : Prop := v = some (.int (own_g xs (0 : Int32))) ∧ Fr n0 L ∧ h = h0
set_option maxRecDepth 65536 in
set_option maxHeartbeats 40000000 in
theorem own_m_perA (l : Launch) (Z : State) (a0 : Array Value) (hw : ∀ d ∈ tables_1, d.before a0 Z = true) (ws : List Jvm.Cond) (a1 : Addr) (s1 : Addr) (ks : ClassId) (xs : List Int32) (mm : Int32) (M : Nat) (h0 : Heap) (n0 : Nat) (Z0 : n0 ≤ h0.size) (Fg : Fld Z h0 a1 "com/example/skip2/skip2/boyermoore/BoyerMooreSearcher" "goodSuffixShift" "[I" (.ref s1)) (Vs : Arv Z h0 s1 ks .int mm (xs.map Value.int) (.int (0 : Int32))) (hm : mm.toInt = (M : Int)) (h1 : 1 ≤ M) :
    MetFree l (⟨"com/example/skip2/skip2/boyermoore/BoyerMooreSearcher", "period", "()I"⟩ : MethodName) (head1 (Jvm.Cond.code (⟨"com/example/skip2/skip2/boyermoore/BoyerMooreSearcher", "period", "()I"⟩ : MethodName) prog_5_method_3_code 2 (some .int) :: ws) ({ frames := 0, cells := 0, slots := 0, locals := 0 } : Room)) (fun a U => a = #[(.ref a1)] ∧ Z.Warmed39 U.vm ∧ U.heap = h0) (fun _ _ _ _ _ => True) (fun _ U o U' => ∃ v L, o = .returned v ∧ own_Q_perA Z a1 s1 ks xs mm M h0 n0 v U'.heap L ∧ FrameEnd U o U' L ({ frames := 0, cells := 0, slots := 0, locals := 0 } : Room).cells ({ frames := 0, cells := 0, slots := 0, locals := 0 } : Room).slots) := by
  refine MetFree.of_bodySF (plainFor_of_name own_pn7) hisR ?_
  intro p e s m args below meth c s₁ Bd hml0 hP hK
  obtain ⟨rfl, hZ, hh⟩ := hP
  have hx := Bd.exec
  have hby := Bd.bytes
  have hml : c.maxLocals = 2 := hml0
  have hown : s.vm.findClass "com/example/skip2/skip2/boyermoore/BoyerMooreSearcher" = some m.cls := findClass_of_methodNamed Bd.named
  have hnm := (name_of_methodNamed Bd.named Bd.method).1
  have X0 : Stand p l e ({ frames := 0, cells := 0, slots := 0, locals := 0 } : Room) s m #[(.ref a1)] below meth c s₁ [] 0 0 := Stand.of_body Bd
  have e0 : s₁.heap = h0 := by rw [← hh, Bd.state]; rfl
  have N0 := Fr.nil n0
  have K0 : Keep h0 h0 [] := Keep.refl _ _
  show own_Go p e below s ({ frames := 0, cells := 0, slots := 0, locals := 0 } : Room).cells ({ frames := 0, cells := 0, slots := 0, locals := 0 } : Room).slots (own_Q_perA Z a1 s1 ks xs mm M h0 n0) (s₁.setTop (entryFrame m #[(.ref a1)] 2))
  have ef : entryFrame m #[(.ref a1)] 2 = (mkF m 0 #[.val (.ref a1), .unset] []) := by first | (simp [entryFrame, mkF, argsToLocals, Value.category, maxLocals]; done) | rfl
  rw [ef]
  show own_Go p e below s _ _ _ (s₁.setTop (mkF m 0 #[.val (.ref a1), .unset] []))
  refine own_step (U' := (s₁.setTop (mkF m 1 #[.val (.ref a1), .unset] [(.ref a1)]))) (fun t ht => XS.aloadN X0.here hx rfl (hb hby own_d14_0) rfl rfl ht) ?_
  obtain ⟨T121, X121, e121, st121⟩ := getF X0 hx hZ hown (host := "") (Or.inl (hw _ (List.mem_of_getElem? (i := 92) rfl))) Via.refl e0 Fg (g := (mkF m 1 #[.val (.ref a1), .unset] [(.ref a1)])) rfl rfl (hb hby own_d14_1)
  refine own_step (U' := (T121.setTop (mkF m 4 #[.val (.ref a1), .unset] [(.ref s1)]))) (fun t ht => st121 _ ht) ?_
  refine own_step (U' := (T121.setTop (mkF m 5 #[.val (.ref a1), .val (.ref s1)] []))) (fun t ht => XS.astoreN X121.here hx rfl (hb hby own_d14_4) rfl rfl (l' := #[.val (.ref a1), .val (.ref s1)]) rfl ht) ?_
  refine own_step (U' := (T121.setTop (mkF m 6 #[.val (.ref a1), .val (.ref s1)] [(.ref s1)]))) (fun t ht => XS.aloadN X121.here hx rfl (hb hby own_d14_5) rfl rfl ht) ?_
  refine own_step (U' := (T121.setTop (mkF m 13 #[.val (.ref a1), .val (.ref s1)] []))) (fun t ht => XT.nonnullYes X121.here hx rfl (pc0 := 6) (pc' := 13) rfl (hb hby own_d14_6) rfl rfl nofun (by decide) (by decide) ht) ?_
  refine own_step (U' := (T121.setTop (mkF m 14 #[.val (.ref a1), .val (.ref s1)] [(.ref s1)]))) (fun t ht => XS.aloadN X121.here hx rfl (hb hby own_d14_13) rfl rfl ht) ?_
  refine own_step (U' := (T121.setTop (mkF m 15 #[.val (.ref a1), .val (.ref s1)] [(.int (0 : Int32)), (.ref s1)]))) (fun t ht => XS.iconst X121.here hx rfl (hb hby own_d14_14) ht) ?_
  obtain ⟨cl122, Ar122, q122, S122, N122_, H122, G122⟩ := (id Vs)
  have hin122 : ¬ ((0 : Int32) < 0 ∨ cl122.slots.size ≤ ((0 : Int32)).toNatClampNeg) := inb_of S122 (own_inN (i := 0) rfl hm (by omega))
  have hat122 : cl122.slots[((0 : Int32)).toNatClampNeg]? = some (.int (own_g xs (0 : Int32))) := Has.at H122 hin122 (own_ldI _ _)
  refine own_step (U' := (T121.setTop (mkF m 16 #[.val (.ref a1), .val (.ref s1)] [(.int (own_g xs (0 : Int32)))]))) (fun t ht => X121.iaload hx (j := (0 : Int32)) (v := (.int (own_g xs (0 : Int32)))) (own_at e121 Ar122.1) (State.isArrayOf_alike hZ.alike Ar122.2.1) Ar122.2.2 hin122 hat122 (g := (mkF m 15 #[.val (.ref a1), .val (.ref s1)] [(.int (0 : Int32)), (.ref s1)])) rfl rfl (hb hby own_d14_15) _ ht) ?_
  refine own_ret X121 (v := (some (.int (own_g xs (0 : Int32))))) (fun h => by rw [Bd.returns] at h; cases h) Bd.notSynchronized (by decide) (by decide) ?_ (fun fs hr => retI X121 hx Bd.returns (hb hby own_d14_16) hr)
  show own_Q_perA Z a1 s1 ks xs mm M h0 n0 _ T121.heap _
  rw [e121]
  exact ⟨rfl, N0, rfl⟩
theorem own_ix1 {x y : Int32} {M b : Nat} (hm : x.toInt = (M : Int)) (hbb : y.toInt = (b : Int)) (h : b < M) (h8 : M ≤ 8) : ((x - (1 : Int32)) - y).toInt = ((M - 1 - b : Nat) : Int) := own_subN (own_pre1 hm (by omega) h8) hbb (by omega) (by omega)
theorem own_pn8 : plainName "com/example/skip2/skip2/boyermoore/GoodSuffixShift" = true := by first | (simp [plainName, overriddenIn]; done) | decide +kernel
theorem own_d19_0 : decode prog_7_method_3_code 0 = .ok (.aload_n 0, 1) := by decide +kernel
theorem own_d19_1 : decode prog_7_method_3_code 1 = .ok (.iload_n 1, 1) := by decide +kernel
theorem own_d19_2 : decode prog_7_method_3_code 2 = .ok (.iconst 1, 1) := by decide +kernel
theorem own_d19_3 : decode prog_7_method_3_code 3 = .ok (.isub, 1) := by decide +kernel
theorem own_d19_4 : decode prog_7_method_3_code 4 = .ok (.iload_n 2, 1) := by decide +kernel
theorem own_d19_5 : decode prog_7_method_3_code 5 = .ok (.isub, 1) := by decide +kernel
theorem own_d19_6 : decode prog_7_method_3_code 6 = .ok (.iaload, 1) := by decide +kernel
theorem own_d19_7 : decode prog_7_method_3_code 7 = .ok (.ifCond .ne 13, 3) := by decide +kernel
theorem own_d19_10 : decode prog_7_method_3_code 10 = .ok (.aload_n 0, 1) := by decide +kernel
theorem own_d19_11 : decode prog_7_method_3_code 11 = .ok (.iload_n 1, 1) := by decide +kernel
theorem own_d19_12 : decode prog_7_method_3_code 12 = .ok (.iconst 1, 1) := by decide +kernel
theorem own_d19_13 : decode prog_7_method_3_code 13 = .ok (.isub, 1) := by decide +kernel
theorem own_d19_14 : decode prog_7_method_3_code 14 = .ok (.iload_n 2, 1) := by decide +kernel
theorem own_d19_15 : decode prog_7_method_3_code 15 = .ok (.isub, 1) := by decide +kernel
theorem own_d19_16 : decode prog_7_method_3_code 16 = .ok (.iload_n 3, 1) := by decide +kernel
theorem own_d19_17 : decode prog_7_method_3_code 17 = .ok (.iload_n 2, 1) := by decide +kernel
theorem own_d19_18 : decode prog_7_method_3_code 18 = .ok (.isub, 1) := by decide +kernel
theorem own_d19_19 : decode prog_7_method_3_code 19 = .ok (.iastore, 1) := by decide +kernel
theorem own_d19_20 : decode prog_7_method_3_code 20 = .ok (.return_, 1) := by decide +kernel
def own_Q_lam (Z : State) (s1 : Addr) (p2 : Int32) (p3 : Int32) (p4 : Int32) (ks : ClassId) (xs : List Int32) (M : Nat) (b : Nat) (h0 : Heap) (n0 : Nat) (v : Option Value) (h : Heap) (L : List Loc) : Prop := ∃ (ys : List Int32), v = none ∧ Fr n0 L ∧ Keep h0 h [s1] ∧ ys.length = M ∧ ys.getD 0 0 = xs.getD 0 0 ∧ (Arv Z h s1 ks .int p2 (ys.map Value.int) (.int (0 : Int32)))
set_option maxRecDepth 65536 in
set_option maxHeartbeats 40000000 in
theorem own_m_lam (l : Launch) (Z : State) (a0 : Array Value) (hw : ∀ d ∈ tables_1, d.before a0 Z = true) (ws : List Jvm.Cond) (s1 : Addr) (p2 : Int32) (p3 : Int32) (p4 : Int32) (ks : ClassId) (xs : List Int32) (M : Nat) (b : Nat) (h0 : Heap) (n0 : Nat) (Z0 : n0 ≤ h0.size) (g_s1 : n0 ≤ s1) (Vs : Arv Z h0 s1 ks .int p2 (xs.map Value.int) (.int (0 : Int32))) (hm : p2.toInt = (M : Int)) (h8 : M ≤ 8) (hbb : p3.toInt = (b : Int)) (hbM : b + 2 ≤ M) (hxl : xs.length = M) :
    MetFree l (⟨"com/example/skip2/skip2/boyermoore/GoodSuffixShift", "lambda$of$0", "([IIII)V"⟩ : MethodName) (head1 (Jvm.Cond.code (⟨"com/example/skip2/skip2/boyermoore/GoodSuffixShift", "lambda$of$0", "([IIII)V"⟩ : MethodName) prog_7_method_3_code 4 none :: ws) ({ frames := 0, cells := 0, slots := 0, locals := 0 } : Room)) (fun a U => a = #[(.ref s1), (.int p2), (.int p3), (.int p4)] ∧ Z.Warmed39 U.vm ∧ U.heap = h0) (fun _ _ _ _ _ => True) (fun _ U o U' => ∃ v L, o = .returned v ∧ own_Q_lam Z s1 p2 p3 p4 ks xs M b h0 n0 v U'.heap L ∧ FrameEnd U o U' L ({ frames := 0, cells := 0, slots := 0, locals := 0 } : Room).cells ({ frames := 0, cells := 0, slots := 0, locals := 0 } : Room).slots) := by
  refine MetFree.of_bodySF (plainFor_of_name own_pn8) hisR ?_
  intro p e s m args below meth c s₁ Bd hml0 hP hK
  obtain ⟨rfl, hZ, hh⟩ := hP
  have hx := Bd.exec
  have hby := Bd.bytes
  have hml : c.maxLocals = 4 := hml0
  have hown : s.vm.findClass "com/example/skip2/skip2/boyermoore/GoodSuffixShift" = some m.cls := findClass_of_methodNamed Bd.named
  have hnm := (name_of_methodNamed Bd.named Bd.method).1
  have X0 : Stand p l e ({ frames := 0, cells := 0, slots := 0, locals := 0 } : Room) s m #[(.ref s1), (.int p2), (.int p3), (.int p4)] below meth c s₁ [] 0 0 := Stand.of_body Bd
  have e0 : s₁.heap = h0 := by rw [← hh, Bd.state]; rfl
  have N0 := Fr.nil n0
  have K0 : Keep h0 h0 [s1] := Keep.refl _ _
  show own_Go p e below s ({ frames := 0, cells := 0, slots := 0, locals := 0 } : Room).cells ({ frames := 0, cells := 0, slots := 0, locals := 0 } : Room).slots (own_Q_lam Z s1 p2 p3 p4 ks xs M b h0 n0) (s₁.setTop (entryFrame m #[(.ref s1), (.int p2), (.int p3), (.int p4)] 4))
  have ef : entryFrame m #[(.ref s1), (.int p2), (.int p3), (.int p4)] 4 = (mkF m 0 #[.val (.ref s1), .val (.int p2), .val (.int p3), .val (.int p4)] []) := by first | (simp [entryFrame, mkF, argsToLocals, Value.category, maxLocals]; done) | rfl
  rw [ef]
  show own_Go p e below s _ _ _ (s₁.setTop (mkF m 0 #[.val (.ref s1), .val (.int p2), .val (.int p3), .val (.int p4)] []))
  refine own_step (U' := (s₁.setTop (mkF m 1 #[.val (.ref s1), .val (.int p2), .val (.int p3), .val (.int p4)] [(.ref s1)]))) (fun t ht => XS.aloadN X0.here hx rfl (hb hby own_d19_0) rfl rfl ht) ?_
  refine own_step (U' := (s₁.setTop (mkF m 2 #[.val (.ref s1), .val (.int p2), .val (.int p3), .val (.int p4)] [(.int p2), (.ref s1)]))) (fun t ht => XS.iloadN X0.here hx rfl (hb hby own_d19_1) rfl ht) ?_
  refine own_step (U' := (s₁.setTop (mkF m 3 #[.val (.ref s1), .val (.int p2), .val (.int p3), .val (.int p4)] [(.int (1 : Int32)), (.int p2), (.ref s1)]))) (fun t ht => XS.iconst X0.here hx rfl (hb hby own_d19_2) ht) ?_
  refine own_step (U' := (s₁.setTop (mkF m 4 #[.val (.ref s1), .val (.int p2), .val (.int p3), .val (.int p4)] [(.int (p2 - (1 : Int32))), (.ref s1)]))) (fun t ht => XS.isub X0.here hx rfl (hb hby own_d19_3) rfl ht) ?_
  refine own_step (U' := (s₁.setTop (mkF m 5 #[.val (.ref s1), .val (.int p2), .val (.int p3), .val (.int p4)] [(.int p3), (.int (p2 - (1 : Int32))), (.ref s1)]))) (fun t ht => XS.iloadN X0.here hx rfl (hb hby own_d19_4) rfl ht) ?_
  refine own_step (U' := (s₁.setTop (mkF m 6 #[.val (.ref s1), .val (.int p2), .val (.int p3), .val (.int p4)] [(.int ((p2 - (1 : Int32)) - p3)), (.ref s1)]))) (fun t ht => XS.isub X0.here hx rfl (hb hby own_d19_5) rfl ht) ?_
  obtain ⟨cl123, Ar123, q123, S123, N123_, H123, G123⟩ := (id Vs)
  have hin123 : ¬ (((p2 - (1 : Int32)) - p3) < 0 ∨ cl123.slots.size ≤ (((p2 - (1 : Int32)) - p3)).toNatClampNeg) := inb_of S123 (own_inN (own_ix1 hm hbb (by omega) h8) hm (by omega))
  have hat123 : cl123.slots[(((p2 - (1 : Int32)) - p3)).toNatClampNeg]? = some (.int (own_g xs ((p2 - (1 : Int32)) - p3))) := Has.at H123 hin123 (own_ldI _ _)
  refine own_step (U' := (s₁.setTop (mkF m 7 #[.val (.ref s1), .val (.int p2), .val (.int p3), .val (.int p4)] [(.int (own_g xs ((p2 - (1 : Int32)) - p3)))]))) (fun t ht => X0.iaload hx (j := ((p2 - (1 : Int32)) - p3)) (v := (.int (own_g xs ((p2 - (1 : Int32)) - p3)))) (own_at e0 Ar123.1) (State.isArrayOf_alike hZ.alike Ar123.2.1) Ar123.2.2 hin123 hat123 (g := (mkF m 6 #[.val (.ref s1), .val (.int p2), .val (.int p3), .val (.int p4)] [(.int ((p2 - (1 : Int32)) - p3)), (.ref s1)])) rfl rfl (hb hby own_d19_6) _ ht) ?_
  by_cases hc7_124 : (own_g xs ((p2 - (1 : Int32)) - p3)) = 0
  ·
    refine own_step (U' := (s₁.setTop (mkF m 10 #[.val (.ref s1), .val (.int p2), .val (.int p3), .val (.int p4)] []))) (fun t ht => XS.ifNo X0.here hx rfl (hb hby own_d19_7) rfl (XT.i0_ne_f hc7_124) ht) ?_
    refine own_step (U' := (s₁.setTop (mkF m 11 #[.val (.ref s1), .val (.int p2), .val (.int p3), .val (.int p4)] [(.ref s1)]))) (fun t ht => XS.aloadN X0.here hx rfl (hb hby own_d19_10) rfl rfl ht) ?_
    refine own_step (U' := (s₁.setTop (mkF m 12 #[.val (.ref s1), .val (.int p2), .val (.int p3), .val (.int p4)] [(.int p2), (.ref s1)]))) (fun t ht => XS.iloadN X0.here hx rfl (hb hby own_d19_11) rfl ht) ?_
    refine own_step (U' := (s₁.setTop (mkF m 13 #[.val (.ref s1), .val (.int p2), .val (.int p3), .val (.int p4)] [(.int (1 : Int32)), (.int p2), (.ref s1)]))) (fun t ht => XS.iconst X0.here hx rfl (hb hby own_d19_12) ht) ?_
    refine own_step (U' := (s₁.setTop (mkF m 14 #[.val (.ref s1), .val (.int p2), .val (.int p3), .val (.int p4)] [(.int (p2 - (1 : Int32))), (.ref s1)]))) (fun t ht => XS.isub X0.here hx rfl (hb hby own_d19_13) rfl ht) ?_
    refine own_step (U' := (s₁.setTop (mkF m 15 #[.val (.ref s1), .val (.int p2), .val (.int p3), .val (.int p4)] [(.int p3), (.int (p2 - (1 : Int32))), (.ref s1)]))) (fun t ht => XS.iloadN X0.here hx rfl (hb hby own_d19_14) rfl ht) ?_
    refine own_step (U' := (s₁.setTop (mkF m 16 #[.val (.ref s1), .val (.int p2), .val (.int p3), .val (.int p4)] [(.int ((p2 - (1 : Int32)) - p3)), (.ref s1)]))) (fun t ht => XS.isub X0.here hx rfl (hb hby own_d19_15) rfl ht) ?_
    refine own_step (U' := (s₁.setTop (mkF m 17 #[.val (.ref s1), .val (.int p2), .val (.int p3), .val (.int p4)] [(.int p4), (.int ((p2 - (1 : Int32)) - p3)), (.ref s1)]))) (fun t ht => XS.iloadN X0.here hx rfl (hb hby own_d19_16) rfl ht) ?_
    refine own_step (U' := (s₁.setTop (mkF m 18 #[.val (.ref s1), .val (.int p2), .val (.int p3), .val (.int p4)] [(.int p3), (.int p4), (.int ((p2 - (1 : Int32)) - p3)), (.ref s1)]))) (fun t ht => XS.iloadN X0.here hx rfl (hb hby own_d19_17) rfl ht) ?_
    refine own_step (U' := (s₁.setTop (mkF m 19 #[.val (.ref s1), .val (.int p2), .val (.int p3), .val (.int p4)] [(.int (p4 - p3)), (.int ((p2 - (1 : Int32)) - p3)), (.ref s1)]))) (fun t ht => XS.isub X0.here hx rfl (hb hby own_d19_18) rfl ht) ?_
    obtain ⟨cl125, Ar125, q125, S125, N125_, H125, G125⟩ := (id Vs)
    have hin125 : ¬ (((p2 - (1 : Int32)) - p3) < 0 ∨ cl125.slots.size ≤ (((p2 - (1 : Int32)) - p3)).toNatClampNeg) := inb_of S125 (own_inN (own_ix1 hm hbb (by omega) h8) hm (by omega))
    obtain ⟨T125, h125, X125, e125, W125, st125⟩ := stI X0 hx hZ e0 Ar125 (j := ((p2 - (1 : Int32)) - p3)) hin125 (g := (mkF m 19 #[.val (.ref s1), .val (.int p2), .val (.int p3), .val (.int p4)] [(.int (p4 - p3)), (.int ((p2 - (1 : Int32)) - p3)), (.ref s1)])) rfl rfl (hb hby own_d19_19)
    have V125 : Arv Z h125 s1 ks .int p2 ((xs.set (M - 1 - b) (p4 - p3)).map Value.int) (.int (0 : Int32)) := own_setV Ar125 q125 S125 N125_ H125 G125 rfl W125 (i := (M - 1 - b)) (own_ix1 hm hbb (by omega) h8) (by omega)
    have N125 := Fr.snoc X125 N0 g_s1
    have K125 : Keep h0 h125 [s1] := K0.wr W125 (Or.inl (by simp))
    refine own_step (U' := (T125.setTop (mkF m 20 #[.val (.ref s1), .val (.int p2), .val (.int p3), .val (.int p4)] []))) (fun t ht => st125 _ ht) ?_
    refine own_ret X125 (v := none) (fun _ => rfl) Bd.notSynchronized (by decide) (by decide) ?_ (fun fs hr => X125.returnOut hx Bd.returns (hb hby own_d19_20) hr)
    show own_Q_lam Z s1 p2 p3 p4 ks xs M b h0 n0 _ T125.heap _
    rw [e125]
    exact ⟨(xs.set (M - 1 - b) (p4 - p3)), rfl, N125, K125, (by rw [List.length_set]; exact hxl), (by rw [own_gset (xs := xs) (i := M - 1 - b) (by omega)]; exact if_neg (by omega)), V125⟩
  ·
    refine own_step (U' := (s₁.setTop (mkF m 20 #[.val (.ref s1), .val (.int p2), .val (.int p3), .val (.int p4)] []))) (fun t ht => XS.ifYes X0.here hx rfl (pc0 := 7) (pc' := 20) rfl (hb hby own_d19_7) rfl (XT.i0_ne_t hc7_124) (by decide) (by decide) ht) ?_
    refine own_ret X0 (v := none) (fun _ => rfl) Bd.notSynchronized (by decide) (by decide) ?_ (fun fs hr => X0.returnOut hx Bd.returns (hb hby own_d19_20) hr)
    show own_Q_lam Z s1 p2 p3 p4 ks xs M b h0 n0 _ s₁.heap _
    rw [e0]
    exact ⟨xs, rfl, N0, K0, hxl, rfl, Vs⟩
def own_sg : Jvm.Lambda.Shape := (Jvm.Lambda.Shape.mk "com/example/skip2/skip2/kmp/FailureFunction$Unextended" "border" (Jvm.ClassFile.MethodDescriptor.mk ([Jvm.ClassFile.FieldType.int, Jvm.ClassFile.FieldType.int] : List Jvm.ClassFile.FieldType) (Option.none : Option Jvm.ClassFile.FieldType)) ([(Jvm.ClassFile.FieldType.array Jvm.ClassFile.FieldType.int), Jvm.ClassFile.FieldType.int] : List Jvm.ClassFile.FieldType) (6 : Nat) "com/example/skip2/skip2/boyermoore/GoodSuffixShift" "lambda$of$0" (Jvm.ClassFile.MethodDescriptor.mk ([(Jvm.ClassFile.FieldType.array Jvm.ClassFile.FieldType.int), Jvm.ClassFile.FieldType.int, Jvm.ClassFile.FieldType.int, Jvm.ClassFile.FieldType.int] : List Jvm.ClassFile.FieldType) (Option.none : Option Jvm.ClassFile.FieldType)) false (Jvm.ClassFile.MethodDescriptor.mk ([Jvm.ClassFile.FieldType.int, Jvm.ClassFile.FieldType.int] : List Jvm.ClassFile.FieldType) (Option.none : Option Jvm.ClassFile.FieldType)))
def own_fc : ByteArray := ⟨#[0x2a, 0xb4, 0x00, 0x11, 0x2a, 0xb4, 0x00, 0x13, 0x1b, 0x1c, 0xb8, 0x00, 0x1b, 0xb1]⟩
theorem own_fwd : Jvm.LamKit.fwdOK own_sg "com/example/skip2/skip2/boyermoore/GoodSuffixShift" own_fc 3 none 27 23 = true := by decide +kernel
theorem own_cap0 : Jvm.LamKit.capOK own_sg "com/example/skip2/skip2/boyermoore/GoodSuffixShift" 17 0 = true := by decide +kernel
theorem own_cap1 : Jvm.LamKit.capOK own_sg "com/example/skip2/skip2/boyermoore/GoodSuffixShift" 19 1 = true := by decide +kernel
theorem own_f0 : decode own_fc 0 = .ok (.aload_n 0, 1) := by decide +kernel
theorem own_f1 : decode own_fc 1 = .ok (.getfield 17, 3) := by decide +kernel
theorem own_f4 : decode own_fc 4 = .ok (.aload_n 0, 1) := by decide +kernel
theorem own_f5 : decode own_fc 5 = .ok (.getfield 19, 3) := by decide +kernel
theorem own_f8 : decode own_fc 8 = .ok (.iload_n 1, 1) := by decide +kernel
theorem own_f9 : decode own_fc 9 = .ok (.iload_n 2, 1) := by decide +kernel
theorem own_f10 : decode own_fc 10 = .ok (.invokestatic 27, 3) := by decide +kernel
theorem own_f13 : decode own_fc 13 = .ok (.return_, 1) := by decide +kernel
def own_L (h : Heap) (la : Addr) (cK : ClassId) (sa : Addr) (n : Int32) : Prop := ∃ cell : Cell, h[la]? = some cell ∧ cell.cls = cK ∧ cell.vm = .none ∧ cell.slots = #[.ref sa, .int n]
section OwnL
variable {h h' : Heap} {la sa a : Addr} {cK : ClassId} {n : Int32} {sl : Nat} {v : Value} {ws : List Addr}
theorem own_Llt (q : own_L h la cK sa n) : la < h.size := by
  obtain ⟨c, q1, -⟩ := q
  exact (Array.getElem?_eq_some_iff.mp q1).1
theorem own_Lext (q : own_L h la cK sa n) (E : Ext h h') : own_L h' la cK sa n := by
  obtain ⟨c, q1, r⟩ := q
  exact ⟨c, E.2 _ _ q1, r⟩
theorem own_Lkeep (q : own_L h la cK sa n) (K : Keep h h' ws) (hn : la ∉ ws) : own_L h' la cK sa n := by
  obtain ⟨c, q1, r⟩ := q
  exact ⟨c, K.2.1 _ _ q1 hn, r⟩
theorem own_Lwr (q : own_L h la cK sa n) (W : Wr h h' a sl v) (hn : la ≠ a) : own_L h' la cK sa n := own_Lkeep q (Keep.of_wr W) (ninS hn nin0)
end OwnL
theorem own_made {s U : State} {host : String} {σ : Lambda.Shape} {cK : ClassId} (hH : s.WarmedH U.vm) (h : Jvm.LamKit.Made s host σ cK) : Jvm.LamKit.Made U host σ cK := by
  obtain ⟨d, dk, h1, h2, h3, h4⟩ := h
  obtain ⟨k', q1, q2⟩ := hH.alike.2.2 _ _ h1
  refine ⟨d, k', q1, by rw [q2]; exact h2, Lambda.isMade_warmer hH h3, ?_⟩
  have hA := hH.alike
  simp only [State.lambdaCallable, hA.findClass, hA.assignable, hA.superclasses, hA.declaredIn] at h4 ⊢
  exact h4
theorem own_site {Z s : State} {a0 args : Array Value} {x : MethodName} {pc index : Nat} {σ : Lambda.Shape} (hH : Z.WarmedH s.vm) (hc : σ.captured ≠ []) (h : (Cond.lambdaSite x pc index σ).before a0 Z = true) : (Cond.lambdaSite x pc index σ).before args s = true := by
  obtain ⟨c, one, h1⟩ := Cond.lambdaSite_spec h
  obtain ⟨m, kc, cf, i0, p0, l, hm, hk, hcf, hsh, hin, hfind, hmade, hcall, hl⟩ := State.lambdaAt?_spec h1
  have hA := hH.alike
  have hcall' : s.lambdaCallable σ c = true := by
    simp only [State.lambdaCallable, hA.findClass, hA.assignable, hA.superclasses, hA.declaredIn] at hcall ⊢
    exact hcall
  obtain ⟨kc', hk', he⟩ := hA.2.2 _ _ hk
  have hm' : s.methodNamed? x = some m := by
    have q := State.methodNamed?_setVm (s := Z) hA x
    rw [hm] at q
    exact q
  have hcf' : kc'.cf = some cf := by rw [he]; exact hcf
  have hin' : (m.idx, pc, index, σ) ∈ Lambda.sitesOf kc' := by rw [he]; exact hin
  have hfind' : (kc'.callSites.find? fun y => y.1 == m.idx && y.2.1 == pc) = some (i0, p0, l) := by rw [he]; exact hfind
  have hmade' := Lambda.isMade_warmer hH hmade
  obtain ⟨m2, k2, hm2, hk2, hjdk, howes⟩ := State.lambdaAt?_road h1
  cases hm.symm.trans hm2
  cases hk.symm.trans hk2
  have hjdk' : jdkName kc'.name = false := by rw [he]; exact hjdk
  have howes' : (s.vm.findClass σ.iface).bind (Lambda.owesInit s.vm) = none := by
    rw [hA.findClass]
    cases hfi : Z.vm.findClass σ.iface with
    | none => rfl
    | some i => rw [hfi] at howes; simpa [Lambda.owesInit_alike hA] using howes
  have hany : ((Lambda.sitesOf kc').any fun y => decide (y = (m.idx, pc, index, σ))) = true := by simpa using hin'
  rcases hl with ⟨a, cell, -, -, hcap, -⟩ | ⟨rfl, rfl, hcap⟩
  · exact absurd hcap hc
  · have q : s.lambdaAt? x pc index σ = some (c, none) := by simp [State.lambdaAt?, guard, hjdk', howes', hm', hk', hcf', hsh, hany, hfind', hcap, hmade', hcall']
    simp [Cond.before, Cond.holds, Cond.value, q]
theorem own_met {l : Launch} {Z : State} {h : Heap} {y : MethodName} {ws : List Cond} {rm : Room} {as' : Array Value} {Q : Option Value → Heap → List Loc → Prop} {n0 : Nat}
    (hM : MetFree l y (head1 ws rm) (fun a U => a = as' ∧ Z.Warmed39 U.vm ∧ U.heap = h) (fun _ _ _ _ _ => True) (fun _ U o U' => ∃ v L, o = .returned v ∧ Q v U'.heap L ∧ FrameEnd U o U' L rm.cells rm.slots)) (hQ : ∀ v h L, Q v h L → Fr n0 L) :
    Met l y ws rm (fun a U => a = as' ∧ Z.Warmed39 U.vm ∧ U.heap = h) (fun _ _ o t => ∃ v L, o = .returned v ∧ Q v t.heap L) rm.cells rm.slots (fun x => n0 ≤ x) := by
  intro p e h1 h2 h3 s m args below h4 h5 h6 h7
  obtain ⟨n, o, a, b, c, v, L, rfl, q, F⟩ := hM p e h1 h2 h3 s m args below h4 h5 h6 h7
  exact ⟨n, _, a, b, c, ⟨v, L, rfl, q⟩, L, F, hQ _ _ _ q⟩
theorem own_push {T : State} {h : Heap} (e : T.heap = h) (c : Cell) : ∃ h', (T.pushCell c).heap = h' ∧ Ext h h' ∧ h'[h.size]? = some c := by
  subst e
  refine ⟨_, rfl, ⟨?_, fun a d q => ?_⟩, ?_⟩
  · show T.heap.size ≤ (T.heap.push c).size
    simp
  · show (T.heap.push c)[a]? = some d
    rw [Array.getElem?_push_lt (Array.getElem?_eq_some_iff.mp q).1]; exact (Array.getElem?_eq_getElem _).symm.trans q
  · show (T.heap.push c)[T.heap.size]? = some c
    simp
theorem own_fit2 {sa : Addr} {n : Int32} : ∀ (i : Nat) (t : FieldType) (v : Value), own_sg.captured[i]? = some t → ([.ref sa, .int n] : List Value)[i]? = some v → narrow t v = v ∧ fits t v = true := by
  intro i t v h1 h2
  match i, h1, h2 with
  | 0, h1, h2 => cases h1; cases h2; exact ⟨rfl, rfl⟩
  | 1, h1, h2 => cases h1; cases h2; exact ⟨rfl, rfl⟩
  | k + 2, h1, h2 => cases h2
theorem own_pn9 : plainName "com/example/skip2/skip2/kmp/FailureFunction" = true := by first | (simp [plainName, overriddenIn]; done) | decide +kernel
theorem own_pd9 : parseMethodDescriptor "(II)V" = some ⟨[.int, .int], none⟩ := by decide +kernel
theorem own_pd10 : parseMethodDescriptor "([IIII)V" = some ⟨[(.array .int), .int, .int, .int], none⟩ := by decide +kernel
theorem own_d18_0 : decode prog_11_method_3_code 0 = .ok (.aload_n 0, 1) := by decide +kernel
theorem own_d18_1 : decode prog_11_method_3_code 1 = .ok (.arraylength, 1) := by decide +kernel
theorem own_d18_2 : decode prog_11_method_3_code 2 = .ok (.newarray .int, 2) := by decide +kernel
theorem own_d18_4 : decode prog_11_method_3_code 4 = .ok (.astore_n 2, 1) := by decide +kernel
theorem own_d18_5 : decode prog_11_method_3_code 5 = .ok (.iconst 0, 1) := by decide +kernel
theorem own_d18_6 : decode prog_11_method_3_code 6 = .ok (.istore_n 3, 1) := by decide +kernel
theorem own_d18_7 : decode prog_11_method_3_code 7 = .ok (.iconst 1, 1) := by decide +kernel
theorem own_d18_8 : decode prog_11_method_3_code 8 = .ok (.istore 4, 2) := by decide +kernel
theorem own_d18_10 : decode prog_11_method_3_code 10 = .ok (.iload 4, 2) := by decide +kernel
theorem own_d18_12 : decode prog_11_method_3_code 12 = .ok (.aload_n 2, 1) := by decide +kernel
theorem own_d18_13 : decode prog_11_method_3_code 13 = .ok (.arraylength, 1) := by decide +kernel
theorem own_d18_14 : decode prog_11_method_3_code 14 = .ok (.if_icmp .ge 81, 3) := by decide +kernel
theorem own_d18_17 : decode prog_11_method_3_code 17 = .ok (.aload_n 0, 1) := by decide +kernel
theorem own_d18_18 : decode prog_11_method_3_code 18 = .ok (.iload 4, 2) := by decide +kernel
theorem own_d18_20 : decode prog_11_method_3_code 20 = .ok (.caload, 1) := by decide +kernel
theorem own_d18_21 : decode prog_11_method_3_code 21 = .ok (.istore 5, 2) := by decide +kernel
theorem own_d18_23 : decode prog_11_method_3_code 23 = .ok (.iload_n 3, 1) := by decide +kernel
theorem own_d18_24 : decode prog_11_method_3_code 24 = .ok (.ifCond .le 33, 3) := by decide +kernel
theorem own_d18_27 : decode prog_11_method_3_code 27 = .ok (.aload_n 0, 1) := by decide +kernel
theorem own_d18_28 : decode prog_11_method_3_code 28 = .ok (.iload_n 3, 1) := by decide +kernel
theorem own_d18_29 : decode prog_11_method_3_code 29 = .ok (.caload, 1) := by decide +kernel
theorem own_d18_30 : decode prog_11_method_3_code 30 = .ok (.iload 5, 2) := by decide +kernel
theorem own_d18_32 : decode prog_11_method_3_code 32 = .ok (.if_icmp .eq 25, 3) := by decide +kernel
theorem own_d18_35 : decode prog_11_method_3_code 35 = .ok (.aload_n 1, 1) := by decide +kernel
theorem own_d18_36 : decode prog_11_method_3_code 36 = .ok (.ifnull 12, 3) := by decide +kernel
theorem own_d18_39 : decode prog_11_method_3_code 39 = .ok (.aload_n 1, 1) := by decide +kernel
theorem own_d18_40 : decode prog_11_method_3_code 40 = .ok (.iload_n 3, 1) := by decide +kernel
theorem own_d18_41 : decode prog_11_method_3_code 41 = .ok (.iload 4, 2) := by decide +kernel
theorem own_d18_43 : decode prog_11_method_3_code 43 = .ok (.invokeinterface 13 3, 5) := by decide +kernel
theorem own_d18_48 : decode prog_11_method_3_code 48 = .ok (.aload_n 2, 1) := by decide +kernel
theorem own_d18_49 : decode prog_11_method_3_code 49 = .ok (.iload_n 3, 1) := by decide +kernel
theorem own_d18_50 : decode prog_11_method_3_code 50 = .ok (.iconst 1, 1) := by decide +kernel
theorem own_d18_51 : decode prog_11_method_3_code 51 = .ok (.isub, 1) := by decide +kernel
theorem own_d18_52 : decode prog_11_method_3_code 52 = .ok (.iaload, 1) := by decide +kernel
theorem own_d18_53 : decode prog_11_method_3_code 53 = .ok (.istore_n 3, 1) := by decide +kernel
theorem own_d18_54 : decode prog_11_method_3_code 54 = .ok (.goto (-31), 3) := by decide +kernel
theorem own_d18_57 : decode prog_11_method_3_code 57 = .ok (.aload_n 0, 1) := by decide +kernel
theorem own_d18_58 : decode prog_11_method_3_code 58 = .ok (.iload_n 3, 1) := by decide +kernel
theorem own_d18_59 : decode prog_11_method_3_code 59 = .ok (.caload, 1) := by decide +kernel
theorem own_d18_60 : decode prog_11_method_3_code 60 = .ok (.iload 5, 2) := by decide +kernel
theorem own_d18_62 : decode prog_11_method_3_code 62 = .ok (.if_icmp .ne 9, 3) := by decide +kernel
theorem own_d18_65 : decode prog_11_method_3_code 65 = .ok (.iinc 3 1, 3) := by decide +kernel
theorem own_d18_68 : decode prog_11_method_3_code 68 = .ok (.goto 16, 3) := by decide +kernel
theorem own_d18_71 : decode prog_11_method_3_code 71 = .ok (.aload_n 1, 1) := by decide +kernel
theorem own_d18_72 : decode prog_11_method_3_code 72 = .ok (.ifnull 12, 3) := by decide +kernel
theorem own_d18_75 : decode prog_11_method_3_code 75 = .ok (.aload_n 1, 1) := by decide +kernel
theorem own_d18_76 : decode prog_11_method_3_code 76 = .ok (.iconst 0, 1) := by decide +kernel
theorem own_d18_77 : decode prog_11_method_3_code 77 = .ok (.iload 4, 2) := by decide +kernel
theorem own_d18_79 : decode prog_11_method_3_code 79 = .ok (.invokeinterface 13 3, 5) := by decide +kernel
theorem own_d18_84 : decode prog_11_method_3_code 84 = .ok (.aload_n 2, 1) := by decide +kernel
theorem own_d18_85 : decode prog_11_method_3_code 85 = .ok (.iload 4, 2) := by decide +kernel
theorem own_d18_87 : decode prog_11_method_3_code 87 = .ok (.iload_n 3, 1) := by decide +kernel
theorem own_d18_88 : decode prog_11_method_3_code 88 = .ok (.iastore, 1) := by decide +kernel
theorem own_d18_89 : decode prog_11_method_3_code 89 = .ok (.iinc 4 1, 3) := by decide +kernel
theorem own_d18_92 : decode prog_11_method_3_code 92 = .ok (.goto (-82), 3) := by decide +kernel
theorem own_d18_95 : decode prog_11_method_3_code 95 = .ok (.aload_n 2, 1) := by decide +kernel
theorem own_d18_96 : decode prog_11_method_3_code 96 = .ok (.areturn, 1) := by decide +kernel
def own_Q_ffo (Z : State) (a1 : Addr) (la : Addr) (ka : ClassId) (rs : List Int32) (sa : Addr) (ks : ClassId) (ss : List Int32) (cK : ClassId) (mm : Int32) (M : Nat) (h0 : Heap) (n0 : Nat) (v : Option Value) (h : Heap) (L : List Loc) : Prop := ∃ (r : Addr) (kf : ClassId) (fs : List Int32) (ts : List Int32), v = some (.ref r) ∧ Fr n0 L ∧ Keep h0 h [sa] ∧ h0.size ≤ r ∧ own_FI rs fs M ∧ ts.length = M ∧ ts.getD 0 0 = 0 ∧ (Arv Z h r kf .int mm (fs.map Value.int) (.int (0 : Int32))) ∧ (Arv Z h sa ks .int mm (ts.map Value.int) (.int (0 : Int32)))
set_option maxRecDepth 65536 in
set_option maxHeartbeats 40000000 in
theorem own_m_ffo (l : Launch) (Z : State) (a0 : Array Value) (hw : ∀ d ∈ tables_1, d.before a0 Z = true) (ws : List Jvm.Cond) (a1 : Addr) (la : Addr) (ka : ClassId) (rs : List Int32) (sa : Addr) (ks : ClassId) (ss : List Int32) (cK : ClassId) (mm : Int32) (M : Nat) (h0 : Heap) (n0 : Nat) (Z0 : n0 ≤ h0.size) (g_sa : n0 ≤ sa) (ne_a1_sa : a1 ≠ sa) (ne_a1_la : a1 ≠ la) (ne_sa_la : sa ≠ la) (Va : Arv Z h0 a1 ka .char mm (rs.map Value.int) (.int (0 : Int32))) (Vs : Arv Z h0 sa ks .int mm (ss.map Value.int) (.int (0 : Int32))) (Lf : own_L h0 la cK sa mm) (hm : mm.toInt = (M : Int)) (h1 : 1 ≤ M) (h8 : M ≤ 8) (hsl : ss.length = M) (hs0 : ss.getD 0 0 = 0) :
    MetFree l (⟨"com/example/skip2/skip2/kmp/FailureFunction", "of", "([CLcom/example/skip2/skip2/kmp/FailureFunction$Unextended;)[I"⟩ : MethodName) (head1 (Jvm.Cond.code (⟨"com/example/skip2/skip2/kmp/FailureFunction", "of", "([CLcom/example/skip2/skip2/kmp/FailureFunction$Unextended;)[I"⟩ : MethodName) prog_11_method_3_code 6 (some (.array .int)) :: ws) ({ frames := 2, cells := 1, slots := 8, locals := 29 } : Room)) (fun a U => a = #[(.ref a1), (.ref la)] ∧ Z.Warmed39 U.vm ∧ U.heap = h0 ∧ Jvm.LamKit.Made (Z.setVm U.vm) "com/example/skip2/skip2/boyermoore/GoodSuffixShift" own_sg cK) (fun _ _ _ _ _ => True) (fun _ U o U' => ∃ v L, o = .returned v ∧ own_Q_ffo Z a1 la ka rs sa ks ss cK mm M h0 n0 v U'.heap L ∧ FrameEnd U o U' L ({ frames := 2, cells := 1, slots := 8, locals := 29 } : Room).cells ({ frames := 2, cells := 1, slots := 8, locals := 29 } : Room).slots) := by
  refine MetFree.of_bodySF (plainFor_of_name own_pn9) hisR ?_
  intro p e s m args below meth c s₁ Bd hml0 hP hK
  obtain ⟨rfl, hZ, hh, hkv⟩ := hP
  have hx := Bd.exec
  have hby := Bd.bytes
  have hml : c.maxLocals = 6 := hml0
  have hown : s.vm.findClass "com/example/skip2/skip2/kmp/FailureFunction" = some m.cls := findClass_of_methodNamed Bd.named
  have hnm := (name_of_methodNamed Bd.named Bd.method).1
  have X0 : Stand p l e ({ frames := 2, cells := 1, slots := 8, locals := 29 } : Room) s m #[(.ref a1), (.ref la)] below meth c s₁ [] 0 0 := Stand.of_body Bd
  have e0 : s₁.heap = h0 := by rw [← hh, Bd.state]; rfl
  have N0 := Fr.nil n0
  have K0 : Keep h0 h0 [sa] := Keep.refl _ _
  show own_Go p e below s ({ frames := 2, cells := 1, slots := 8, locals := 29 } : Room).cells ({ frames := 2, cells := 1, slots := 8, locals := 29 } : Room).slots (own_Q_ffo Z a1 la ka rs sa ks ss cK mm M h0 n0) (s₁.setTop (entryFrame m #[(.ref a1), (.ref la)] 6))
  have ef : entryFrame m #[(.ref a1), (.ref la)] 6 = (mkF m 0 #[.val (.ref a1), .val (.ref la), .unset, .unset, .unset, .unset] []) := by first | (simp [entryFrame, mkF, argsToLocals, Value.category, maxLocals]; done) | rfl
  rw [ef]
  show own_Go p e below s _ _ _ (s₁.setTop (mkF m 0 #[.val (.ref a1), .val (.ref la), .unset, .unset, .unset, .unset] []))
  have hmd : Jvm.LamKit.Made s "com/example/skip2/skip2/boyermoore/GoodSuffixShift" own_sg cK := hkv
  have hO : (Cond.instantiable "java/lang/Object" 0).before #[(.ref a1), (.ref la)] s = true := mvT hZ (hw _ (List.mem_of_getElem? (i := 115) rfl))
  refine own_step (U' := (s₁.setTop (mkF m 1 #[.val (.ref a1), .val (.ref la), .unset, .unset, .unset, .unset] [(.ref a1)]))) (fun t ht => XS.aloadN X0.here hx rfl (hb hby own_d18_0) rfl rfl ht) ?_
  obtain ⟨cl126, Ar126, q126, S126, N126_, H126, G126⟩ := (id Va)
  refine own_step (U' := (s₁.setTop (mkF m 2 #[.val (.ref a1), .val (.ref la), .unset, .unset, .unset, .unset] [(.int mm)]))) (fun t ht => X0.arraylength hx (own_at e0 Ar126.1) (State.isArrayOf_alike hZ.alike Ar126.2.1) (g := (mkF m 1 #[.val (.ref a1), .val (.ref la), .unset, .unset, .unset, .unset] [(.ref a1)])) rfl rfl (hb hby own_d18_1) _ (by rw [len_of S126 N126_]; exact ht)) ?_
  obtain ⟨T128, h128, k128, X128, e128, E128, A128, st128⟩ := newP X0 hx hZ (hw _ (List.mem_of_getElem? (i := 111) rfl)) e0 (g := (mkF m 2 #[.val (.ref a1), .val (.ref la), .unset, .unset, .unset, .unset] [(.int mm)])) rfl (hb hby own_d18_2) rfl (own_nn hm) (cap := 8) (own_cap hm h8) (by decide) (by decide) (by decide)
  obtain ⟨b128, g128⟩ : ∃ z, z = (h0).size := ⟨_, rfl⟩
  rw [← g128] at A128 st128
  have ne_a1_b128 : a1 ≠ b128 := Nat.ne_of_lt (Nat.lt_of_lt_of_le Va.lt (Nat.le_of_eq g128.symm))
  have ne_sa_b128 : sa ≠ b128 := Nat.ne_of_lt (Nat.lt_of_lt_of_le Vs.lt (Nat.le_of_eq g128.symm))
  have ne_la_b128 : la ≠ b128 := Nat.ne_of_lt (Nat.lt_of_lt_of_le (own_Llt Lf) (Nat.le_of_eq g128.symm))
  have g_b128 : n0 ≤ b128 := Nat.le_trans (Nat.le_trans Z0 K0.1) (Nat.le_of_eq g128.symm)
  have sz_b128 : h0.size ≤ b128 := Nat.le_trans K0.1 (Nat.le_of_eq g128.symm)
  have f128_0 := Va.ext E128
  have f128_1 := Vs.ext E128
  have f128_2 := own_Lext Lf E128
  have K128 : Keep h0 h128 [sa] := K0.ext E128
  have V128 : Arv Z h128 b128 k128 .int mm ((List.replicate M (0 : Int32)).map Value.int) (.int (0 : Int32)) := (show Arv Z h128 b128 k128 .int mm [] (.int (0 : Int32)) from Arv.new A128 (own_nn hm)).pad (own_rep M)
  refine own_step (U' := (T128.setTop (mkF m 4 #[.val (.ref a1), .val (.ref la), .unset, .unset, .unset, .unset] [(.ref b128)]))) (fun t ht => st128 _ ht) ?_
  refine own_step (U' := (T128.setTop (mkF m 5 #[.val (.ref a1), .val (.ref la), .val (.ref b128), .unset, .unset, .unset] []))) (fun t ht => XS.astoreN X128.here hx rfl (hb hby own_d18_4) rfl rfl (l' := #[.val (.ref a1), .val (.ref la), .val (.ref b128), .unset, .unset, .unset]) rfl ht) ?_
  refine own_step (U' := (T128.setTop (mkF m 6 #[.val (.ref a1), .val (.ref la), .val (.ref b128), .unset, .unset, .unset] [(.int (0 : Int32))]))) (fun t ht => XS.iconst X128.here hx rfl (hb hby own_d18_5) ht) ?_
  refine own_step (U' := (T128.setTop (mkF m 7 #[.val (.ref a1), .val (.ref la), .val (.ref b128), .val (.int (0 : Int32)), .unset, .unset] []))) (fun t ht => XS.istoreN X128.here hx rfl (hb hby own_d18_6) rfl (l' := #[.val (.ref a1), .val (.ref la), .val (.ref b128), .val (.int (0 : Int32)), .unset, .unset]) rfl ht) ?_
  refine own_step (U' := (T128.setTop (mkF m 8 #[.val (.ref a1), .val (.ref la), .val (.ref b128), .val (.int (0 : Int32)), .unset, .unset] [(.int (1 : Int32))]))) (fun t ht => XS.iconst X128.here hx rfl (hb hby own_d18_7) ht) ?_
  refine own_step (U' := (T128.setTop (mkF m 10 #[.val (.ref a1), .val (.ref la), .val (.ref b128), .val (.int (0 : Int32)), .val (.int (1 : Int32)), .unset] []))) (fun t ht => XS.istore X128.here hx rfl (hb hby own_d18_8) rfl (l' := #[.val (.ref a1), .val (.ref la), .val (.ref b128), .val (.int (0 : Int32)), .val (.int (1 : Int32)), .unset]) rfl ht) ?_
  have loopO : ∀ (k : Nat) (i : Nat) (b : Nat) (i4 : Int32) (b3 : Int32) (s5 : Slot) (fs : List Int32) (xs : List Int32) (To : State) (Lo : List Loc) (Xo : Stand p l e ({ frames := 2, cells := 1, slots := 8, locals := 29 } : Room) s m #[(.ref a1), (.ref la)] below meth c To Lo 1 8) (No : Fr n0 Lo) (Ko : Keep h0 To.heap [sa]) (fo0 : Arv Z To.heap a1 ka .char mm (rs.map Value.int) (.int (0 : Int32))) (fo1 : own_L To.heap la cK sa mm) (fo2 : Arv Z To.heap b128 k128 .int mm (fs.map Value.int) (.int (0 : Int32))) (fo3 : Arv Z To.heap sa ks .int mm (xs.map Value.int) (.int (0 : Int32))) (hi4 : i4.toInt = (i : Int)) (hb3 : b3.toInt = (b : Int)) (hlb : own_lb rs i b) (hFI : own_FI rs fs i) (hfl : fs.length = M) (hxl : xs.length = M) (hx0 : xs.getD 0 0 = 0) (hik : i + k = M) (h1i : 1 ≤ i) (h_s5 : s5 = .unset ∨ ∃ w : Value, s5 = .val w ∧ w.category = 1), own_Go p e below s ({ frames := 2, cells := 1, slots := 8, locals := 29 } : Room).cells ({ frames := 2, cells := 1, slots := 8, locals := 29 } : Room).slots (own_Q_ffo Z a1 la ka rs sa ks ss cK mm M h0 n0) (To.setTop (mkF m 10 #[.val (.ref a1), .val (.ref la), .val (.ref b128), .val (.int b3), .val (.int i4), s5] [])) := by
    intro k
    induction k with
    | zero =>
      intro i b i4 b3 s5 fs xs To Lo Xo No Ko fo0 fo1 fo2 fo3 hi4 hb3 hlb hFI hfl hxl hx0 hik h1i h_s5
      refine own_step (U' := (To.setTop (mkF m 12 #[.val (.ref a1), .val (.ref la), .val (.ref b128), .val (.int b3), .val (.int i4), s5] [(.int i4)]))) (fun t ht => XS.iload Xo.here hx rfl (hb hby own_d18_10) rfl ht) ?_
      refine own_step (U' := (To.setTop (mkF m 13 #[.val (.ref a1), .val (.ref la), .val (.ref b128), .val (.int b3), .val (.int i4), s5] [(.ref b128), (.int i4)]))) (fun t ht => XS.aloadN Xo.here hx rfl (hb hby own_d18_12) rfl rfl ht) ?_
      obtain ⟨cl129, Ar129, q129, S129, N129_, H129, G129⟩ := (id fo2)
      refine own_step (U' := (To.setTop (mkF m 14 #[.val (.ref a1), .val (.ref la), .val (.ref b128), .val (.int b3), .val (.int i4), s5] [(.int mm), (.int i4)]))) (fun t ht => Xo.arraylength hx (own_at rfl Ar129.1) (State.isArrayOf_alike hZ.alike Ar129.2.1) (g := (mkF m 13 #[.val (.ref a1), .val (.ref la), .val (.ref b128), .val (.int b3), .val (.int i4), s5] [(.ref b128), (.int i4)])) rfl rfl (hb hby own_d18_13) _ (by rw [len_of S129 N129_]; exact ht)) ?_
      refine own_step (U' := (To.setTop (mkF m 95 #[.val (.ref a1), .val (.ref la), .val (.ref b128), .val (.int b3), .val (.int i4), s5] []))) (fun t ht => XS.icmpYes Xo.here hx rfl (pc0 := 14) (pc' := 95) rfl (hb hby own_d18_14) rfl (XT.ii_ge_t ((fun q => absurd ((own_lti hi4 hm).mp q) (by omega)) : ¬ (i4 < mm))) (by decide) (by decide) ht) ?_
      refine own_step (U' := (To.setTop (mkF m 96 #[.val (.ref a1), .val (.ref la), .val (.ref b128), .val (.int b3), .val (.int i4), s5] [(.ref b128)]))) (fun t ht => XS.aloadN Xo.here hx rfl (hb hby own_d18_95) rfl rfl ht) ?_
      refine own_ret Xo (v := (some (.ref b128))) (fun h => by rw [Bd.returns] at h; cases h) Bd.notSynchronized (by decide) (by decide) ?_ (fun fs hr => retOut Xo hx Bd.returns (own_narR rfl) (Or.inr (Or.inr (Or.inr (Or.inr ⟨rfl, rfl, rfl⟩)))) (hb hby own_d18_96) hr)
      show own_Q_ffo Z a1 la ka rs sa ks ss cK mm M h0 n0 _ To.heap _
      show own_Q_ffo Z a1 la ka rs sa ks ss cK mm M h0 n0 _ To.heap _
      exact ⟨b128, k128, fs, xs, rfl, No, Ko, sz_b128, (by have q : i = M := (by omega); rw [← q]; exact hFI), hxl, hx0, fo2, fo3⟩
    | succ k ih =>
      intro i b i4 b3 s5 fs xs To Lo Xo No Ko fo0 fo1 fo2 fo3 hi4 hb3 hlb hFI hfl hxl hx0 hik h1i h_s5
      refine own_step (U' := (To.setTop (mkF m 12 #[.val (.ref a1), .val (.ref la), .val (.ref b128), .val (.int b3), .val (.int i4), s5] [(.int i4)]))) (fun t ht => XS.iload Xo.here hx rfl (hb hby own_d18_10) rfl ht) ?_
      refine own_step (U' := (To.setTop (mkF m 13 #[.val (.ref a1), .val (.ref la), .val (.ref b128), .val (.int b3), .val (.int i4), s5] [(.ref b128), (.int i4)]))) (fun t ht => XS.aloadN Xo.here hx rfl (hb hby own_d18_12) rfl rfl ht) ?_
      obtain ⟨cl130, Ar130, q130, S130, N130_, H130, G130⟩ := (id fo2)
      refine own_step (U' := (To.setTop (mkF m 14 #[.val (.ref a1), .val (.ref la), .val (.ref b128), .val (.int b3), .val (.int i4), s5] [(.int mm), (.int i4)]))) (fun t ht => Xo.arraylength hx (own_at rfl Ar130.1) (State.isArrayOf_alike hZ.alike Ar130.2.1) (g := (mkF m 13 #[.val (.ref a1), .val (.ref la), .val (.ref b128), .val (.int b3), .val (.int i4), s5] [(.ref b128), (.int i4)])) rfl rfl (hb hby own_d18_13) _ (by rw [len_of S130 N130_]; exact ht)) ?_
      refine own_step (U' := (To.setTop (mkF m 17 #[.val (.ref a1), .val (.ref la), .val (.ref b128), .val (.int b3), .val (.int i4), s5] []))) (fun t ht => XS.icmpNo Xo.here hx rfl (hb hby own_d18_14) rfl (XT.ii_ge_f (((own_lti hi4 hm).mpr (by omega)) : i4 < mm)) ht) ?_
      refine own_step (U' := (To.setTop (mkF m 18 #[.val (.ref a1), .val (.ref la), .val (.ref b128), .val (.int b3), .val (.int i4), s5] [(.ref a1)]))) (fun t ht => XS.aloadN Xo.here hx rfl (hb hby own_d18_17) rfl rfl ht) ?_
      refine own_step (U' := (To.setTop (mkF m 20 #[.val (.ref a1), .val (.ref la), .val (.ref b128), .val (.int b3), .val (.int i4), s5] [(.int i4), (.ref a1)]))) (fun t ht => XS.iload Xo.here hx rfl (hb hby own_d18_18) rfl ht) ?_
      obtain ⟨cl131, Ar131, q131, S131, N131_, H131, G131⟩ := (id fo0)
      have hin131 : ¬ (i4 < 0 ∨ cl131.slots.size ≤ (i4).toNatClampNeg) := inb_of S131 (own_inN hi4 hm (by omega))
      have hat131 : cl131.slots[(i4).toNatClampNeg]? = some (.int (own_g rs i4)) := Has.at H131 hin131 (own_ldI _ _)
      refine own_step (U' := (To.setTop (mkF m 21 #[.val (.ref a1), .val (.ref la), .val (.ref b128), .val (.int b3), .val (.int i4), s5] [(.int (own_g rs i4))]))) (fun t ht => Xo.caload hx (j := i4) (v := (.int (own_g rs i4))) (own_at rfl Ar131.1) (State.isArrayOf_alike hZ.alike Ar131.2.1) Ar131.2.2 hin131 hat131 (g := (mkF m 20 #[.val (.ref a1), .val (.ref la), .val (.ref b128), .val (.int b3), .val (.int i4), s5] [(.int i4), (.ref a1)])) rfl rfl (hb hby own_d18_20) _ ht) ?_
      refine own_step (U' := (To.setTop (mkF m 23 #[.val (.ref a1), .val (.ref la), .val (.ref b128), .val (.int b3), .val (.int i4), .val (.int (own_g rs i4))] []))) (fun t ht => XS.istore Xo.here hx rfl (hb hby own_d18_21) rfl (l' := #[.val (.ref a1), .val (.ref la), .val (.ref b128), .val (.int b3), .val (.int i4), .val (.int (own_g rs i4))]) (XS.store1 rfl h_s5 rfl) ht) ?_
      have loopI : ∀ (b : Nat) (b3 : Int32) (xs : List Int32) (Ti : State) (Li : List Loc) (Xi : Stand p l e ({ frames := 2, cells := 1, slots := 8, locals := 29 } : Room) s m #[(.ref a1), (.ref la)] below meth c Ti Li 1 8) (Ni : Fr n0 Li) (Ki : Keep h0 Ti.heap [sa]) (fi0 : Arv Z Ti.heap a1 ka .char mm (rs.map Value.int) (.int (0 : Int32))) (fi1 : own_L Ti.heap la cK sa mm) (fi2 : Arv Z Ti.heap b128 k128 .int mm (fs.map Value.int) (.int (0 : Int32))) (fi3 : Arv Z Ti.heap sa ks .int mm (xs.map Value.int) (.int (0 : Int32))) (hb3 : b3.toInt = (b : Int)) (hin : own_IN rs i b) (hxl : xs.length = M) (hx0 : xs.getD 0 0 = 0), own_Go p e below s ({ frames := 2, cells := 1, slots := 8, locals := 29 } : Room).cells ({ frames := 2, cells := 1, slots := 8, locals := 29 } : Room).slots (own_Q_ffo Z a1 la ka rs sa ks ss cK mm M h0 n0) (Ti.setTop (mkF m 23 #[.val (.ref a1), .val (.ref la), .val (.ref b128), .val (.int b3), .val (.int i4), .val (.int (own_g rs i4))] [])) := by
        intro b
        induction b using Nat.strongRecOn with
        | _ b ihb =>
          intro b3 xs Ti Li Xi Ni Ki fi0 fi1 fi2 fi3 hb3 hin hxl hx0
          have hbi := hin.1
          refine own_step (U' := (Ti.setTop (mkF m 24 #[.val (.ref a1), .val (.ref la), .val (.ref b128), .val (.int b3), .val (.int i4), .val (.int (own_g rs i4))] [(.int b3)]))) (fun t ht => XS.iloadN Xi.here hx rfl (hb hby own_d18_23) rfl ht) ?_
          by_cases hc24_132 : 0 < b3
          ·
            refine own_step (U' := (Ti.setTop (mkF m 27 #[.val (.ref a1), .val (.ref la), .val (.ref b128), .val (.int b3), .val (.int i4), .val (.int (own_g rs i4))] []))) (fun t ht => XS.ifNo Xi.here hx rfl (hb hby own_d18_24) rfl (XT.i0_le_f hc24_132) ht) ?_
            refine own_step (U' := (Ti.setTop (mkF m 28 #[.val (.ref a1), .val (.ref la), .val (.ref b128), .val (.int b3), .val (.int i4), .val (.int (own_g rs i4))] [(.ref a1)]))) (fun t ht => XS.aloadN Xi.here hx rfl (hb hby own_d18_27) rfl rfl ht) ?_
            refine own_step (U' := (Ti.setTop (mkF m 29 #[.val (.ref a1), .val (.ref la), .val (.ref b128), .val (.int b3), .val (.int i4), .val (.int (own_g rs i4))] [(.int b3), (.ref a1)]))) (fun t ht => XS.iloadN Xi.here hx rfl (hb hby own_d18_28) rfl ht) ?_
            obtain ⟨cl133, Ar133, q133, S133, N133_, H133, G133⟩ := (id fi0)
            have hin133 : ¬ (b3 < 0 ∨ cl133.slots.size ≤ (b3).toNatClampNeg) := inb_of S133 (own_inN hb3 hm (by omega))
            have hat133 : cl133.slots[(b3).toNatClampNeg]? = some (.int (own_g rs b3)) := Has.at H133 hin133 (own_ldI _ _)
            refine own_step (U' := (Ti.setTop (mkF m 30 #[.val (.ref a1), .val (.ref la), .val (.ref b128), .val (.int b3), .val (.int i4), .val (.int (own_g rs i4))] [(.int (own_g rs b3))]))) (fun t ht => Xi.caload hx (j := b3) (v := (.int (own_g rs b3))) (own_at rfl Ar133.1) (State.isArrayOf_alike hZ.alike Ar133.2.1) Ar133.2.2 hin133 hat133 (g := (mkF m 29 #[.val (.ref a1), .val (.ref la), .val (.ref b128), .val (.int b3), .val (.int i4), .val (.int (own_g rs i4))] [(.int b3), (.ref a1)])) rfl rfl (hb hby own_d18_29) _ ht) ?_
            refine own_step (U' := (Ti.setTop (mkF m 32 #[.val (.ref a1), .val (.ref la), .val (.ref b128), .val (.int b3), .val (.int i4), .val (.int (own_g rs i4))] [(.int (own_g rs i4)), (.int (own_g rs b3))]))) (fun t ht => XS.iload Xi.here hx rfl (hb hby own_d18_30) rfl ht) ?_
            by_cases hc32_134 : (own_g rs b3) = (own_g rs i4)
            ·
              refine own_step (U' := (Ti.setTop (mkF m 57 #[.val (.ref a1), .val (.ref la), .val (.ref b128), .val (.int b3), .val (.int i4), .val (.int (own_g rs i4))] []))) (fun t ht => XS.icmpYes Xi.here hx rfl (pc0 := 32) (pc' := 57) rfl (hb hby own_d18_32) rfl (XT.ii_eq_t hc32_134) (by decide) (by decide) ht) ?_
              refine own_step (U' := (Ti.setTop (mkF m 58 #[.val (.ref a1), .val (.ref la), .val (.ref b128), .val (.int b3), .val (.int i4), .val (.int (own_g rs i4))] [(.ref a1)]))) (fun t ht => XS.aloadN Xi.here hx rfl (hb hby own_d18_57) rfl rfl ht) ?_
              refine own_step (U' := (Ti.setTop (mkF m 59 #[.val (.ref a1), .val (.ref la), .val (.ref b128), .val (.int b3), .val (.int i4), .val (.int (own_g rs i4))] [(.int b3), (.ref a1)]))) (fun t ht => XS.iloadN Xi.here hx rfl (hb hby own_d18_58) rfl ht) ?_
              obtain ⟨cl135, Ar135, q135, S135, N135_, H135, G135⟩ := (id fi0)
              have hin135 : ¬ (b3 < 0 ∨ cl135.slots.size ≤ (b3).toNatClampNeg) := inb_of S135 (own_inN hb3 hm (by omega))
              have hat135 : cl135.slots[(b3).toNatClampNeg]? = some (.int (own_g rs b3)) := Has.at H135 hin135 (own_ldI _ _)
              refine own_step (U' := (Ti.setTop (mkF m 60 #[.val (.ref a1), .val (.ref la), .val (.ref b128), .val (.int b3), .val (.int i4), .val (.int (own_g rs i4))] [(.int (own_g rs b3))]))) (fun t ht => Xi.caload hx (j := b3) (v := (.int (own_g rs b3))) (own_at rfl Ar135.1) (State.isArrayOf_alike hZ.alike Ar135.2.1) Ar135.2.2 hin135 hat135 (g := (mkF m 59 #[.val (.ref a1), .val (.ref la), .val (.ref b128), .val (.int b3), .val (.int i4), .val (.int (own_g rs i4))] [(.int b3), (.ref a1)])) rfl rfl (hb hby own_d18_59) _ ht) ?_
              refine own_step (U' := (Ti.setTop (mkF m 62 #[.val (.ref a1), .val (.ref la), .val (.ref b128), .val (.int b3), .val (.int i4), .val (.int (own_g rs i4))] [(.int (own_g rs i4)), (.int (own_g rs b3))]))) (fun t ht => XS.iload Xi.here hx rfl (hb hby own_d18_60) rfl ht) ?_
              refine own_step (U' := (Ti.setTop (mkF m 65 #[.val (.ref a1), .val (.ref la), .val (.ref b128), .val (.int b3), .val (.int i4), .val (.int (own_g rs i4))] []))) (fun t ht => XS.icmpNo Xi.here hx rfl (hb hby own_d18_62) rfl (XT.ii_ne_f (hc32_134 : (own_g rs b3) = (own_g rs i4))) ht) ?_
              have hlbn : own_lb rs (i + 1) (b + 1) := own_INy hin (by rw [← own_gN hb3, ← own_gN hi4]; exact hc32_134)
              refine own_step (U' := (Ti.setTop (mkF m 68 #[.val (.ref a1), .val (.ref la), .val (.ref b128), .val (.int (b3 + (1 : Int32))), .val (.int i4), .val (.int (own_g rs i4))] []))) (fun t ht => XT.iincV Xi.here hx rfl (1 : Int32) (hb hby own_d18_65) rfl rfl (l' := #[.val (.ref a1), .val (.ref la), .val (.ref b128), .val (.int (b3 + (1 : Int32))), .val (.int i4), .val (.int (own_g rs i4))]) rfl ht) ?_
              refine own_step (U' := (Ti.setTop (mkF m 84 #[.val (.ref a1), .val (.ref la), .val (.ref b128), .val (.int (b3 + (1 : Int32))), .val (.int i4), .val (.int (own_g rs i4))] []))) (fun t ht => XS.goto Xi.here hx rfl (pc0 := 68) (pc' := 84) rfl (hb hby own_d18_68) (by decide) (by decide) ht) ?_
              refine own_step (U' := (Ti.setTop (mkF m 85 #[.val (.ref a1), .val (.ref la), .val (.ref b128), .val (.int (b3 + (1 : Int32))), .val (.int i4), .val (.int (own_g rs i4))] [(.ref b128)]))) (fun t ht => XS.aloadN Xi.here hx rfl (hb hby own_d18_84) rfl rfl ht) ?_
              refine own_step (U' := (Ti.setTop (mkF m 87 #[.val (.ref a1), .val (.ref la), .val (.ref b128), .val (.int (b3 + (1 : Int32))), .val (.int i4), .val (.int (own_g rs i4))] [(.int i4), (.ref b128)]))) (fun t ht => XS.iload Xi.here hx rfl (hb hby own_d18_85) rfl ht) ?_
              refine own_step (U' := (Ti.setTop (mkF m 88 #[.val (.ref a1), .val (.ref la), .val (.ref b128), .val (.int (b3 + (1 : Int32))), .val (.int i4), .val (.int (own_g rs i4))] [(.int (b3 + (1 : Int32))), (.int i4), (.ref b128)]))) (fun t ht => XS.iloadN Xi.here hx rfl (hb hby own_d18_87) rfl ht) ?_
              obtain ⟨cl136, Ar136, q136, S136, N136_, H136, G136⟩ := (id fi2)
              have hin136 : ¬ (i4 < 0 ∨ cl136.slots.size ≤ (i4).toNatClampNeg) := inb_of S136 (own_inN hi4 hm (by omega))
              obtain ⟨T136, h136, X136, e136, W136, st136⟩ := stI Xi hx hZ rfl Ar136 (j := i4) hin136 (g := (mkF m 88 #[.val (.ref a1), .val (.ref la), .val (.ref b128), .val (.int (b3 + (1 : Int32))), .val (.int i4), .val (.int (own_g rs i4))] [(.int (b3 + (1 : Int32))), (.int i4), (.ref b128)])) rfl rfl (hb hby own_d18_88)
              have f136_0 := fi0.other W136 ne_a1_b128
              have f136_1 := own_Lwr fi1 W136 ne_la_b128
              have f136_3 := fi3.other W136 ne_sa_b128
              have V136 : Arv Z h136 b128 k128 .int mm ((fs.set i (b3 + (1 : Int32))).map Value.int) (.int (0 : Int32)) := own_setV Ar136 q136 S136 N136_ H136 G136 rfl W136 (i := i) hi4 (by omega)
              have N136 := Fr.snoc X136 Ni g_b128
              have K136 : Keep h0 h136 [sa] := Ki.wr W136 (Or.inr sz_b128)
              refine own_step (U' := (T136.setTop (mkF m 89 #[.val (.ref a1), .val (.ref la), .val (.ref b128), .val (.int (b3 + (1 : Int32))), .val (.int i4), .val (.int (own_g rs i4))] []))) (fun t ht => st136 _ ht) ?_
              refine own_step (U' := (T136.setTop (mkF m 92 #[.val (.ref a1), .val (.ref la), .val (.ref b128), .val (.int (b3 + (1 : Int32))), .val (.int (i4 + (1 : Int32))), .val (.int (own_g rs i4))] []))) (fun t ht => XT.iincV X136.here hx rfl (1 : Int32) (hb hby own_d18_89) rfl rfl (l' := #[.val (.ref a1), .val (.ref la), .val (.ref b128), .val (.int (b3 + (1 : Int32))), .val (.int (i4 + (1 : Int32))), .val (.int (own_g rs i4))]) rfl ht) ?_
              refine own_step (U' := (T136.setTop (mkF m 10 #[.val (.ref a1), .val (.ref la), .val (.ref b128), .val (.int (b3 + (1 : Int32))), .val (.int (i4 + (1 : Int32))), .val (.int (own_g rs i4))] []))) (fun t ht => XS.goto X136.here hx rfl (pc0 := 92) (pc' := 10) rfl (hb hby own_d18_92) (by decide) (by decide) ht) ?_
              exact ih (i + 1) (b + 1) _ _ _ _ _ _ _ X136 N136 (by rw [e136]; exact K136) (by rw [e136]; exact f136_0) (by rw [e136]; exact f136_1) (by rw [e136]; exact V136) (by rw [e136]; exact f136_3) (own_incN hi4 (by omega)) (own_incN hb3 (by have := hin.1; omega)) hlbn (own_FIs hFI hlbn (own_incN hb3 (by have := hin.1; omega)) (by omega)) (by rw [List.length_set]; exact hfl) hxl hx0 (by omega) (by omega) (Or.inr ⟨_, rfl, rfl⟩)
            ·
              refine own_step (U' := (Ti.setTop (mkF m 35 #[.val (.ref a1), .val (.ref la), .val (.ref b128), .val (.int b3), .val (.int i4), .val (.int (own_g rs i4))] []))) (fun t ht => XS.icmpNo Xi.here hx rfl (hb hby own_d18_32) rfl (XT.ii_eq_f hc32_134) ht) ?_
              refine own_step (U' := (Ti.setTop (mkF m 36 #[.val (.ref a1), .val (.ref la), .val (.ref b128), .val (.int b3), .val (.int i4), .val (.int (own_g rs i4))] [(.ref la)]))) (fun t ht => XS.aloadN Xi.here hx rfl (hb hby own_d18_35) rfl rfl ht) ?_
              have hb0 : 0 < b := by have := (own_ltI (a := 0) rfl hb3).mp hc24_132; omega
              have hne : rs.getD b 0 ≠ rs.getD i 0 := fun q => hc32_134 (by rw [own_gN hb3, own_gN hi4]; exact q)
              refine own_step (U' := (Ti.setTop (mkF m 39 #[.val (.ref a1), .val (.ref la), .val (.ref b128), .val (.int b3), .val (.int i4), .val (.int (own_g rs i4))] []))) (fun t ht => XS.ifnullNo Xi.here hx rfl (hb hby own_d18_36) rfl ht) ?_
              refine own_step (U' := (Ti.setTop (mkF m 40 #[.val (.ref a1), .val (.ref la), .val (.ref b128), .val (.int b3), .val (.int i4), .val (.int (own_g rs i4))] [(.ref la)]))) (fun t ht => XS.aloadN Xi.here hx rfl (hb hby own_d18_39) rfl rfl ht) ?_
              refine own_step (U' := (Ti.setTop (mkF m 41 #[.val (.ref a1), .val (.ref la), .val (.ref b128), .val (.int b3), .val (.int i4), .val (.int (own_g rs i4))] [(.int b3), (.ref la)]))) (fun t ht => XS.iloadN Xi.here hx rfl (hb hby own_d18_40) rfl ht) ?_
              refine own_step (U' := (Ti.setTop (mkF m 43 #[.val (.ref a1), .val (.ref la), .val (.ref b128), .val (.int b3), .val (.int i4), .val (.int (own_g rs i4))] [(.int i4), (.int b3), (.ref la)]))) (fun t ht => XS.iload Xi.here hx rfl (hb hby own_d18_41) rfl ht) ?_
              obtain ⟨cl137, c1137, c2137, c3137, c4137⟩ := (id fi1)
              obtain ⟨v137, s2137, t137, T137, L137, X137, hL137, e137, -, ⟨v'137, L'137, ev137, hQ137⟩, st137⟩ := Jvm.LamKit.callLamS Xi hx (own := "com/example/skip2/skip2/kmp/FailureFunction") (xi := (⟨"com/example/skip2/skip2/kmp/FailureFunction$Unextended", "border", "(II)V"⟩ : MethodName)) (y := (⟨"com/example/skip2/skip2/boyermoore/GoodSuffixShift", "lambda$of$0", "([IIII)V"⟩ : MethodName)) (σ := own_sg) (own_met (n0 := n0) (own_m_lam l Z a0 hw [] sa mm b3 i4 ks xs M b (Ti.heap) n0 (Nat.le_trans Z0 Ki.1) g_sa fi3 hm h8 hb3 (by omega) hxl) (fun _ _ _ q => by obtain ⟨_, _, q2, _⟩ := q; exact q2)) (fun _ _ _ _ q => q) rfl rfl (fun w hw' a' U q => by obtain rfl := List.mem_singleton.mp hw'; exact mv (wtrans hZ q) (hw _ (List.mem_of_getElem? (i := 124) rfl))) (List.mem_singleton.mpr rfl)
                hown (mvT hZ (hw _ (List.mem_of_getElem? (i := 120) rfl))) (mvT hZ (hw _ (List.mem_of_getElem? (i := 121) rfl))) (mvT hZ (hw _ (List.mem_of_getElem? (i := 122) rfl))) (mvT hZ (hw _ (List.mem_of_getElem? (i := 124) rfl))) (mvT hZ (hw _ (List.mem_of_getElem? (i := 123) rfl))) (mvT hZ (hw _ (List.mem_of_getElem? (i := 109) rfl))) ⟨rfl, rfl, by decide +kernel⟩ ⟨rfl, rfl, by decide +kernel⟩ ⟨by decide, by decide⟩ hmd ⟨cl137, c1137, c2137, c3137⟩ own_fwd own_f10 own_f13
                (g := (mkF m 43 #[.val (.ref a1), .val (.ref la), .val (.ref b128), .val (.int b3), .val (.int i4), .val (.int (own_g rs i4))] [(.int i4), (.int b3), (.ref la)])) rfl (by rw [hml]; rfl) (argsL := [(.int b3), (.int i4)]) (argsT := [.ref sa, .int mm, (.int b3), (.int i4)]) (rest := []) (lenOf own_pd9 rfl) (lenOf own_pd10 rfl) rfl (hb hby own_d18_43) (L0 := #[.val (.ref la), .val (.int b3), .val (.int i4)]) (fun mk => by first | (simp [entryFrame, argsToLocals, Value.category]; done) | rfl) rfl
                (fun U ck bl tg hU hck hh' hW' kk => XS.aloadN hU hx rfl (hb hck own_f0) rfl rfl (Jvm.LamKit.getCap hx hU hW' hmd own_cap0 hO (by rw [hh']; exact c1137) c3137 (v := .ref sa) (by rw [c4137]; rfl) rfl rfl (hb hck own_f1) (XS.aloadN hU hx rfl (hb hck own_f4) rfl rfl (Jvm.LamKit.getCap hx hU hW' hmd own_cap1 hO (by rw [hh']; exact c1137) c3137 (v := .int mm) (by rw [c4137]; rfl) rfl rfl (hb hck own_f5) (XS.iloadN hU hx rfl (hb hck own_f8) rfl (XS.iloadN hU hx rfl (hb hck own_f9) rfl kk))))))
                (fun _ _ _ ⟨_, _, ev, q⟩ => by cases ev; obtain ⟨_, q1, _⟩ := q; exact Or.inr (Or.inr (Or.inr ⟨rfl, rfl, q1⟩))) (by decide) (by show 2 * 0 + _ + _ + _ ≤ _; exact Nat.le_of_ble_eq_true rfl) (by decide) (by decide) (fun U q1 q2 => ⟨rfl, wtrans hZ q1, q2.trans rfl⟩)
              cases ev137
              obtain ⟨ys137, rfl, -, Kq137, yl137, y0137, Vy137⟩ := hQ137
              have N137 := Fr.app Ni hL137
              have f137_0 := fi0.keep Kq137 (ninS ne_a1_sa nin0)
              have f137_1 := own_Lkeep fi1 Kq137 (ninS (Ne.symm ne_sa_la) nin0)
              have f137_2 := fi2.keep Kq137 (ninS (Ne.symm ne_sa_b128) nin0)
              have K137 : Keep h0 t137.heap [sa] := Ki.trans Kq137 (allS (Or.inl (by simp)) all0)
              refine own_step (U' := (T137.setTop (mkF m 48 #[.val (.ref a1), .val (.ref la), .val (.ref b128), .val (.int b3), .val (.int i4), .val (.int (own_g rs i4))] []))) (fun t ht => st137 _ ht) ?_
              obtain ⟨f, hf0, hf2⟩ := hFI (b - 1) (by omega)
              have hix := own_subN hb3 (y := (1 : Int32)) (j := 1) rfl hb0 (by omega)
              have hf1 : (own_g fs (b3 - (1 : Int32))).toInt = (f : Int) := by rw [own_gN hix]; exact hf0
              rw [show b - 1 + 1 = b by omega] at hf2
              refine own_step (U' := (T137.setTop (mkF m 49 #[.val (.ref a1), .val (.ref la), .val (.ref b128), .val (.int b3), .val (.int i4), .val (.int (own_g rs i4))] [(.ref b128)]))) (fun t ht => XS.aloadN X137.here hx rfl (hb hby own_d18_48) rfl rfl ht) ?_
              refine own_step (U' := (T137.setTop (mkF m 50 #[.val (.ref a1), .val (.ref la), .val (.ref b128), .val (.int b3), .val (.int i4), .val (.int (own_g rs i4))] [(.int b3), (.ref b128)]))) (fun t ht => XS.iloadN X137.here hx rfl (hb hby own_d18_49) rfl ht) ?_
              refine own_step (U' := (T137.setTop (mkF m 51 #[.val (.ref a1), .val (.ref la), .val (.ref b128), .val (.int b3), .val (.int i4), .val (.int (own_g rs i4))] [(.int (1 : Int32)), (.int b3), (.ref b128)]))) (fun t ht => XS.iconst X137.here hx rfl (hb hby own_d18_50) ht) ?_
              refine own_step (U' := (T137.setTop (mkF m 52 #[.val (.ref a1), .val (.ref la), .val (.ref b128), .val (.int b3), .val (.int i4), .val (.int (own_g rs i4))] [(.int (b3 - (1 : Int32))), (.ref b128)]))) (fun t ht => XS.isub X137.here hx rfl (hb hby own_d18_51) rfl ht) ?_
              obtain ⟨cl138, Ar138, q138, S138, N138_, H138, G138⟩ := (id f137_2)
              have hin138 : ¬ ((b3 - (1 : Int32)) < 0 ∨ cl138.slots.size ≤ ((b3 - (1 : Int32))).toNatClampNeg) := inb_of S138 (own_inN hix hm (by omega))
              have hat138 : cl138.slots[((b3 - (1 : Int32))).toNatClampNeg]? = some (.int (own_g fs (b3 - (1 : Int32)))) := Has.at H138 hin138 (own_ldI _ _)
              refine own_step (U' := (T137.setTop (mkF m 53 #[.val (.ref a1), .val (.ref la), .val (.ref b128), .val (.int b3), .val (.int i4), .val (.int (own_g rs i4))] [(.int (own_g fs (b3 - (1 : Int32))))]))) (fun t ht => X137.iaload hx (j := (b3 - (1 : Int32))) (v := (.int (own_g fs (b3 - (1 : Int32))))) (own_at e137 Ar138.1) (State.isArrayOf_alike hZ.alike Ar138.2.1) Ar138.2.2 hin138 hat138 (g := (mkF m 52 #[.val (.ref a1), .val (.ref la), .val (.ref b128), .val (.int b3), .val (.int i4), .val (.int (own_g rs i4))] [(.int (b3 - (1 : Int32))), (.ref b128)])) rfl rfl (hb hby own_d18_52) _ ht) ?_
              refine own_step (U' := (T137.setTop (mkF m 54 #[.val (.ref a1), .val (.ref la), .val (.ref b128), .val (.int (own_g fs (b3 - (1 : Int32)))), .val (.int i4), .val (.int (own_g rs i4))] []))) (fun t ht => XS.istoreN X137.here hx rfl (hb hby own_d18_53) rfl (l' := #[.val (.ref a1), .val (.ref la), .val (.ref b128), .val (.int (own_g fs (b3 - (1 : Int32)))), .val (.int i4), .val (.int (own_g rs i4))]) rfl ht) ?_
              refine own_step (U' := (T137.setTop (mkF m 23 #[.val (.ref a1), .val (.ref la), .val (.ref b128), .val (.int (own_g fs (b3 - (1 : Int32)))), .val (.int i4), .val (.int (own_g rs i4))] []))) (fun t ht => XS.goto X137.here hx rfl (pc0 := 54) (pc' := 23) rfl (hb hby own_d18_54) (by decide) (by decide) ht) ?_
              exact ihb f (by have := hf2.1; omega) _ _ _ _ X137 N137 (by rw [e137]; exact K137) (by rw [e137]; exact f137_0) (by rw [e137]; exact f137_1) (by rw [e137]; exact f137_2) (by rw [e137]; exact Vy137) hf1 (own_INs hin hne hf2) yl137 (y0137.trans hx0)
          ·
            refine own_step (U' := (Ti.setTop (mkF m 57 #[.val (.ref a1), .val (.ref la), .val (.ref b128), .val (.int b3), .val (.int i4), .val (.int (own_g rs i4))] []))) (fun t ht => XS.ifYes Xi.here hx rfl (pc0 := 24) (pc' := 57) rfl (hb hby own_d18_24) rfl (XT.i0_le_t hc24_132) (by decide) (by decide) ht) ?_
            refine own_step (U' := (Ti.setTop (mkF m 58 #[.val (.ref a1), .val (.ref la), .val (.ref b128), .val (.int b3), .val (.int i4), .val (.int (own_g rs i4))] [(.ref a1)]))) (fun t ht => XS.aloadN Xi.here hx rfl (hb hby own_d18_57) rfl rfl ht) ?_
            refine own_step (U' := (Ti.setTop (mkF m 59 #[.val (.ref a1), .val (.ref la), .val (.ref b128), .val (.int b3), .val (.int i4), .val (.int (own_g rs i4))] [(.int b3), (.ref a1)]))) (fun t ht => XS.iloadN Xi.here hx rfl (hb hby own_d18_58) rfl ht) ?_
            obtain ⟨cl139, Ar139, q139, S139, N139_, H139, G139⟩ := (id fi0)
            have hin139 : ¬ (b3 < 0 ∨ cl139.slots.size ≤ (b3).toNatClampNeg) := inb_of S139 (own_inN hb3 hm (by omega))
            have hat139 : cl139.slots[(b3).toNatClampNeg]? = some (.int (own_g rs b3)) := Has.at H139 hin139 (own_ldI _ _)
            refine own_step (U' := (Ti.setTop (mkF m 60 #[.val (.ref a1), .val (.ref la), .val (.ref b128), .val (.int b3), .val (.int i4), .val (.int (own_g rs i4))] [(.int (own_g rs b3))]))) (fun t ht => Xi.caload hx (j := b3) (v := (.int (own_g rs b3))) (own_at rfl Ar139.1) (State.isArrayOf_alike hZ.alike Ar139.2.1) Ar139.2.2 hin139 hat139 (g := (mkF m 59 #[.val (.ref a1), .val (.ref la), .val (.ref b128), .val (.int b3), .val (.int i4), .val (.int (own_g rs i4))] [(.int b3), (.ref a1)])) rfl rfl (hb hby own_d18_59) _ ht) ?_
            refine own_step (U' := (Ti.setTop (mkF m 62 #[.val (.ref a1), .val (.ref la), .val (.ref b128), .val (.int b3), .val (.int i4), .val (.int (own_g rs i4))] [(.int (own_g rs i4)), (.int (own_g rs b3))]))) (fun t ht => XS.iload Xi.here hx rfl (hb hby own_d18_60) rfl ht) ?_
            by_cases hc62_140 : (own_g rs b3) = (own_g rs i4)
            ·
              refine own_step (U' := (Ti.setTop (mkF m 65 #[.val (.ref a1), .val (.ref la), .val (.ref b128), .val (.int b3), .val (.int i4), .val (.int (own_g rs i4))] []))) (fun t ht => XS.icmpNo Xi.here hx rfl (hb hby own_d18_62) rfl (XT.ii_ne_f hc62_140) ht) ?_
              have hlbn : own_lb rs (i + 1) (b + 1) := own_INy hin (by rw [← own_gN hb3, ← own_gN hi4]; exact hc62_140)
              refine own_step (U' := (Ti.setTop (mkF m 68 #[.val (.ref a1), .val (.ref la), .val (.ref b128), .val (.int (b3 + (1 : Int32))), .val (.int i4), .val (.int (own_g rs i4))] []))) (fun t ht => XT.iincV Xi.here hx rfl (1 : Int32) (hb hby own_d18_65) rfl rfl (l' := #[.val (.ref a1), .val (.ref la), .val (.ref b128), .val (.int (b3 + (1 : Int32))), .val (.int i4), .val (.int (own_g rs i4))]) rfl ht) ?_
              refine own_step (U' := (Ti.setTop (mkF m 84 #[.val (.ref a1), .val (.ref la), .val (.ref b128), .val (.int (b3 + (1 : Int32))), .val (.int i4), .val (.int (own_g rs i4))] []))) (fun t ht => XS.goto Xi.here hx rfl (pc0 := 68) (pc' := 84) rfl (hb hby own_d18_68) (by decide) (by decide) ht) ?_
              refine own_step (U' := (Ti.setTop (mkF m 85 #[.val (.ref a1), .val (.ref la), .val (.ref b128), .val (.int (b3 + (1 : Int32))), .val (.int i4), .val (.int (own_g rs i4))] [(.ref b128)]))) (fun t ht => XS.aloadN Xi.here hx rfl (hb hby own_d18_84) rfl rfl ht) ?_
              refine own_step (U' := (Ti.setTop (mkF m 87 #[.val (.ref a1), .val (.ref la), .val (.ref b128), .val (.int (b3 + (1 : Int32))), .val (.int i4), .val (.int (own_g rs i4))] [(.int i4), (.ref b128)]))) (fun t ht => XS.iload Xi.here hx rfl (hb hby own_d18_85) rfl ht) ?_
              refine own_step (U' := (Ti.setTop (mkF m 88 #[.val (.ref a1), .val (.ref la), .val (.ref b128), .val (.int (b3 + (1 : Int32))), .val (.int i4), .val (.int (own_g rs i4))] [(.int (b3 + (1 : Int32))), (.int i4), (.ref b128)]))) (fun t ht => XS.iloadN Xi.here hx rfl (hb hby own_d18_87) rfl ht) ?_
              obtain ⟨cl141, Ar141, q141, S141, N141_, H141, G141⟩ := (id fi2)
              have hin141 : ¬ (i4 < 0 ∨ cl141.slots.size ≤ (i4).toNatClampNeg) := inb_of S141 (own_inN hi4 hm (by omega))
              obtain ⟨T141, h141, X141, e141, W141, st141⟩ := stI Xi hx hZ rfl Ar141 (j := i4) hin141 (g := (mkF m 88 #[.val (.ref a1), .val (.ref la), .val (.ref b128), .val (.int (b3 + (1 : Int32))), .val (.int i4), .val (.int (own_g rs i4))] [(.int (b3 + (1 : Int32))), (.int i4), (.ref b128)])) rfl rfl (hb hby own_d18_88)
              have f141_0 := fi0.other W141 ne_a1_b128
              have f141_1 := own_Lwr fi1 W141 ne_la_b128
              have f141_3 := fi3.other W141 ne_sa_b128
              have V141 : Arv Z h141 b128 k128 .int mm ((fs.set i (b3 + (1 : Int32))).map Value.int) (.int (0 : Int32)) := own_setV Ar141 q141 S141 N141_ H141 G141 rfl W141 (i := i) hi4 (by omega)
              have N141 := Fr.snoc X141 Ni g_b128
              have K141 : Keep h0 h141 [sa] := Ki.wr W141 (Or.inr sz_b128)
              refine own_step (U' := (T141.setTop (mkF m 89 #[.val (.ref a1), .val (.ref la), .val (.ref b128), .val (.int (b3 + (1 : Int32))), .val (.int i4), .val (.int (own_g rs i4))] []))) (fun t ht => st141 _ ht) ?_
              refine own_step (U' := (T141.setTop (mkF m 92 #[.val (.ref a1), .val (.ref la), .val (.ref b128), .val (.int (b3 + (1 : Int32))), .val (.int (i4 + (1 : Int32))), .val (.int (own_g rs i4))] []))) (fun t ht => XT.iincV X141.here hx rfl (1 : Int32) (hb hby own_d18_89) rfl rfl (l' := #[.val (.ref a1), .val (.ref la), .val (.ref b128), .val (.int (b3 + (1 : Int32))), .val (.int (i4 + (1 : Int32))), .val (.int (own_g rs i4))]) rfl ht) ?_
              refine own_step (U' := (T141.setTop (mkF m 10 #[.val (.ref a1), .val (.ref la), .val (.ref b128), .val (.int (b3 + (1 : Int32))), .val (.int (i4 + (1 : Int32))), .val (.int (own_g rs i4))] []))) (fun t ht => XS.goto X141.here hx rfl (pc0 := 92) (pc' := 10) rfl (hb hby own_d18_92) (by decide) (by decide) ht) ?_
              exact ih (i + 1) (b + 1) _ _ _ _ _ _ _ X141 N141 (by rw [e141]; exact K141) (by rw [e141]; exact f141_0) (by rw [e141]; exact f141_1) (by rw [e141]; exact V141) (by rw [e141]; exact f141_3) (own_incN hi4 (by omega)) (own_incN hb3 (by have := hin.1; omega)) hlbn (own_FIs hFI hlbn (own_incN hb3 (by have := hin.1; omega)) (by omega)) (by rw [List.length_set]; exact hfl) hxl hx0 (by omega) (by omega) (Or.inr ⟨_, rfl, rfl⟩)
            ·
              refine own_step (U' := (Ti.setTop (mkF m 71 #[.val (.ref a1), .val (.ref la), .val (.ref b128), .val (.int b3), .val (.int i4), .val (.int (own_g rs i4))] []))) (fun t ht => XS.icmpYes Xi.here hx rfl (pc0 := 62) (pc' := 71) rfl (hb hby own_d18_62) rfl (XT.ii_ne_t hc62_140) (by decide) (by decide) ht) ?_
              obtain rfl : b = 0 := by have := mt (own_ltI (a := 0) rfl hb3).mpr hc24_132; omega
              have hlbn : own_lb rs (i + 1) 0 := own_INz hin (fun q => hc62_140 (by rw [own_gN hb3, own_gN hi4]; exact q))
              refine own_step (U' := (Ti.setTop (mkF m 72 #[.val (.ref a1), .val (.ref la), .val (.ref b128), .val (.int b3), .val (.int i4), .val (.int (own_g rs i4))] [(.ref la)]))) (fun t ht => XS.aloadN Xi.here hx rfl (hb hby own_d18_71) rfl rfl ht) ?_
              refine own_step (U' := (Ti.setTop (mkF m 75 #[.val (.ref a1), .val (.ref la), .val (.ref b128), .val (.int b3), .val (.int i4), .val (.int (own_g rs i4))] []))) (fun t ht => XS.ifnullNo Xi.here hx rfl (hb hby own_d18_72) rfl ht) ?_
              refine own_step (U' := (Ti.setTop (mkF m 76 #[.val (.ref a1), .val (.ref la), .val (.ref b128), .val (.int b3), .val (.int i4), .val (.int (own_g rs i4))] [(.ref la)]))) (fun t ht => XS.aloadN Xi.here hx rfl (hb hby own_d18_75) rfl rfl ht) ?_
              refine own_step (U' := (Ti.setTop (mkF m 77 #[.val (.ref a1), .val (.ref la), .val (.ref b128), .val (.int b3), .val (.int i4), .val (.int (own_g rs i4))] [(.int (0 : Int32)), (.ref la)]))) (fun t ht => XS.iconst Xi.here hx rfl (hb hby own_d18_76) ht) ?_
              refine own_step (U' := (Ti.setTop (mkF m 79 #[.val (.ref a1), .val (.ref la), .val (.ref b128), .val (.int b3), .val (.int i4), .val (.int (own_g rs i4))] [(.int i4), (.int (0 : Int32)), (.ref la)]))) (fun t ht => XS.iload Xi.here hx rfl (hb hby own_d18_77) rfl ht) ?_
              obtain ⟨cl142, c1142, c2142, c3142, c4142⟩ := (id fi1)
              obtain ⟨v142, s2142, t142, T142, L142, X142, hL142, e142, -, ⟨v'142, L'142, ev142, hQ142⟩, st142⟩ := Jvm.LamKit.callLamS Xi hx (own := "com/example/skip2/skip2/kmp/FailureFunction") (xi := (⟨"com/example/skip2/skip2/kmp/FailureFunction$Unextended", "border", "(II)V"⟩ : MethodName)) (y := (⟨"com/example/skip2/skip2/boyermoore/GoodSuffixShift", "lambda$of$0", "([IIII)V"⟩ : MethodName)) (σ := own_sg) (own_met (n0 := n0) (own_m_lam l Z a0 hw [] sa mm (0 : Int32) i4 ks xs M 0 (Ti.heap) n0 (Nat.le_trans Z0 Ki.1) g_sa fi3 hm h8 rfl (by omega) hxl) (fun _ _ _ q => by obtain ⟨_, _, q2, _⟩ := q; exact q2)) (fun _ _ _ _ q => q) rfl rfl (fun w hw' a' U q => by obtain rfl := List.mem_singleton.mp hw'; exact mv (wtrans hZ q) (hw _ (List.mem_of_getElem? (i := 124) rfl))) (List.mem_singleton.mpr rfl)
                hown (mvT hZ (hw _ (List.mem_of_getElem? (i := 120) rfl))) (mvT hZ (hw _ (List.mem_of_getElem? (i := 121) rfl))) (mvT hZ (hw _ (List.mem_of_getElem? (i := 122) rfl))) (mvT hZ (hw _ (List.mem_of_getElem? (i := 124) rfl))) (mvT hZ (hw _ (List.mem_of_getElem? (i := 123) rfl))) (mvT hZ (hw _ (List.mem_of_getElem? (i := 109) rfl))) ⟨rfl, rfl, by decide +kernel⟩ ⟨rfl, rfl, by decide +kernel⟩ ⟨by decide, by decide⟩ hmd ⟨cl142, c1142, c2142, c3142⟩ own_fwd own_f10 own_f13
                (g := (mkF m 79 #[.val (.ref a1), .val (.ref la), .val (.ref b128), .val (.int b3), .val (.int i4), .val (.int (own_g rs i4))] [(.int i4), (.int (0 : Int32)), (.ref la)])) rfl (by rw [hml]; rfl) (argsL := [(.int (0 : Int32)), (.int i4)]) (argsT := [.ref sa, .int mm, (.int (0 : Int32)), (.int i4)]) (rest := []) (lenOf own_pd9 rfl) (lenOf own_pd10 rfl) rfl (hb hby own_d18_79) (L0 := #[.val (.ref la), .val (.int (0 : Int32)), .val (.int i4)]) (fun mk => by first | (simp [entryFrame, argsToLocals, Value.category]; done) | rfl) rfl
                (fun U ck bl tg hU hck hh' hW' kk => XS.aloadN hU hx rfl (hb hck own_f0) rfl rfl (Jvm.LamKit.getCap hx hU hW' hmd own_cap0 hO (by rw [hh']; exact c1142) c3142 (v := .ref sa) (by rw [c4142]; rfl) rfl rfl (hb hck own_f1) (XS.aloadN hU hx rfl (hb hck own_f4) rfl rfl (Jvm.LamKit.getCap hx hU hW' hmd own_cap1 hO (by rw [hh']; exact c1142) c3142 (v := .int mm) (by rw [c4142]; rfl) rfl rfl (hb hck own_f5) (XS.iloadN hU hx rfl (hb hck own_f8) rfl (XS.iloadN hU hx rfl (hb hck own_f9) rfl kk))))))
                (fun _ _ _ ⟨_, _, ev, q⟩ => by cases ev; obtain ⟨_, q1, _⟩ := q; exact Or.inr (Or.inr (Or.inr ⟨rfl, rfl, q1⟩))) (by decide) (by show 2 * 0 + _ + _ + _ ≤ _; exact Nat.le_of_ble_eq_true rfl) (by decide) (by decide) (fun U q1 q2 => ⟨rfl, wtrans hZ q1, q2.trans rfl⟩)
              cases ev142
              obtain ⟨ys142, rfl, -, Kq142, yl142, y0142, Vy142⟩ := hQ142
              have N142 := Fr.app Ni hL142
              have f142_0 := fi0.keep Kq142 (ninS ne_a1_sa nin0)
              have f142_1 := own_Lkeep fi1 Kq142 (ninS (Ne.symm ne_sa_la) nin0)
              have f142_2 := fi2.keep Kq142 (ninS (Ne.symm ne_sa_b128) nin0)
              have K142 : Keep h0 t142.heap [sa] := Ki.trans Kq142 (allS (Or.inl (by simp)) all0)
              refine own_step (U' := (T142.setTop (mkF m 84 #[.val (.ref a1), .val (.ref la), .val (.ref b128), .val (.int b3), .val (.int i4), .val (.int (own_g rs i4))] []))) (fun t ht => st142 _ ht) ?_
              refine own_step (U' := (T142.setTop (mkF m 85 #[.val (.ref a1), .val (.ref la), .val (.ref b128), .val (.int b3), .val (.int i4), .val (.int (own_g rs i4))] [(.ref b128)]))) (fun t ht => XS.aloadN X142.here hx rfl (hb hby own_d18_84) rfl rfl ht) ?_
              refine own_step (U' := (T142.setTop (mkF m 87 #[.val (.ref a1), .val (.ref la), .val (.ref b128), .val (.int b3), .val (.int i4), .val (.int (own_g rs i4))] [(.int i4), (.ref b128)]))) (fun t ht => XS.iload X142.here hx rfl (hb hby own_d18_85) rfl ht) ?_
              refine own_step (U' := (T142.setTop (mkF m 88 #[.val (.ref a1), .val (.ref la), .val (.ref b128), .val (.int b3), .val (.int i4), .val (.int (own_g rs i4))] [(.int b3), (.int i4), (.ref b128)]))) (fun t ht => XS.iloadN X142.here hx rfl (hb hby own_d18_87) rfl ht) ?_
              obtain ⟨cl143, Ar143, q143, S143, N143_, H143, G143⟩ := (id f142_2)
              have hin143 : ¬ (i4 < 0 ∨ cl143.slots.size ≤ (i4).toNatClampNeg) := inb_of S143 (own_inN hi4 hm (by omega))
              obtain ⟨T143, h143, X143, e143, W143, st143⟩ := stI X142 hx hZ e142 Ar143 (j := i4) hin143 (g := (mkF m 88 #[.val (.ref a1), .val (.ref la), .val (.ref b128), .val (.int b3), .val (.int i4), .val (.int (own_g rs i4))] [(.int b3), (.int i4), (.ref b128)])) rfl rfl (hb hby own_d18_88)
              have f143_0 := f142_0.other W143 ne_a1_b128
              have f143_1 := own_Lwr f142_1 W143 ne_la_b128
              have f143_3 := Vy142.other W143 ne_sa_b128
              have V143 : Arv Z h143 b128 k128 .int mm ((fs.set i b3).map Value.int) (.int (0 : Int32)) := own_setV Ar143 q143 S143 N143_ H143 G143 rfl W143 (i := i) hi4 (by omega)
              have N143 := Fr.snoc X143 N142 g_b128
              have K143 : Keep h0 h143 [sa] := K142.wr W143 (Or.inr sz_b128)
              refine own_step (U' := (T143.setTop (mkF m 89 #[.val (.ref a1), .val (.ref la), .val (.ref b128), .val (.int b3), .val (.int i4), .val (.int (own_g rs i4))] []))) (fun t ht => st143 _ ht) ?_
              refine own_step (U' := (T143.setTop (mkF m 92 #[.val (.ref a1), .val (.ref la), .val (.ref b128), .val (.int b3), .val (.int (i4 + (1 : Int32))), .val (.int (own_g rs i4))] []))) (fun t ht => XT.iincV X143.here hx rfl (1 : Int32) (hb hby own_d18_89) rfl rfl (l' := #[.val (.ref a1), .val (.ref la), .val (.ref b128), .val (.int b3), .val (.int (i4 + (1 : Int32))), .val (.int (own_g rs i4))]) rfl ht) ?_
              refine own_step (U' := (T143.setTop (mkF m 10 #[.val (.ref a1), .val (.ref la), .val (.ref b128), .val (.int b3), .val (.int (i4 + (1 : Int32))), .val (.int (own_g rs i4))] []))) (fun t ht => XS.goto X143.here hx rfl (pc0 := 92) (pc' := 10) rfl (hb hby own_d18_92) (by decide) (by decide) ht) ?_
              exact ih (i + 1) 0 _ _ _ _ _ _ _ X143 N143 (by rw [e143]; exact K143) (by rw [e143]; exact f143_0) (by rw [e143]; exact f143_1) (by rw [e143]; exact V143) (by rw [e143]; exact f143_3) (own_incN hi4 (by omega)) hb3 hlbn (own_FIs hFI hlbn hb3 (by omega)) (by rw [List.length_set]; exact hfl) yl142 (y0142.trans hx0) (by omega) (by omega) (Or.inr ⟨_, rfl, rfl⟩)
      exact loopI b _ _ _ _ Xo No Ko fo0 fo1 fo2 fo3 hb3 (own_IN0 hlb) hxl hx0
  exact loopO (M - 1) 1 0 _ _ _ _ _ _ _ X128 N0 (by rw [e128]; exact K128) (by rw [e128]; exact f128_0) (by rw [e128]; exact f128_2) (by rw [e128]; exact V128) (by rw [e128]; exact f128_1) rfl rfl (own_lb1 rs) (own_FI1 (own_rep0 M 0)) (List.length_replicate) hsl hs0 (by omega) (Nat.le_refl _) (Or.inl rfl)
theorem own_rev {cs xs : List Int32} {mm i3 : Int32} {M i : Nat} (hm : mm.toInt = (M : Int)) (h8 : M ≤ 8) (hi3 : i3.toInt = (i : Int)) (hi : i < M) (hxl : xs.length = M) (hch : ∀ c ∈ cs, own_ch c = c) (hr : ∀ j, j < i → xs.getD j 0 = cs.getD (M - 1 - j) 0) :
    ∀ j, j < i + 1 → (xs.set i ((own_g cs ((mm - (1 : Int32)) - i3)).toUInt32.toUInt16.toUInt32.toInt32)).getD j 0 = cs.getD (M - 1 - j) 0 := by
  intro j hj
  rw [own_gset (xs := xs) (i := i) (by omega)]
  by_cases c : i = j
  · subst c; rw [if_pos rfl, own_chg hch, own_gN (own_ix1 hm hi3 hi h8)]
  · rw [if_neg c]; exact hr j (by omega)
theorem own_sh0 {cs rs fs : List Int32} {mm : Int32} {M : Nat} (hm : mm.toInt = (M : Int)) (h1 : 1 ≤ M) (h8 : M ≤ 8) (hr : ∀ j, j < M → rs.getD j 0 = cs.getD (M - 1 - j) 0) (hFI : own_FI rs fs M) : ∃ f : Nat, (own_g fs (mm - (1 : Int32))).toInt = (f : Int) ∧ f < M ∧ mm - own_g fs (mm - (1 : Int32)) = own_sp cs mm := by
  obtain ⟨f, q1, q2⟩ := hFI (M - 1) (by omega)
  rw [show M - 1 + 1 = M by omega] at q2
  have q3 : (own_g fs (mm - (1 : Int32))).toInt = (f : Int) := by rw [own_gN (own_pre1 hm h1 h8)]; exact q1
  refine ⟨f, q3, q2.1, ?_⟩
  have q4 := q2.1
  rw [own_spL hm h8 hr q2]
  apply Int32.toInt_inj.mp
  rw [own_subN hm q3 (by omega) (by omega), Int32.toInt_ofNat_of_lt (by omega)]
theorem own_fb {rs fs : List Int32} {M b : Nat} (hFI : own_FI rs fs M) (h0 : 0 < b) (hb : b ≤ M) : ∃ f : Nat, (fs.getD (b - 1) 0).toInt = (f : Int) ∧ f < b := by
  obtain ⟨f, q1, q2⟩ := hFI (b - 1) (by omega)
  have := q2.1
  exact ⟨f, q1, by omega⟩
theorem own_pd11 : parseMethodDescriptor "([CLcom/example/skip2/skip2/kmp/FailureFunction$Unextended;)[I" = some ⟨[(.array .char), (.object "com/example/skip2/skip2/kmp/FailureFunction$Unextended")], some (.array .int)⟩ := by decide +kernel
theorem own_d17_0 : decode prog_7_method_2_code 0 = .ok (.aload_n 0, 1) := by decide +kernel
theorem own_d17_1 : decode prog_7_method_2_code 1 = .ok (.arraylength, 1) := by decide +kernel
theorem own_d17_2 : decode prog_7_method_2_code 2 = .ok (.istore_n 1, 1) := by decide +kernel
theorem own_d17_3 : decode prog_7_method_2_code 3 = .ok (.iload_n 1, 1) := by decide +kernel
theorem own_d17_4 : decode prog_7_method_2_code 4 = .ok (.newarray .char, 2) := by decide +kernel
theorem own_d17_6 : decode prog_7_method_2_code 6 = .ok (.astore_n 2, 1) := by decide +kernel
theorem own_d17_7 : decode prog_7_method_2_code 7 = .ok (.iconst 0, 1) := by decide +kernel
theorem own_d17_8 : decode prog_7_method_2_code 8 = .ok (.istore_n 3, 1) := by decide +kernel
theorem own_d17_9 : decode prog_7_method_2_code 9 = .ok (.iload_n 3, 1) := by decide +kernel
theorem own_d17_10 : decode prog_7_method_2_code 10 = .ok (.iload_n 1, 1) := by decide +kernel
theorem own_d17_11 : decode prog_7_method_2_code 11 = .ok (.if_icmp .ge 19, 3) := by decide +kernel
theorem own_d17_14 : decode prog_7_method_2_code 14 = .ok (.aload_n 2, 1) := by decide +kernel
theorem own_d17_15 : decode prog_7_method_2_code 15 = .ok (.iload_n 3, 1) := by decide +kernel
theorem own_d17_16 : decode prog_7_method_2_code 16 = .ok (.aload_n 0, 1) := by decide +kernel
theorem own_d17_17 : decode prog_7_method_2_code 17 = .ok (.iload_n 1, 1) := by decide +kernel
theorem own_d17_18 : decode prog_7_method_2_code 18 = .ok (.iconst 1, 1) := by decide +kernel
theorem own_d17_19 : decode prog_7_method_2_code 19 = .ok (.isub, 1) := by decide +kernel
theorem own_d17_20 : decode prog_7_method_2_code 20 = .ok (.iload_n 3, 1) := by decide +kernel
theorem own_d17_21 : decode prog_7_method_2_code 21 = .ok (.isub, 1) := by decide +kernel
theorem own_d17_22 : decode prog_7_method_2_code 22 = .ok (.caload, 1) := by decide +kernel
theorem own_d17_23 : decode prog_7_method_2_code 23 = .ok (.castore, 1) := by decide +kernel
theorem own_d17_24 : decode prog_7_method_2_code 24 = .ok (.iinc 3 1, 3) := by decide +kernel
theorem own_d17_27 : decode prog_7_method_2_code 27 = .ok (.goto (-18), 3) := by decide +kernel
theorem own_d17_30 : decode prog_7_method_2_code 30 = .ok (.iload_n 1, 1) := by decide +kernel
theorem own_d17_31 : decode prog_7_method_2_code 31 = .ok (.newarray .int, 2) := by decide +kernel
theorem own_d17_33 : decode prog_7_method_2_code 33 = .ok (.astore_n 3, 1) := by decide +kernel
theorem own_d17_34 : decode prog_7_method_2_code 34 = .ok (.aload_n 2, 1) := by decide +kernel
theorem own_d17_35 : decode prog_7_method_2_code 35 = .ok (.aload_n 3, 1) := by decide +kernel
theorem own_d17_36 : decode prog_7_method_2_code 36 = .ok (.iload_n 1, 1) := by decide +kernel
theorem own_d17_37 : decode prog_7_method_2_code 37 = .ok (.invokedynamic 7, 5) := by decide +kernel
theorem own_d17_42 : decode prog_7_method_2_code 42 = .ok (.invokestatic 11, 3) := by decide +kernel
theorem own_d17_45 : decode prog_7_method_2_code 45 = .ok (.astore 4, 2) := by decide +kernel
theorem own_d17_47 : decode prog_7_method_2_code 47 = .ok (.iload_n 1, 1) := by decide +kernel
theorem own_d17_48 : decode prog_7_method_2_code 48 = .ok (.istore 5, 2) := by decide +kernel
theorem own_d17_50 : decode prog_7_method_2_code 50 = .ok (.iload_n 1, 1) := by decide +kernel
theorem own_d17_51 : decode prog_7_method_2_code 51 = .ok (.iconst 1, 1) := by decide +kernel
theorem own_d17_52 : decode prog_7_method_2_code 52 = .ok (.isub, 1) := by decide +kernel
theorem own_d17_53 : decode prog_7_method_2_code 53 = .ok (.istore 6, 2) := by decide +kernel
theorem own_d17_55 : decode prog_7_method_2_code 55 = .ok (.iload 6, 2) := by decide +kernel
theorem own_d17_57 : decode prog_7_method_2_code 57 = .ok (.ifCond .lt 51, 3) := by decide +kernel
theorem own_d17_60 : decode prog_7_method_2_code 60 = .ok (.iload 5, 2) := by decide +kernel
theorem own_d17_62 : decode prog_7_method_2_code 62 = .ok (.iload 6, 2) := by decide +kernel
theorem own_d17_64 : decode prog_7_method_2_code 64 = .ok (.if_icmp .le 15, 3) := by decide +kernel
theorem own_d17_67 : decode prog_7_method_2_code 67 = .ok (.aload 4, 2) := by decide +kernel
theorem own_d17_69 : decode prog_7_method_2_code 69 = .ok (.iload 5, 2) := by decide +kernel
theorem own_d17_71 : decode prog_7_method_2_code 71 = .ok (.iconst 1, 1) := by decide +kernel
theorem own_d17_72 : decode prog_7_method_2_code 72 = .ok (.isub, 1) := by decide +kernel
theorem own_d17_73 : decode prog_7_method_2_code 73 = .ok (.iaload, 1) := by decide +kernel
theorem own_d17_74 : decode prog_7_method_2_code 74 = .ok (.istore 5, 2) := by decide +kernel
theorem own_d17_76 : decode prog_7_method_2_code 76 = .ok (.goto (-16), 3) := by decide +kernel
theorem own_d17_79 : decode prog_7_method_2_code 79 = .ok (.aload_n 3, 1) := by decide +kernel
theorem own_d17_80 : decode prog_7_method_2_code 80 = .ok (.iload_n 1, 1) := by decide +kernel
theorem own_d17_81 : decode prog_7_method_2_code 81 = .ok (.iconst 1, 1) := by decide +kernel
theorem own_d17_82 : decode prog_7_method_2_code 82 = .ok (.isub, 1) := by decide +kernel
theorem own_d17_83 : decode prog_7_method_2_code 83 = .ok (.iload 6, 2) := by decide +kernel
theorem own_d17_85 : decode prog_7_method_2_code 85 = .ok (.isub, 1) := by decide +kernel
theorem own_d17_86 : decode prog_7_method_2_code 86 = .ok (.iaload, 1) := by decide +kernel
theorem own_d17_87 : decode prog_7_method_2_code 87 = .ok (.ifCond .ne 15, 3) := by decide +kernel
theorem own_d17_90 : decode prog_7_method_2_code 90 = .ok (.aload_n 3, 1) := by decide +kernel
theorem own_d17_91 : decode prog_7_method_2_code 91 = .ok (.iload_n 1, 1) := by decide +kernel
theorem own_d17_92 : decode prog_7_method_2_code 92 = .ok (.iconst 1, 1) := by decide +kernel
theorem own_d17_93 : decode prog_7_method_2_code 93 = .ok (.isub, 1) := by decide +kernel
theorem own_d17_94 : decode prog_7_method_2_code 94 = .ok (.iload 6, 2) := by decide +kernel
theorem own_d17_96 : decode prog_7_method_2_code 96 = .ok (.isub, 1) := by decide +kernel
theorem own_d17_97 : decode prog_7_method_2_code 97 = .ok (.iload_n 1, 1) := by decide +kernel
theorem own_d17_98 : decode prog_7_method_2_code 98 = .ok (.iload 5, 2) := by decide +kernel
theorem own_d17_100 : decode prog_7_method_2_code 100 = .ok (.isub, 1) := by decide +kernel
theorem own_d17_101 : decode prog_7_method_2_code 101 = .ok (.iastore, 1) := by decide +kernel
theorem own_d17_102 : decode prog_7_method_2_code 102 = .ok (.iinc 6 (-1), 3) := by decide +kernel
theorem own_d17_105 : decode prog_7_method_2_code 105 = .ok (.goto (-50), 3) := by decide +kernel
theorem own_d17_108 : decode prog_7_method_2_code 108 = .ok (.aload_n 3, 1) := by decide +kernel
theorem own_d17_109 : decode prog_7_method_2_code 109 = .ok (.areturn, 1) := by decide +kernel
def own_Q_gso (Z : State) (a1 : Addr) (ka : ClassId) (cs : List Int32) (mm : Int32) (M : Nat) (h0 : Heap) (n0 : Nat) (v : Option Value) (h : Heap) (L : List Loc) : Prop := ∃ (r : Addr) (kr : ClassId) (ys : List Int32), v = some (.ref r) ∧ Fr n0 L ∧ Keep h0 h [] ∧ h0.size ≤ r ∧ ys.length = M ∧ own_g ys (0 : Int32) = own_sp cs mm ∧ (Arv Z h r kr .int mm (ys.map Value.int) (.int (0 : Int32)))
set_option maxRecDepth 65536 in
set_option maxHeartbeats 40000000 in
theorem own_m_gso (l : Launch) (Z : State) (a0 : Array Value) (hw : ∀ d ∈ tables_1, d.before a0 Z = true) (ws : List Jvm.Cond) (a1 : Addr) (ka : ClassId) (cs : List Int32) (mm : Int32) (M : Nat) (h0 : Heap) (n0 : Nat) (Z0 : n0 ≤ h0.size) (Va : Arv Z h0 a1 ka .char mm (cs.map Value.int) (.int (0 : Int32))) (hm : mm.toInt = (M : Int)) (h1 : 1 ≤ M) (h8 : M ≤ 8) (hcl : cs.length = M) (hch : ∀ c ∈ cs, own_ch c = c) :
    MetFree l (⟨"com/example/skip2/skip2/boyermoore/GoodSuffixShift", "of", "([C)[I"⟩ : MethodName) (head1 (Jvm.Cond.code (⟨"com/example/skip2/skip2/boyermoore/GoodSuffixShift", "of", "([C)[I"⟩ : MethodName) prog_7_method_2_code 7 (some (.array .int)) :: ws) ({ frames := 3, cells := 4, slots := 26, locals := 3075 } : Room)) (fun a U => a = #[(.ref a1)] ∧ Z.Warmed39 U.vm ∧ U.heap = h0 ∧ Z.WarmedH U.vm) (fun _ _ _ _ _ => True) (fun _ U o U' => ∃ v L, o = .returned v ∧ own_Q_gso Z a1 ka cs mm M h0 n0 v U'.heap L ∧ FrameEnd U o U' L ({ frames := 3, cells := 4, slots := 26, locals := 3075 } : Room).cells ({ frames := 3, cells := 4, slots := 26, locals := 3075 } : Room).slots) := by
  refine MetFree.of_bodySF (plainFor_of_name own_pn8) hisR ?_
  intro p e s m args below meth c s₁ Bd hml0 hP hK
  obtain ⟨rfl, hZ, hh, hkv⟩ := hP
  have hx := Bd.exec
  have hby := Bd.bytes
  have hml : c.maxLocals = 7 := hml0
  have hown : s.vm.findClass "com/example/skip2/skip2/boyermoore/GoodSuffixShift" = some m.cls := findClass_of_methodNamed Bd.named
  have hnm := (name_of_methodNamed Bd.named Bd.method).1
  have X0 : Stand p l e ({ frames := 3, cells := 4, slots := 26, locals := 3075 } : Room) s m #[(.ref a1)] below meth c s₁ [] 0 0 := Stand.of_body Bd
  have e0 : s₁.heap = h0 := by rw [← hh, Bd.state]; rfl
  have N0 := Fr.nil n0
  have K0 : Keep h0 h0 [] := Keep.refl _ _
  show own_Go p e below s ({ frames := 3, cells := 4, slots := 26, locals := 3075 } : Room).cells ({ frames := 3, cells := 4, slots := 26, locals := 3075 } : Room).slots (own_Q_gso Z a1 ka cs mm M h0 n0) (s₁.setTop (entryFrame m #[(.ref a1)] 7))
  have ef : entryFrame m #[(.ref a1)] 7 = (mkF m 0 #[.val (.ref a1), .unset, .unset, .unset, .unset, .unset, .unset] []) := by first | (simp [entryFrame, mkF, argsToLocals, Value.category, maxLocals]; done) | rfl
  rw [ef]
  show own_Go p e below s _ _ _ (s₁.setTop (mkF m 0 #[.val (.ref a1), .unset, .unset, .unset, .unset, .unset, .unset] []))
  refine own_step (U' := (s₁.setTop (mkF m 1 #[.val (.ref a1), .unset, .unset, .unset, .unset, .unset, .unset] [(.ref a1)]))) (fun t ht => XS.aloadN X0.here hx rfl (hb hby own_d17_0) rfl rfl ht) ?_
  obtain ⟨cl144, Ar144, q144, S144, N144_, H144, G144⟩ := (id Va)
  refine own_step (U' := (s₁.setTop (mkF m 2 #[.val (.ref a1), .unset, .unset, .unset, .unset, .unset, .unset] [(.int mm)]))) (fun t ht => X0.arraylength hx (own_at e0 Ar144.1) (State.isArrayOf_alike hZ.alike Ar144.2.1) (g := (mkF m 1 #[.val (.ref a1), .unset, .unset, .unset, .unset, .unset, .unset] [(.ref a1)])) rfl rfl (hb hby own_d17_1) _ (by rw [len_of S144 N144_]; exact ht)) ?_
  refine own_step (U' := (s₁.setTop (mkF m 3 #[.val (.ref a1), .val (.int mm), .unset, .unset, .unset, .unset, .unset] []))) (fun t ht => XS.istoreN X0.here hx rfl (hb hby own_d17_2) rfl (l' := #[.val (.ref a1), .val (.int mm), .unset, .unset, .unset, .unset, .unset]) rfl ht) ?_
  refine own_step (U' := (s₁.setTop (mkF m 4 #[.val (.ref a1), .val (.int mm), .unset, .unset, .unset, .unset, .unset] [(.int mm)]))) (fun t ht => XS.iloadN X0.here hx rfl (hb hby own_d17_3) rfl ht) ?_
  obtain ⟨T146, h146, k146, X146, e146, E146, A146, st146⟩ := newP X0 hx hZ (hw _ (List.mem_of_getElem? (i := 0) rfl)) e0 (g := (mkF m 4 #[.val (.ref a1), .val (.int mm), .unset, .unset, .unset, .unset, .unset] [(.int mm)])) rfl (hb hby own_d17_4) rfl (own_nn hm) (cap := 8) (own_cap hm h8) (by decide) (by decide) (by decide)
  obtain ⟨b146, g146⟩ : ∃ z, z = (h0).size := ⟨_, rfl⟩
  rw [← g146] at A146 st146
  have ne_a1_b146 : a1 ≠ b146 := Nat.ne_of_lt (Nat.lt_of_lt_of_le Va.lt (Nat.le_of_eq g146.symm))
  have g_b146 : n0 ≤ b146 := Nat.le_trans (Nat.le_trans Z0 K0.1) (Nat.le_of_eq g146.symm)
  have sz_b146 : h0.size ≤ b146 := Nat.le_trans K0.1 (Nat.le_of_eq g146.symm)
  have f146_0 := Va.ext E146
  have K146 : Keep h0 h146 [] := K0.ext E146
  have V146 : Arv Z h146 b146 k146 .char mm ((List.replicate M (0 : Int32)).map Value.int) (.int (0 : Int32)) := (show Arv Z h146 b146 k146 .char mm [] (.int (0 : Int32)) from Arv.new A146 (own_nn hm)).pad (own_rep M)
  refine own_step (U' := (T146.setTop (mkF m 6 #[.val (.ref a1), .val (.int mm), .unset, .unset, .unset, .unset, .unset] [(.ref b146)]))) (fun t ht => st146 _ ht) ?_
  refine own_step (U' := (T146.setTop (mkF m 7 #[.val (.ref a1), .val (.int mm), .val (.ref b146), .unset, .unset, .unset, .unset] []))) (fun t ht => XS.astoreN X146.here hx rfl (hb hby own_d17_6) rfl rfl (l' := #[.val (.ref a1), .val (.int mm), .val (.ref b146), .unset, .unset, .unset, .unset]) rfl ht) ?_
  refine own_step (U' := (T146.setTop (mkF m 8 #[.val (.ref a1), .val (.int mm), .val (.ref b146), .unset, .unset, .unset, .unset] [(.int (0 : Int32))]))) (fun t ht => XS.iconst X146.here hx rfl (hb hby own_d17_7) ht) ?_
  refine own_step (U' := (T146.setTop (mkF m 9 #[.val (.ref a1), .val (.int mm), .val (.ref b146), .val (.int (0 : Int32)), .unset, .unset, .unset] []))) (fun t ht => XS.istoreN X146.here hx rfl (hb hby own_d17_8) rfl (l' := #[.val (.ref a1), .val (.int mm), .val (.ref b146), .val (.int (0 : Int32)), .unset, .unset, .unset]) rfl ht) ?_
  have loopR : ∀ (k : Nat) (i : Nat) (i3 : Int32) (xs : List Int32) (Tr : State) (Lr : List Loc) (Xr : Stand p l e ({ frames := 3, cells := 4, slots := 26, locals := 3075 } : Room) s m #[(.ref a1)] below meth c Tr Lr 1 8) (Nr : Fr n0 Lr) (Kr : Keep h0 Tr.heap []) (fr0 : Arv Z Tr.heap a1 ka .char mm (cs.map Value.int) (.int (0 : Int32))) (fr1 : Arv Z Tr.heap b146 k146 .char mm (xs.map Value.int) (.int (0 : Int32))) (hi3 : i3.toInt = (i : Int)) (hxl : xs.length = M) (hr : ∀ j, j < i → xs.getD j 0 = cs.getD (M - 1 - j) 0) (hik : i + k = M), own_Go p e below s ({ frames := 3, cells := 4, slots := 26, locals := 3075 } : Room).cells ({ frames := 3, cells := 4, slots := 26, locals := 3075 } : Room).slots (own_Q_gso Z a1 ka cs mm M h0 n0) (Tr.setTop (mkF m 9 #[.val (.ref a1), .val (.int mm), .val (.ref b146), .val (.int i3), .unset, .unset, .unset] [])) := by
    intro k
    induction k with
    | zero =>
      intro i i3 xs Tr Lr Xr Nr Kr fr0 fr1 hi3 hxl hr hik
      have hrM : ∀ j, j < M → xs.getD j 0 = cs.getD (M - 1 - j) 0 := fun j hj => hr j (by omega)
      refine own_step (U' := (Tr.setTop (mkF m 10 #[.val (.ref a1), .val (.int mm), .val (.ref b146), .val (.int i3), .unset, .unset, .unset] [(.int i3)]))) (fun t ht => XS.iloadN Xr.here hx rfl (hb hby own_d17_9) rfl ht) ?_
      refine own_step (U' := (Tr.setTop (mkF m 11 #[.val (.ref a1), .val (.int mm), .val (.ref b146), .val (.int i3), .unset, .unset, .unset] [(.int mm), (.int i3)]))) (fun t ht => XS.iloadN Xr.here hx rfl (hb hby own_d17_10) rfl ht) ?_
      refine own_step (U' := (Tr.setTop (mkF m 30 #[.val (.ref a1), .val (.int mm), .val (.ref b146), .val (.int i3), .unset, .unset, .unset] []))) (fun t ht => XS.icmpYes Xr.here hx rfl (pc0 := 11) (pc' := 30) rfl (hb hby own_d17_11) rfl (XT.ii_ge_t ((fun q => absurd ((own_lti hi3 hm).mp q) (by omega)) : ¬ (i3 < mm))) (by decide) (by decide) ht) ?_
      refine own_step (U' := (Tr.setTop (mkF m 31 #[.val (.ref a1), .val (.int mm), .val (.ref b146), .val (.int i3), .unset, .unset, .unset] [(.int mm)]))) (fun t ht => XS.iloadN Xr.here hx rfl (hb hby own_d17_30) rfl ht) ?_
      obtain ⟨T148, h148, k148, X148, e148, E148, A148, st148⟩ := newP Xr hx hZ (hw _ (List.mem_of_getElem? (i := 111) rfl)) rfl (g := (mkF m 31 #[.val (.ref a1), .val (.int mm), .val (.ref b146), .val (.int i3), .unset, .unset, .unset] [(.int mm)])) rfl (hb hby own_d17_31) rfl (own_nn hm) (cap := 8) (own_cap hm h8) (by decide) (by decide) (by decide)
      obtain ⟨b148, g148⟩ : ∃ z, z = (Tr.heap).size := ⟨_, rfl⟩
      rw [← g148] at A148 st148
      have ne_a1_b148 : a1 ≠ b148 := Nat.ne_of_lt (Nat.lt_of_lt_of_le fr0.lt (Nat.le_of_eq g148.symm))
      have ne_b146_b148 : b146 ≠ b148 := Nat.ne_of_lt (Nat.lt_of_lt_of_le fr1.lt (Nat.le_of_eq g148.symm))
      have g_b148 : n0 ≤ b148 := Nat.le_trans (Nat.le_trans Z0 Kr.1) (Nat.le_of_eq g148.symm)
      have sz_b148 : h0.size ≤ b148 := Nat.le_trans Kr.1 (Nat.le_of_eq g148.symm)
      have f148_0 := fr0.ext E148
      have f148_1 := fr1.ext E148
      have K148 : Keep h0 h148 [] := Kr.ext E148
      have V148 : Arv Z h148 b148 k148 .int mm ((List.replicate M (0 : Int32)).map Value.int) (.int (0 : Int32)) := (show Arv Z h148 b148 k148 .int mm [] (.int (0 : Int32)) from Arv.new A148 (own_nn hm)).pad (own_rep M)
      refine own_step (U' := (T148.setTop (mkF m 33 #[.val (.ref a1), .val (.int mm), .val (.ref b146), .val (.int i3), .unset, .unset, .unset] [(.ref b148)]))) (fun t ht => st148 _ ht) ?_
      refine own_step (U' := (T148.setTop (mkF m 34 #[.val (.ref a1), .val (.int mm), .val (.ref b146), .val (.ref b148), .unset, .unset, .unset] []))) (fun t ht => XS.astoreN X148.here hx rfl (hb hby own_d17_33) rfl rfl (l' := #[.val (.ref a1), .val (.int mm), .val (.ref b146), .val (.ref b148), .unset, .unset, .unset]) rfl ht) ?_
      refine own_step (U' := (T148.setTop (mkF m 35 #[.val (.ref a1), .val (.int mm), .val (.ref b146), .val (.ref b148), .unset, .unset, .unset] [(.ref b146)]))) (fun t ht => XS.aloadN X148.here hx rfl (hb hby own_d17_34) rfl rfl ht) ?_
      refine own_step (U' := (T148.setTop (mkF m 36 #[.val (.ref a1), .val (.int mm), .val (.ref b146), .val (.ref b148), .unset, .unset, .unset] [(.ref b148), (.ref b146)]))) (fun t ht => XS.aloadN X148.here hx rfl (hb hby own_d17_35) rfl rfl ht) ?_
      refine own_step (U' := (T148.setTop (mkF m 37 #[.val (.ref a1), .val (.int mm), .val (.ref b146), .val (.ref b148), .unset, .unset, .unset] [(.int mm), (.ref b148), (.ref b146)]))) (fun t ht => XS.iloadN X148.here hx rfl (hb hby own_d17_36) rfl ht) ?_
      obtain ⟨cK149, hmd149, X149, st149⟩ := Jvm.LamKit.siteMakes X148 hx (x := (⟨"com/example/skip2/skip2/boyermoore/GoodSuffixShift", "of", "([C)[I"⟩ : MethodName)) (pc := 37) (index := 7) (fi := 17) (σ := own_sg) Bd.named (own_site (a0 := a0) hkv (by decide) (hw _ (List.mem_of_getElem? (i := 112) rfl))) (by decide) own_cap0 (mvT hZ (hw _ (List.mem_of_getElem? (i := 115) rfl))) (g := (mkF m 37 #[.val (.ref a1), .val (.int mm), .val (.ref b146), .val (.ref b148), .unset, .unset, .unset] [(.int mm), (.ref b148), (.ref b146)])) rfl rfl (by rw [hml]; rfl) (hb hby own_d17_37) (vals := [(.ref b148), (.int mm)]) (rest := [(.ref b146)]) rfl rfl own_fit2 (by show 2 * 0 + _ + 3072 ≤ _; exact Nat.le_of_ble_eq_true rfl) (by decide) (by show 16 + 2 ≤ _; decide)
      obtain ⟨h149, e149, E149, cc149⟩ := own_push e148 ({ cls := cK149, slots := ([(.ref b148), (.int mm)] : List Value).toArray, vm := .none } : Cell)
      obtain ⟨T149, eT149⟩ : ∃ z, z = T148.pushCell ({ cls := cK149, slots := ([(.ref b148), (.int mm)] : List Value).toArray, vm := .none } : Cell) := ⟨_, rfl⟩
      rw [← eT149] at X149 st149 e149
      rw [e148] at st149
      obtain ⟨b149, g149⟩ : ∃ z, z = (h148).size := ⟨_, rfl⟩
      rw [← g149] at cc149 st149
      have ne_a1_b149 : a1 ≠ b149 := Nat.ne_of_lt (Nat.lt_of_lt_of_le f148_0.lt (Nat.le_of_eq g149.symm))
      have ne_b146_b149 : b146 ≠ b149 := Nat.ne_of_lt (Nat.lt_of_lt_of_le f148_1.lt (Nat.le_of_eq g149.symm))
      have ne_b148_b149 : b148 ≠ b149 := Nat.ne_of_lt (Nat.lt_of_lt_of_le V148.lt (Nat.le_of_eq g149.symm))
      have g_b149 : n0 ≤ b149 := Nat.le_trans (Nat.le_trans Z0 K148.1) (Nat.le_of_eq g149.symm)
      have sz_b149 : h0.size ≤ b149 := Nat.le_trans K148.1 (Nat.le_of_eq g149.symm)
      have f149_0 := f148_0.ext E149
      have f149_1 := f148_1.ext E149
      have f149_2 := V148.ext E149
      have K149 : Keep h0 h149 [] := K148.ext E149
      have Lf149 : own_L h149 b149 cK149 b148 mm := ⟨_, cc149, rfl, rfl, rfl⟩
      refine own_step (U' := (T149.setTop (mkF m 42 #[.val (.ref a1), .val (.int mm), .val (.ref b146), .val (.ref b148), .unset, .unset, .unset] [(.ref b149), (.ref b146)]))) (fun t ht => st149 _ ht) ?_
      obtain ⟨_, _, ⟨T150, L150, k150, n150⟩, -, X150, ⟨Lc150, hQ150, l150, y150, z150⟩, st150⟩ := Jvm.LawKit.callS X149 hx (y := (⟨"com/example/skip2/skip2/kmp/FailureFunction", "of", "([CLcom/example/skip2/skip2/kmp/FailureFunction$Unextended;)[I"⟩ : MethodName)) hown (mvT hZ (hw _ (List.mem_of_getElem? (i := 116) rfl))) (mvT hZ (hw _ (List.mem_of_getElem? (i := 117) rfl))) (mvT hZ (hw _ (List.mem_of_getElem? (i := 118) rfl))) (mvT hZ (hw _ (List.mem_of_getElem? (i := 119) rfl))) (by decide) (own_backP (PV := fun vm => Jvm.LamKit.Made (Z.setVm vm) "com/example/skip2/skip2/boyermoore/GoodSuffixShift" own_sg cK149) (fun _ q => own_made (U := Z.setVm _) q hmd149) (W := 0) (own_m_ffo l Z a0 hw [] (b146) (b149) (k146) (xs) (b148) (k148) ((List.replicate M (0 : Int32))) (cK149) (mm) (M) h149 n0 (Nat.le_trans Z0 K149.1) g_b148 ne_b146_b148 ne_b146_b149 ne_b148_b149 f149_1 f149_2 Lf149 hm h1 h8 List.length_replicate (own_rep0 M 0)) hZ (hw _ (List.mem_of_getElem? (i := 119) rfl)) (hw _ (List.mem_of_getElem? (i := 118) rfl)) (by decide) (by decide)) (g := (mkF m 42 #[.val (.ref a1), .val (.int mm), .val (.ref b146), .val (.ref b148), .unset, .unset, .unset] [(.ref b149), (.ref b146)])) rfl (by rw [hml]; rfl) (argsL := [(.ref b146), (.ref b149)]) (rest := []) (lenOf own_pd11 rfl) rfl (by show 2 * 0 + _ ≤ _; exact Nat.le_of_eq rfl) (hb hby own_d17_42) (fun _ _ => ⟨rfl, e149, (by decide : 3 + 1 ≤ _), (by decide : 18 + 8 ≤ _)⟩)
      dsimp only [Pt.U, Pt.locs, Pt.cells, Pt.slots] at X150 l150 y150 z150 st150 hQ150
      subst l150 y150 z150
      obtain ⟨r_150, kf_150, fs_150, ts_150, rfl, Nq150, Kq150, sq_r_150, p150_0, p150_1, p150_2, Fq150_0, Fq150_1⟩ := hQ150
      have N150 := Fr.app Nr Nq150
      have ne_a1_r_150 : a1 ≠ r_150 := Nat.ne_of_lt (Nat.lt_of_lt_of_le f149_0.lt sq_r_150)
      have ne_b146_r_150 : b146 ≠ r_150 := Nat.ne_of_lt (Nat.lt_of_lt_of_le f149_1.lt sq_r_150)
      have ne_b148_r_150 : b148 ≠ r_150 := Nat.ne_of_lt (Nat.lt_of_lt_of_le f149_2.lt sq_r_150)
      have g_r_150 : n0 ≤ r_150 := Nat.le_trans (Nat.le_trans Z0 K149.1) sq_r_150
      have sz_r_150 : h0.size ≤ r_150 := Nat.le_trans K149.1 sq_r_150
      have f150_0 := f149_0.keep Kq150 (ninS ne_a1_b148 nin0)
      have f150_1 := f149_1.keep Kq150 (ninS ne_b146_b148 nin0)
      have f150_3 := own_Lkeep Lf149 Kq150 (ninS (Ne.symm ne_b148_b149) nin0)
      have K150 : Keep h0 T150.heap [] := K149.trans Kq150 (allS (Or.inr sz_b148) all0)
      refine own_step (U' := (T150.setTop (mkF m 45 #[.val (.ref a1), .val (.int mm), .val (.ref b146), .val (.ref b148), .unset, .unset, .unset] [(.ref r_150)]))) (fun t ht => st150 _ ht) ?_
      obtain ⟨f0, hf0, hf0M, hsh⟩ := own_sh0 hm h1 h8 hrM p150_0
      refine own_step (U' := (T150.setTop (mkF m 47 #[.val (.ref a1), .val (.int mm), .val (.ref b146), .val (.ref b148), .val (.ref r_150), .unset, .unset] []))) (fun t ht => XS.astore X150.here hx rfl (hb hby own_d17_45) rfl rfl (l' := #[.val (.ref a1), .val (.int mm), .val (.ref b146), .val (.ref b148), .val (.ref r_150), .unset, .unset]) rfl ht) ?_
      refine own_step (U' := (T150.setTop (mkF m 48 #[.val (.ref a1), .val (.int mm), .val (.ref b146), .val (.ref b148), .val (.ref r_150), .unset, .unset] [(.int mm)]))) (fun t ht => XS.iloadN X150.here hx rfl (hb hby own_d17_47) rfl ht) ?_
      refine own_step (U' := (T150.setTop (mkF m 50 #[.val (.ref a1), .val (.int mm), .val (.ref b146), .val (.ref b148), .val (.ref r_150), .val (.int mm), .unset] []))) (fun t ht => XS.istore X150.here hx rfl (hb hby own_d17_48) rfl (l' := #[.val (.ref a1), .val (.int mm), .val (.ref b146), .val (.ref b148), .val (.ref r_150), .val (.int mm), .unset]) rfl ht) ?_
      refine own_step (U' := (T150.setTop (mkF m 51 #[.val (.ref a1), .val (.int mm), .val (.ref b146), .val (.ref b148), .val (.ref r_150), .val (.int mm), .unset] [(.int mm)]))) (fun t ht => XS.iloadN X150.here hx rfl (hb hby own_d17_50) rfl ht) ?_
      refine own_step (U' := (T150.setTop (mkF m 52 #[.val (.ref a1), .val (.int mm), .val (.ref b146), .val (.ref b148), .val (.ref r_150), .val (.int mm), .unset] [(.int (1 : Int32)), (.int mm)]))) (fun t ht => XS.iconst X150.here hx rfl (hb hby own_d17_51) ht) ?_
      refine own_step (U' := (T150.setTop (mkF m 53 #[.val (.ref a1), .val (.int mm), .val (.ref b146), .val (.ref b148), .val (.ref r_150), .val (.int mm), .unset] [(.int (mm - (1 : Int32)))]))) (fun t ht => XS.isub X150.here hx rfl (hb hby own_d17_52) rfl ht) ?_
      refine own_step (U' := (T150.setTop (mkF m 55 #[.val (.ref a1), .val (.int mm), .val (.ref b146), .val (.ref b148), .val (.ref r_150), .val (.int mm), .val (.int (mm - (1 : Int32)))] []))) (fun t ht => XS.istore X150.here hx rfl (hb hby own_d17_53) rfl (l' := #[.val (.ref a1), .val (.int mm), .val (.ref b146), .val (.ref b148), .val (.ref r_150), .val (.int mm), .val (.int (mm - (1 : Int32)))]) rfl ht) ?_
      refine own_step (U' := (T150.setTop (mkF m 57 #[.val (.ref a1), .val (.int mm), .val (.ref b146), .val (.ref b148), .val (.ref r_150), .val (.int mm), .val (.int (mm - (1 : Int32)))] [(.int (mm - (1 : Int32)))]))) (fun t ht => XS.iload X150.here hx rfl (hb hby own_d17_55) rfl ht) ?_
      refine own_step (U' := (T150.setTop (mkF m 60 #[.val (.ref a1), .val (.int mm), .val (.ref b146), .val (.ref b148), .val (.ref r_150), .val (.int mm), .val (.int (mm - (1 : Int32)))] []))) (fun t ht => XS.ifNo X150.here hx rfl (hb hby own_d17_57) rfl (XT.i0_lt_f ((own_nn (own_pre1 hm h1 h8)) : ¬ ((mm - (1 : Int32)) < 0))) ht) ?_
      refine own_step (U' := (T150.setTop (mkF m 62 #[.val (.ref a1), .val (.int mm), .val (.ref b146), .val (.ref b148), .val (.ref r_150), .val (.int mm), .val (.int (mm - (1 : Int32)))] [(.int mm)]))) (fun t ht => XS.iload X150.here hx rfl (hb hby own_d17_60) rfl ht) ?_
      refine own_step (U' := (T150.setTop (mkF m 64 #[.val (.ref a1), .val (.int mm), .val (.ref b146), .val (.ref b148), .val (.ref r_150), .val (.int mm), .val (.int (mm - (1 : Int32)))] [(.int (mm - (1 : Int32))), (.int mm)]))) (fun t ht => XS.iload X150.here hx rfl (hb hby own_d17_62) rfl ht) ?_
      refine own_step (U' := (T150.setTop (mkF m 67 #[.val (.ref a1), .val (.int mm), .val (.ref b146), .val (.ref b148), .val (.ref r_150), .val (.int mm), .val (.int (mm - (1 : Int32)))] []))) (fun t ht => XS.icmpNo X150.here hx rfl (hb hby own_d17_64) rfl (XT.ii_le_f (((own_lti (own_pre1 hm h1 h8) hm).mpr (by omega)) : (mm - (1 : Int32)) < mm)) ht) ?_
      refine own_step (U' := (T150.setTop (mkF m 69 #[.val (.ref a1), .val (.int mm), .val (.ref b146), .val (.ref b148), .val (.ref r_150), .val (.int mm), .val (.int (mm - (1 : Int32)))] [(.ref r_150)]))) (fun t ht => XS.aload X150.here hx rfl (hb hby own_d17_67) rfl rfl ht) ?_
      refine own_step (U' := (T150.setTop (mkF m 71 #[.val (.ref a1), .val (.int mm), .val (.ref b146), .val (.ref b148), .val (.ref r_150), .val (.int mm), .val (.int (mm - (1 : Int32)))] [(.int mm), (.ref r_150)]))) (fun t ht => XS.iload X150.here hx rfl (hb hby own_d17_69) rfl ht) ?_
      refine own_step (U' := (T150.setTop (mkF m 72 #[.val (.ref a1), .val (.int mm), .val (.ref b146), .val (.ref b148), .val (.ref r_150), .val (.int mm), .val (.int (mm - (1 : Int32)))] [(.int (1 : Int32)), (.int mm), (.ref r_150)]))) (fun t ht => XS.iconst X150.here hx rfl (hb hby own_d17_71) ht) ?_
      refine own_step (U' := (T150.setTop (mkF m 73 #[.val (.ref a1), .val (.int mm), .val (.ref b146), .val (.ref b148), .val (.ref r_150), .val (.int mm), .val (.int (mm - (1 : Int32)))] [(.int (mm - (1 : Int32))), (.ref r_150)]))) (fun t ht => XS.isub X150.here hx rfl (hb hby own_d17_72) rfl ht) ?_
      obtain ⟨cl151, Ar151, q151, S151, N151_, H151, G151⟩ := (id Fq150_0)
      have hin151 : ¬ ((mm - (1 : Int32)) < 0 ∨ cl151.slots.size ≤ ((mm - (1 : Int32))).toNatClampNeg) := inb_of S151 (own_inN (own_pre1 hm h1 h8) hm (by omega))
      have hat151 : cl151.slots[((mm - (1 : Int32))).toNatClampNeg]? = some (.int (own_g fs_150 (mm - (1 : Int32)))) := Has.at H151 hin151 (own_ldI _ _)
      refine own_step (U' := (T150.setTop (mkF m 74 #[.val (.ref a1), .val (.int mm), .val (.ref b146), .val (.ref b148), .val (.ref r_150), .val (.int mm), .val (.int (mm - (1 : Int32)))] [(.int (own_g fs_150 (mm - (1 : Int32))))]))) (fun t ht => X150.iaload hx (j := (mm - (1 : Int32))) (v := (.int (own_g fs_150 (mm - (1 : Int32))))) (own_at rfl Ar151.1) (State.isArrayOf_alike hZ.alike Ar151.2.1) Ar151.2.2 hin151 hat151 (g := (mkF m 73 #[.val (.ref a1), .val (.int mm), .val (.ref b146), .val (.ref b148), .val (.ref r_150), .val (.int mm), .val (.int (mm - (1 : Int32)))] [(.int (mm - (1 : Int32))), (.ref r_150)])) rfl rfl (hb hby own_d17_73) _ ht) ?_
      refine own_step (U' := (T150.setTop (mkF m 76 #[.val (.ref a1), .val (.int mm), .val (.ref b146), .val (.ref b148), .val (.ref r_150), .val (.int (own_g fs_150 (mm - (1 : Int32)))), .val (.int (mm - (1 : Int32)))] []))) (fun t ht => XS.istore X150.here hx rfl (hb hby own_d17_74) rfl (l' := #[.val (.ref a1), .val (.int mm), .val (.ref b146), .val (.ref b148), .val (.ref r_150), .val (.int (own_g fs_150 (mm - (1 : Int32)))), .val (.int (mm - (1 : Int32)))]) rfl ht) ?_
      refine own_step (U' := (T150.setTop (mkF m 60 #[.val (.ref a1), .val (.int mm), .val (.ref b146), .val (.ref b148), .val (.ref r_150), .val (.int (own_g fs_150 (mm - (1 : Int32)))), .val (.int (mm - (1 : Int32)))] []))) (fun t ht => XS.goto X150.here hx rfl (pc0 := 76) (pc' := 60) rfl (hb hby own_d17_76) (by decide) (by decide) ht) ?_
      refine own_step (U' := (T150.setTop (mkF m 62 #[.val (.ref a1), .val (.int mm), .val (.ref b146), .val (.ref b148), .val (.ref r_150), .val (.int (own_g fs_150 (mm - (1 : Int32)))), .val (.int (mm - (1 : Int32)))] [(.int (own_g fs_150 (mm - (1 : Int32))))]))) (fun t ht => XS.iload X150.here hx rfl (hb hby own_d17_60) rfl ht) ?_
      refine own_step (U' := (T150.setTop (mkF m 64 #[.val (.ref a1), .val (.int mm), .val (.ref b146), .val (.ref b148), .val (.ref r_150), .val (.int (own_g fs_150 (mm - (1 : Int32)))), .val (.int (mm - (1 : Int32)))] [(.int (mm - (1 : Int32))), (.int (own_g fs_150 (mm - (1 : Int32))))]))) (fun t ht => XS.iload X150.here hx rfl (hb hby own_d17_62) rfl ht) ?_
      refine own_step (U' := (T150.setTop (mkF m 79 #[.val (.ref a1), .val (.int mm), .val (.ref b146), .val (.ref b148), .val (.ref r_150), .val (.int (own_g fs_150 (mm - (1 : Int32)))), .val (.int (mm - (1 : Int32)))] []))) (fun t ht => XS.icmpYes X150.here hx rfl (pc0 := 64) (pc' := 79) rfl (hb hby own_d17_64) rfl (XT.ii_le_t ((fun q => absurd ((own_lti (own_pre1 hm h1 h8) hf0).mp q) (by omega)) : ¬ ((mm - (1 : Int32)) < (own_g fs_150 (mm - (1 : Int32)))))) (by decide) (by decide) ht) ?_
      refine own_step (U' := (T150.setTop (mkF m 80 #[.val (.ref a1), .val (.int mm), .val (.ref b146), .val (.ref b148), .val (.ref r_150), .val (.int (own_g fs_150 (mm - (1 : Int32)))), .val (.int (mm - (1 : Int32)))] [(.ref b148)]))) (fun t ht => XS.aloadN X150.here hx rfl (hb hby own_d17_79) rfl rfl ht) ?_
      refine own_step (U' := (T150.setTop (mkF m 81 #[.val (.ref a1), .val (.int mm), .val (.ref b146), .val (.ref b148), .val (.ref r_150), .val (.int (own_g fs_150 (mm - (1 : Int32)))), .val (.int (mm - (1 : Int32)))] [(.int mm), (.ref b148)]))) (fun t ht => XS.iloadN X150.here hx rfl (hb hby own_d17_80) rfl ht) ?_
      refine own_step (U' := (T150.setTop (mkF m 82 #[.val (.ref a1), .val (.int mm), .val (.ref b146), .val (.ref b148), .val (.ref r_150), .val (.int (own_g fs_150 (mm - (1 : Int32)))), .val (.int (mm - (1 : Int32)))] [(.int (1 : Int32)), (.int mm), (.ref b148)]))) (fun t ht => XS.iconst X150.here hx rfl (hb hby own_d17_81) ht) ?_
      refine own_step (U' := (T150.setTop (mkF m 83 #[.val (.ref a1), .val (.int mm), .val (.ref b146), .val (.ref b148), .val (.ref r_150), .val (.int (own_g fs_150 (mm - (1 : Int32)))), .val (.int (mm - (1 : Int32)))] [(.int (mm - (1 : Int32))), (.ref b148)]))) (fun t ht => XS.isub X150.here hx rfl (hb hby own_d17_82) rfl ht) ?_
      refine own_step (U' := (T150.setTop (mkF m 85 #[.val (.ref a1), .val (.int mm), .val (.ref b146), .val (.ref b148), .val (.ref r_150), .val (.int (own_g fs_150 (mm - (1 : Int32)))), .val (.int (mm - (1 : Int32)))] [(.int (mm - (1 : Int32))), (.int (mm - (1 : Int32))), (.ref b148)]))) (fun t ht => XS.iload X150.here hx rfl (hb hby own_d17_83) rfl ht) ?_
      refine own_step (U' := (T150.setTop (mkF m 86 #[.val (.ref a1), .val (.int mm), .val (.ref b146), .val (.ref b148), .val (.ref r_150), .val (.int (own_g fs_150 (mm - (1 : Int32)))), .val (.int (mm - (1 : Int32)))] [(.int ((mm - (1 : Int32)) - (mm - (1 : Int32)))), (.ref b148)]))) (fun t ht => XS.isub X150.here hx rfl (hb hby own_d17_85) rfl ht) ?_
      obtain ⟨cl152, Ar152, q152, S152, N152_, H152, G152⟩ := (id Fq150_1)
      have hin152 : ¬ (((mm - (1 : Int32)) - (mm - (1 : Int32))) < 0 ∨ cl152.slots.size ≤ (((mm - (1 : Int32)) - (mm - (1 : Int32)))).toNatClampNeg) := inb_of S152 (own_inN (own_subN (own_pre1 hm h1 h8) (own_pre1 hm h1 h8) (Nat.le_refl _) (by omega)) hm (by omega))
      have hat152 : cl152.slots[(((mm - (1 : Int32)) - (mm - (1 : Int32)))).toNatClampNeg]? = some (.int (own_g ts_150 ((mm - (1 : Int32)) - (mm - (1 : Int32))))) := Has.at H152 hin152 (own_ldI _ _)
      refine own_step (U' := (T150.setTop (mkF m 87 #[.val (.ref a1), .val (.int mm), .val (.ref b146), .val (.ref b148), .val (.ref r_150), .val (.int (own_g fs_150 (mm - (1 : Int32)))), .val (.int (mm - (1 : Int32)))] [(.int (own_g ts_150 ((mm - (1 : Int32)) - (mm - (1 : Int32)))))]))) (fun t ht => X150.iaload hx (j := ((mm - (1 : Int32)) - (mm - (1 : Int32)))) (v := (.int (own_g ts_150 ((mm - (1 : Int32)) - (mm - (1 : Int32)))))) (own_at rfl Ar152.1) (State.isArrayOf_alike hZ.alike Ar152.2.1) Ar152.2.2 hin152 hat152 (g := (mkF m 86 #[.val (.ref a1), .val (.int mm), .val (.ref b146), .val (.ref b148), .val (.ref r_150), .val (.int (own_g fs_150 (mm - (1 : Int32)))), .val (.int (mm - (1 : Int32)))] [(.int ((mm - (1 : Int32)) - (mm - (1 : Int32)))), (.ref b148)])) rfl rfl (hb hby own_d17_86) _ ht) ?_
      refine own_step (U' := (T150.setTop (mkF m 90 #[.val (.ref a1), .val (.int mm), .val (.ref b146), .val (.ref b148), .val (.ref r_150), .val (.int (own_g fs_150 (mm - (1 : Int32)))), .val (.int (mm - (1 : Int32)))] []))) (fun t ht => XS.ifNo X150.here hx rfl (hb hby own_d17_87) rfl (XT.i0_ne_f ((by rw [own_gN (own_subN (own_pre1 hm h1 h8) (own_pre1 hm h1 h8) (Nat.le_refl _) (by omega)), Nat.sub_self]; exact p150_2) : (own_g ts_150 ((mm - (1 : Int32)) - (mm - (1 : Int32)))) = 0)) ht) ?_
      refine own_step (U' := (T150.setTop (mkF m 91 #[.val (.ref a1), .val (.int mm), .val (.ref b146), .val (.ref b148), .val (.ref r_150), .val (.int (own_g fs_150 (mm - (1 : Int32)))), .val (.int (mm - (1 : Int32)))] [(.ref b148)]))) (fun t ht => XS.aloadN X150.here hx rfl (hb hby own_d17_90) rfl rfl ht) ?_
      refine own_step (U' := (T150.setTop (mkF m 92 #[.val (.ref a1), .val (.int mm), .val (.ref b146), .val (.ref b148), .val (.ref r_150), .val (.int (own_g fs_150 (mm - (1 : Int32)))), .val (.int (mm - (1 : Int32)))] [(.int mm), (.ref b148)]))) (fun t ht => XS.iloadN X150.here hx rfl (hb hby own_d17_91) rfl ht) ?_
      refine own_step (U' := (T150.setTop (mkF m 93 #[.val (.ref a1), .val (.int mm), .val (.ref b146), .val (.ref b148), .val (.ref r_150), .val (.int (own_g fs_150 (mm - (1 : Int32)))), .val (.int (mm - (1 : Int32)))] [(.int (1 : Int32)), (.int mm), (.ref b148)]))) (fun t ht => XS.iconst X150.here hx rfl (hb hby own_d17_92) ht) ?_
      refine own_step (U' := (T150.setTop (mkF m 94 #[.val (.ref a1), .val (.int mm), .val (.ref b146), .val (.ref b148), .val (.ref r_150), .val (.int (own_g fs_150 (mm - (1 : Int32)))), .val (.int (mm - (1 : Int32)))] [(.int (mm - (1 : Int32))), (.ref b148)]))) (fun t ht => XS.isub X150.here hx rfl (hb hby own_d17_93) rfl ht) ?_
      refine own_step (U' := (T150.setTop (mkF m 96 #[.val (.ref a1), .val (.int mm), .val (.ref b146), .val (.ref b148), .val (.ref r_150), .val (.int (own_g fs_150 (mm - (1 : Int32)))), .val (.int (mm - (1 : Int32)))] [(.int (mm - (1 : Int32))), (.int (mm - (1 : Int32))), (.ref b148)]))) (fun t ht => XS.iload X150.here hx rfl (hb hby own_d17_94) rfl ht) ?_
      refine own_step (U' := (T150.setTop (mkF m 97 #[.val (.ref a1), .val (.int mm), .val (.ref b146), .val (.ref b148), .val (.ref r_150), .val (.int (own_g fs_150 (mm - (1 : Int32)))), .val (.int (mm - (1 : Int32)))] [(.int ((mm - (1 : Int32)) - (mm - (1 : Int32)))), (.ref b148)]))) (fun t ht => XS.isub X150.here hx rfl (hb hby own_d17_96) rfl ht) ?_
      refine own_step (U' := (T150.setTop (mkF m 98 #[.val (.ref a1), .val (.int mm), .val (.ref b146), .val (.ref b148), .val (.ref r_150), .val (.int (own_g fs_150 (mm - (1 : Int32)))), .val (.int (mm - (1 : Int32)))] [(.int mm), (.int ((mm - (1 : Int32)) - (mm - (1 : Int32)))), (.ref b148)]))) (fun t ht => XS.iloadN X150.here hx rfl (hb hby own_d17_97) rfl ht) ?_
      refine own_step (U' := (T150.setTop (mkF m 100 #[.val (.ref a1), .val (.int mm), .val (.ref b146), .val (.ref b148), .val (.ref r_150), .val (.int (own_g fs_150 (mm - (1 : Int32)))), .val (.int (mm - (1 : Int32)))] [(.int (own_g fs_150 (mm - (1 : Int32)))), (.int mm), (.int ((mm - (1 : Int32)) - (mm - (1 : Int32)))), (.ref b148)]))) (fun t ht => XS.iload X150.here hx rfl (hb hby own_d17_98) rfl ht) ?_
      refine own_step (U' := (T150.setTop (mkF m 101 #[.val (.ref a1), .val (.int mm), .val (.ref b146), .val (.ref b148), .val (.ref r_150), .val (.int (own_g fs_150 (mm - (1 : Int32)))), .val (.int (mm - (1 : Int32)))] [(.int (mm - (own_g fs_150 (mm - (1 : Int32))))), (.int ((mm - (1 : Int32)) - (mm - (1 : Int32)))), (.ref b148)]))) (fun t ht => XS.isub X150.here hx rfl (hb hby own_d17_100) rfl ht) ?_
      obtain ⟨cl153, Ar153, q153, S153, N153_, H153, G153⟩ := (id Fq150_1)
      have hin153 : ¬ (((mm - (1 : Int32)) - (mm - (1 : Int32))) < 0 ∨ cl153.slots.size ≤ (((mm - (1 : Int32)) - (mm - (1 : Int32)))).toNatClampNeg) := inb_of S153 (own_inN (own_subN (own_pre1 hm h1 h8) (own_pre1 hm h1 h8) (Nat.le_refl _) (by omega)) hm (by omega))
      obtain ⟨T153, h153, X153, e153, W153, st153⟩ := stI X150 hx hZ rfl Ar153 (j := ((mm - (1 : Int32)) - (mm - (1 : Int32)))) hin153 (g := (mkF m 101 #[.val (.ref a1), .val (.int mm), .val (.ref b146), .val (.ref b148), .val (.ref r_150), .val (.int (own_g fs_150 (mm - (1 : Int32)))), .val (.int (mm - (1 : Int32)))] [(.int (mm - (own_g fs_150 (mm - (1 : Int32))))), (.int ((mm - (1 : Int32)) - (mm - (1 : Int32)))), (.ref b148)])) rfl rfl (hb hby own_d17_101)
      have f153_0 := f150_0.other W153 ne_a1_b148
      have f153_1 := f150_1.other W153 ne_b146_b148
      have f153_2 := Fq150_0.other W153 (Ne.symm ne_b148_r_150)
      have V153 : Arv Z h153 b148 k148 .int mm ((ts_150.set 0 (mm - (own_g fs_150 (mm - (1 : Int32))))).map Value.int) (.int (0 : Int32)) := own_setV Ar153 q153 S153 N153_ H153 G153 rfl W153 (i := 0) ((own_subN (own_pre1 hm h1 h8) (own_pre1 hm h1 h8) (Nat.le_refl _) (by omega)).trans (by rw [Nat.sub_self])) (by omega)
      have N153 := Fr.snoc X153 N150 g_b148
      have K153 : Keep h0 h153 [] := K150.wr W153 (Or.inr sz_b148)
      refine own_step (U' := (T153.setTop (mkF m 102 #[.val (.ref a1), .val (.int mm), .val (.ref b146), .val (.ref b148), .val (.ref r_150), .val (.int (own_g fs_150 (mm - (1 : Int32)))), .val (.int (mm - (1 : Int32)))] []))) (fun t ht => st153 _ ht) ?_
      refine own_step (U' := (T153.setTop (mkF m 105 #[.val (.ref a1), .val (.int mm), .val (.ref b146), .val (.ref b148), .val (.ref r_150), .val (.int (own_g fs_150 (mm - (1 : Int32)))), .val (.int ((mm - (1 : Int32)) + (-1 : Int32)))] []))) (fun t ht => XT.iincV X153.here hx rfl (-1 : Int32) (hb hby own_d17_102) rfl rfl (l' := #[.val (.ref a1), .val (.int mm), .val (.ref b146), .val (.ref b148), .val (.ref r_150), .val (.int (own_g fs_150 (mm - (1 : Int32)))), .val (.int ((mm - (1 : Int32)) + (-1 : Int32)))]) rfl ht) ?_
      refine own_step (U' := (T153.setTop (mkF m 55 #[.val (.ref a1), .val (.int mm), .val (.ref b146), .val (.ref b148), .val (.ref r_150), .val (.int (own_g fs_150 (mm - (1 : Int32)))), .val (.int ((mm - (1 : Int32)) + (-1 : Int32)))] []))) (fun t ht => XS.goto X153.here hx rfl (pc0 := 105) (pc' := 55) rfl (hb hby own_d17_105) (by decide) (by decide) ht) ?_
      have loopS : ∀ (t : Nat) (b : Nat) (b5 : Int32) (i6 : Int32) (zs : List Int32) (Ts : State) (Ls : List Loc) (Xs : Stand p l e ({ frames := 3, cells := 4, slots := 26, locals := 3075 } : Room) s m #[(.ref a1)] below meth c Ts Ls 4 26) (Ns : Fr n0 Ls) (Ks : Keep h0 Ts.heap []) (fs0 : Arv Z Ts.heap a1 ka .char mm (cs.map Value.int) (.int (0 : Int32))) (fs1 : Arv Z Ts.heap b146 k146 .char mm (xs.map Value.int) (.int (0 : Int32))) (fs2 : Arv Z Ts.heap r_150 kf_150 .int mm (fs_150.map Value.int) (.int (0 : Int32))) (fs3 : Arv Z Ts.heap b148 k148 .int mm (zs.map Value.int) (.int (0 : Int32))) (hb5 : b5.toInt = (b : Int)) (hbM : b ≤ M) (hi6 : i6.toInt = (t : Int) - 1) (htM : t < M) (hzl : zs.length = M) (hz0 : zs.getD 0 0 = own_sp cs mm), own_Go p e below s ({ frames := 3, cells := 4, slots := 26, locals := 3075 } : Room).cells ({ frames := 3, cells := 4, slots := 26, locals := 3075 } : Room).slots (own_Q_gso Z a1 ka cs mm M h0 n0) (Ts.setTop (mkF m 55 #[.val (.ref a1), .val (.int mm), .val (.ref b146), .val (.ref b148), .val (.ref r_150), .val (.int b5), .val (.int i6)] [])) := by
        intro t
        induction t with
        | zero =>
          intro b b5 i6 zs Ts Ls Xs Ns Ks fs0 fs1 fs2 fs3 hb5 hbM hi6 htM hzl hz0
          refine own_step (U' := (Ts.setTop (mkF m 57 #[.val (.ref a1), .val (.int mm), .val (.ref b146), .val (.ref b148), .val (.ref r_150), .val (.int b5), .val (.int i6)] [(.int i6)]))) (fun t ht => XS.iload Xs.here hx rfl (hb hby own_d17_55) rfl ht) ?_
          refine own_step (U' := (Ts.setTop (mkF m 108 #[.val (.ref a1), .val (.int mm), .val (.ref b146), .val (.ref b148), .val (.ref r_150), .val (.int b5), .val (.int i6)] []))) (fun t ht => XS.ifYes Xs.here hx rfl (pc0 := 57) (pc' := 108) rfl (hb hby own_d17_57) rfl (XT.i0_lt_t (((own_ltI hi6 (b := 0) rfl).mpr (by omega)) : i6 < 0)) (by decide) (by decide) ht) ?_
          refine own_step (U' := (Ts.setTop (mkF m 109 #[.val (.ref a1), .val (.int mm), .val (.ref b146), .val (.ref b148), .val (.ref r_150), .val (.int b5), .val (.int i6)] [(.ref b148)]))) (fun t ht => XS.aloadN Xs.here hx rfl (hb hby own_d17_108) rfl rfl ht) ?_
          refine own_ret Xs (v := (some (.ref b148))) (fun h => by rw [Bd.returns] at h; cases h) Bd.notSynchronized (by decide) (by decide) ?_ (fun fs hr => retOut Xs hx Bd.returns (own_narR rfl) (Or.inr (Or.inr (Or.inr (Or.inr ⟨rfl, rfl, rfl⟩)))) (hb hby own_d17_109) hr)
          show own_Q_gso Z a1 ka cs mm M h0 n0 _ Ts.heap _
          show own_Q_gso Z a1 ka cs mm M h0 n0 _ Ts.heap _
          exact ⟨b148, k148, zs, rfl, Ns, Ks, sz_b148, hzl, ((own_gN (i := 0) rfl).trans hz0), fs3⟩
        | succ t ih =>
          intro b b5 i6 zs Ts Ls Xs Ns Ks fs0 fs1 fs2 fs3 hb5 hbM hi6 htM hzl hz0
          have hi6' : i6.toInt = (t : Int) := by rw [hi6]; omega
          refine own_step (U' := (Ts.setTop (mkF m 57 #[.val (.ref a1), .val (.int mm), .val (.ref b146), .val (.ref b148), .val (.ref r_150), .val (.int b5), .val (.int i6)] [(.int i6)]))) (fun t ht => XS.iload Xs.here hx rfl (hb hby own_d17_55) rfl ht) ?_
          refine own_step (U' := (Ts.setTop (mkF m 60 #[.val (.ref a1), .val (.int mm), .val (.ref b146), .val (.ref b148), .val (.ref r_150), .val (.int b5), .val (.int i6)] []))) (fun t ht => XS.ifNo Xs.here hx rfl (hb hby own_d17_57) rfl (XT.i0_lt_f ((own_nn hi6') : ¬ (i6 < 0))) ht) ?_
          have inner : ∀ (d : Nat) (d5 : Int32) (hd5 : d5.toInt = (d : Int)) (hdM : d ≤ M), own_Go p e below s ({ frames := 3, cells := 4, slots := 26, locals := 3075 } : Room).cells ({ frames := 3, cells := 4, slots := 26, locals := 3075 } : Room).slots (own_Q_gso Z a1 ka cs mm M h0 n0) (Ts.setTop (mkF m 60 #[.val (.ref a1), .val (.int mm), .val (.ref b146), .val (.ref b148), .val (.ref r_150), .val (.int d5), .val (.int i6)] [])) := by
            intro d
            induction d using Nat.strongRecOn with
            | _ d ihd =>
              intro d5 hd5 hdM
              refine own_step (U' := (Ts.setTop (mkF m 62 #[.val (.ref a1), .val (.int mm), .val (.ref b146), .val (.ref b148), .val (.ref r_150), .val (.int d5), .val (.int i6)] [(.int d5)]))) (fun t ht => XS.iload Xs.here hx rfl (hb hby own_d17_60) rfl ht) ?_
              refine own_step (U' := (Ts.setTop (mkF m 64 #[.val (.ref a1), .val (.int mm), .val (.ref b146), .val (.ref b148), .val (.ref r_150), .val (.int d5), .val (.int i6)] [(.int i6), (.int d5)]))) (fun t ht => XS.iload Xs.here hx rfl (hb hby own_d17_62) rfl ht) ?_
              by_cases hc64_154 : i6 < d5
              ·
                refine own_step (U' := (Ts.setTop (mkF m 67 #[.val (.ref a1), .val (.int mm), .val (.ref b146), .val (.ref b148), .val (.ref r_150), .val (.int d5), .val (.int i6)] []))) (fun t ht => XS.icmpNo Xs.here hx rfl (hb hby own_d17_64) rfl (XT.ii_le_f hc64_154) ht) ?_
                have hd0 : 0 < d := by have := (own_lti hi6' hd5).mp hc64_154; omega
                obtain ⟨f, hfa, hfd⟩ := own_fb p150_0 hd0 hdM
                have hix := own_subN hd5 (y := (1 : Int32)) (j := 1) rfl hd0 (by omega)
                have hf1 : (own_g fs_150 (d5 - (1 : Int32))).toInt = (f : Int) := by rw [own_gN hix]; exact hfa
                refine own_step (U' := (Ts.setTop (mkF m 69 #[.val (.ref a1), .val (.int mm), .val (.ref b146), .val (.ref b148), .val (.ref r_150), .val (.int d5), .val (.int i6)] [(.ref r_150)]))) (fun t ht => XS.aload Xs.here hx rfl (hb hby own_d17_67) rfl rfl ht) ?_
                refine own_step (U' := (Ts.setTop (mkF m 71 #[.val (.ref a1), .val (.int mm), .val (.ref b146), .val (.ref b148), .val (.ref r_150), .val (.int d5), .val (.int i6)] [(.int d5), (.ref r_150)]))) (fun t ht => XS.iload Xs.here hx rfl (hb hby own_d17_69) rfl ht) ?_
                refine own_step (U' := (Ts.setTop (mkF m 72 #[.val (.ref a1), .val (.int mm), .val (.ref b146), .val (.ref b148), .val (.ref r_150), .val (.int d5), .val (.int i6)] [(.int (1 : Int32)), (.int d5), (.ref r_150)]))) (fun t ht => XS.iconst Xs.here hx rfl (hb hby own_d17_71) ht) ?_
                refine own_step (U' := (Ts.setTop (mkF m 73 #[.val (.ref a1), .val (.int mm), .val (.ref b146), .val (.ref b148), .val (.ref r_150), .val (.int d5), .val (.int i6)] [(.int (d5 - (1 : Int32))), (.ref r_150)]))) (fun t ht => XS.isub Xs.here hx rfl (hb hby own_d17_72) rfl ht) ?_
                obtain ⟨cl155, Ar155, q155, S155, N155_, H155, G155⟩ := (id fs2)
                have hin155 : ¬ ((d5 - (1 : Int32)) < 0 ∨ cl155.slots.size ≤ ((d5 - (1 : Int32))).toNatClampNeg) := inb_of S155 (own_inN hix hm (by omega))
                have hat155 : cl155.slots[((d5 - (1 : Int32))).toNatClampNeg]? = some (.int (own_g fs_150 (d5 - (1 : Int32)))) := Has.at H155 hin155 (own_ldI _ _)
                refine own_step (U' := (Ts.setTop (mkF m 74 #[.val (.ref a1), .val (.int mm), .val (.ref b146), .val (.ref b148), .val (.ref r_150), .val (.int d5), .val (.int i6)] [(.int (own_g fs_150 (d5 - (1 : Int32))))]))) (fun t ht => Xs.iaload hx (j := (d5 - (1 : Int32))) (v := (.int (own_g fs_150 (d5 - (1 : Int32))))) (own_at rfl Ar155.1) (State.isArrayOf_alike hZ.alike Ar155.2.1) Ar155.2.2 hin155 hat155 (g := (mkF m 73 #[.val (.ref a1), .val (.int mm), .val (.ref b146), .val (.ref b148), .val (.ref r_150), .val (.int d5), .val (.int i6)] [(.int (d5 - (1 : Int32))), (.ref r_150)])) rfl rfl (hb hby own_d17_73) _ ht) ?_
                refine own_step (U' := (Ts.setTop (mkF m 76 #[.val (.ref a1), .val (.int mm), .val (.ref b146), .val (.ref b148), .val (.ref r_150), .val (.int (own_g fs_150 (d5 - (1 : Int32)))), .val (.int i6)] []))) (fun t ht => XS.istore Xs.here hx rfl (hb hby own_d17_74) rfl (l' := #[.val (.ref a1), .val (.int mm), .val (.ref b146), .val (.ref b148), .val (.ref r_150), .val (.int (own_g fs_150 (d5 - (1 : Int32)))), .val (.int i6)]) rfl ht) ?_
                refine own_step (U' := (Ts.setTop (mkF m 60 #[.val (.ref a1), .val (.int mm), .val (.ref b146), .val (.ref b148), .val (.ref r_150), .val (.int (own_g fs_150 (d5 - (1 : Int32)))), .val (.int i6)] []))) (fun t ht => XS.goto Xs.here hx rfl (pc0 := 76) (pc' := 60) rfl (hb hby own_d17_76) (by decide) (by decide) ht) ?_
                exact ihd f hfd _ hf1 (by omega)
              ·
                refine own_step (U' := (Ts.setTop (mkF m 79 #[.val (.ref a1), .val (.int mm), .val (.ref b146), .val (.ref b148), .val (.ref r_150), .val (.int d5), .val (.int i6)] []))) (fun t ht => XS.icmpYes Xs.here hx rfl (pc0 := 64) (pc' := 79) rfl (hb hby own_d17_64) rfl (XT.ii_le_t hc64_154) (by decide) (by decide) ht) ?_
                refine own_step (U' := (Ts.setTop (mkF m 80 #[.val (.ref a1), .val (.int mm), .val (.ref b146), .val (.ref b148), .val (.ref r_150), .val (.int d5), .val (.int i6)] [(.ref b148)]))) (fun t ht => XS.aloadN Xs.here hx rfl (hb hby own_d17_79) rfl rfl ht) ?_
                refine own_step (U' := (Ts.setTop (mkF m 81 #[.val (.ref a1), .val (.int mm), .val (.ref b146), .val (.ref b148), .val (.ref r_150), .val (.int d5), .val (.int i6)] [(.int mm), (.ref b148)]))) (fun t ht => XS.iloadN Xs.here hx rfl (hb hby own_d17_80) rfl ht) ?_
                refine own_step (U' := (Ts.setTop (mkF m 82 #[.val (.ref a1), .val (.int mm), .val (.ref b146), .val (.ref b148), .val (.ref r_150), .val (.int d5), .val (.int i6)] [(.int (1 : Int32)), (.int mm), (.ref b148)]))) (fun t ht => XS.iconst Xs.here hx rfl (hb hby own_d17_81) ht) ?_
                refine own_step (U' := (Ts.setTop (mkF m 83 #[.val (.ref a1), .val (.int mm), .val (.ref b146), .val (.ref b148), .val (.ref r_150), .val (.int d5), .val (.int i6)] [(.int (mm - (1 : Int32))), (.ref b148)]))) (fun t ht => XS.isub Xs.here hx rfl (hb hby own_d17_82) rfl ht) ?_
                refine own_step (U' := (Ts.setTop (mkF m 85 #[.val (.ref a1), .val (.int mm), .val (.ref b146), .val (.ref b148), .val (.ref r_150), .val (.int d5), .val (.int i6)] [(.int i6), (.int (mm - (1 : Int32))), (.ref b148)]))) (fun t ht => XS.iload Xs.here hx rfl (hb hby own_d17_83) rfl ht) ?_
                refine own_step (U' := (Ts.setTop (mkF m 86 #[.val (.ref a1), .val (.int mm), .val (.ref b146), .val (.ref b148), .val (.ref r_150), .val (.int d5), .val (.int i6)] [(.int ((mm - (1 : Int32)) - i6)), (.ref b148)]))) (fun t ht => XS.isub Xs.here hx rfl (hb hby own_d17_85) rfl ht) ?_
                obtain ⟨cl156, Ar156, q156, S156, N156_, H156, G156⟩ := (id fs3)
                have hin156 : ¬ (((mm - (1 : Int32)) - i6) < 0 ∨ cl156.slots.size ≤ (((mm - (1 : Int32)) - i6)).toNatClampNeg) := inb_of S156 (own_inN (own_ix1 hm hi6' (by omega) h8) hm (by omega))
                have hat156 : cl156.slots[(((mm - (1 : Int32)) - i6)).toNatClampNeg]? = some (.int (own_g zs ((mm - (1 : Int32)) - i6))) := Has.at H156 hin156 (own_ldI _ _)
                refine own_step (U' := (Ts.setTop (mkF m 87 #[.val (.ref a1), .val (.int mm), .val (.ref b146), .val (.ref b148), .val (.ref r_150), .val (.int d5), .val (.int i6)] [(.int (own_g zs ((mm - (1 : Int32)) - i6)))]))) (fun t ht => Xs.iaload hx (j := ((mm - (1 : Int32)) - i6)) (v := (.int (own_g zs ((mm - (1 : Int32)) - i6)))) (own_at rfl Ar156.1) (State.isArrayOf_alike hZ.alike Ar156.2.1) Ar156.2.2 hin156 hat156 (g := (mkF m 86 #[.val (.ref a1), .val (.int mm), .val (.ref b146), .val (.ref b148), .val (.ref r_150), .val (.int d5), .val (.int i6)] [(.int ((mm - (1 : Int32)) - i6)), (.ref b148)])) rfl rfl (hb hby own_d17_86) _ ht) ?_
                by_cases hc87_157 : (own_g zs ((mm - (1 : Int32)) - i6)) = 0
                ·
                  refine own_step (U' := (Ts.setTop (mkF m 90 #[.val (.ref a1), .val (.int mm), .val (.ref b146), .val (.ref b148), .val (.ref r_150), .val (.int d5), .val (.int i6)] []))) (fun t ht => XS.ifNo Xs.here hx rfl (hb hby own_d17_87) rfl (XT.i0_ne_f hc87_157) ht) ?_
                  refine own_step (U' := (Ts.setTop (mkF m 91 #[.val (.ref a1), .val (.int mm), .val (.ref b146), .val (.ref b148), .val (.ref r_150), .val (.int d5), .val (.int i6)] [(.ref b148)]))) (fun t ht => XS.aloadN Xs.here hx rfl (hb hby own_d17_90) rfl rfl ht) ?_
                  refine own_step (U' := (Ts.setTop (mkF m 92 #[.val (.ref a1), .val (.int mm), .val (.ref b146), .val (.ref b148), .val (.ref r_150), .val (.int d5), .val (.int i6)] [(.int mm), (.ref b148)]))) (fun t ht => XS.iloadN Xs.here hx rfl (hb hby own_d17_91) rfl ht) ?_
                  refine own_step (U' := (Ts.setTop (mkF m 93 #[.val (.ref a1), .val (.int mm), .val (.ref b146), .val (.ref b148), .val (.ref r_150), .val (.int d5), .val (.int i6)] [(.int (1 : Int32)), (.int mm), (.ref b148)]))) (fun t ht => XS.iconst Xs.here hx rfl (hb hby own_d17_92) ht) ?_
                  refine own_step (U' := (Ts.setTop (mkF m 94 #[.val (.ref a1), .val (.int mm), .val (.ref b146), .val (.ref b148), .val (.ref r_150), .val (.int d5), .val (.int i6)] [(.int (mm - (1 : Int32))), (.ref b148)]))) (fun t ht => XS.isub Xs.here hx rfl (hb hby own_d17_93) rfl ht) ?_
                  refine own_step (U' := (Ts.setTop (mkF m 96 #[.val (.ref a1), .val (.int mm), .val (.ref b146), .val (.ref b148), .val (.ref r_150), .val (.int d5), .val (.int i6)] [(.int i6), (.int (mm - (1 : Int32))), (.ref b148)]))) (fun t ht => XS.iload Xs.here hx rfl (hb hby own_d17_94) rfl ht) ?_
                  refine own_step (U' := (Ts.setTop (mkF m 97 #[.val (.ref a1), .val (.int mm), .val (.ref b146), .val (.ref b148), .val (.ref r_150), .val (.int d5), .val (.int i6)] [(.int ((mm - (1 : Int32)) - i6)), (.ref b148)]))) (fun t ht => XS.isub Xs.here hx rfl (hb hby own_d17_96) rfl ht) ?_
                  refine own_step (U' := (Ts.setTop (mkF m 98 #[.val (.ref a1), .val (.int mm), .val (.ref b146), .val (.ref b148), .val (.ref r_150), .val (.int d5), .val (.int i6)] [(.int mm), (.int ((mm - (1 : Int32)) - i6)), (.ref b148)]))) (fun t ht => XS.iloadN Xs.here hx rfl (hb hby own_d17_97) rfl ht) ?_
                  refine own_step (U' := (Ts.setTop (mkF m 100 #[.val (.ref a1), .val (.int mm), .val (.ref b146), .val (.ref b148), .val (.ref r_150), .val (.int d5), .val (.int i6)] [(.int d5), (.int mm), (.int ((mm - (1 : Int32)) - i6)), (.ref b148)]))) (fun t ht => XS.iload Xs.here hx rfl (hb hby own_d17_98) rfl ht) ?_
                  refine own_step (U' := (Ts.setTop (mkF m 101 #[.val (.ref a1), .val (.int mm), .val (.ref b146), .val (.ref b148), .val (.ref r_150), .val (.int d5), .val (.int i6)] [(.int (mm - d5)), (.int ((mm - (1 : Int32)) - i6)), (.ref b148)]))) (fun t ht => XS.isub Xs.here hx rfl (hb hby own_d17_100) rfl ht) ?_
                  obtain ⟨cl158, Ar158, q158, S158, N158_, H158, G158⟩ := (id fs3)
                  have hin158 : ¬ (((mm - (1 : Int32)) - i6) < 0 ∨ cl158.slots.size ≤ (((mm - (1 : Int32)) - i6)).toNatClampNeg) := inb_of S158 (own_inN (own_ix1 hm hi6' (by omega) h8) hm (by omega))
                  obtain ⟨T158, h158, X158, e158, W158, st158⟩ := stI Xs hx hZ rfl Ar158 (j := ((mm - (1 : Int32)) - i6)) hin158 (g := (mkF m 101 #[.val (.ref a1), .val (.int mm), .val (.ref b146), .val (.ref b148), .val (.ref r_150), .val (.int d5), .val (.int i6)] [(.int (mm - d5)), (.int ((mm - (1 : Int32)) - i6)), (.ref b148)])) rfl rfl (hb hby own_d17_101)
                  have f158_0 := fs0.other W158 ne_a1_b148
                  have f158_1 := fs1.other W158 ne_b146_b148
                  have f158_2 := fs2.other W158 (Ne.symm ne_b148_r_150)
                  have V158 : Arv Z h158 b148 k148 .int mm ((zs.set (M - 1 - t) (mm - d5)).map Value.int) (.int (0 : Int32)) := own_setV Ar158 q158 S158 N158_ H158 G158 rfl W158 (i := (M - 1 - t)) (own_ix1 hm hi6' (by omega) h8) (by omega)
                  have N158 := Fr.snoc X158 Ns g_b148
                  have K158 : Keep h0 h158 [] := Ks.wr W158 (Or.inr sz_b148)
                  refine own_step (U' := (T158.setTop (mkF m 102 #[.val (.ref a1), .val (.int mm), .val (.ref b146), .val (.ref b148), .val (.ref r_150), .val (.int d5), .val (.int i6)] []))) (fun t ht => st158 _ ht) ?_
                  refine own_step (U' := (T158.setTop (mkF m 105 #[.val (.ref a1), .val (.int mm), .val (.ref b146), .val (.ref b148), .val (.ref r_150), .val (.int d5), .val (.int (i6 + (-1 : Int32)))] []))) (fun t ht => XT.iincV X158.here hx rfl (-1 : Int32) (hb hby own_d17_102) rfl rfl (l' := #[.val (.ref a1), .val (.int mm), .val (.ref b146), .val (.ref b148), .val (.ref r_150), .val (.int d5), .val (.int (i6 + (-1 : Int32)))]) rfl ht) ?_
                  refine own_step (U' := (T158.setTop (mkF m 55 #[.val (.ref a1), .val (.int mm), .val (.ref b146), .val (.ref b148), .val (.ref r_150), .val (.int d5), .val (.int (i6 + (-1 : Int32)))] []))) (fun t ht => XS.goto X158.here hx rfl (pc0 := 105) (pc' := 55) rfl (hb hby own_d17_105) (by decide) (by decide) ht) ?_
                  exact ih _ _ _ _ _ _ X158 N158 (by rw [e158]; exact K158) (by rw [e158]; exact f158_0) (by rw [e158]; exact f158_1) (by rw [e158]; exact f158_2) (by rw [e158]; exact V158) hd5 hdM (own_subI hi6' rfl (by omega) (by omega)) (by omega) (by rw [List.length_set]; exact hzl) (by rw [own_gset (xs := zs) (i := M - 1 - t) (by omega), if_neg (by omega)]; exact hz0)
                ·
                  refine own_step (U' := (Ts.setTop (mkF m 102 #[.val (.ref a1), .val (.int mm), .val (.ref b146), .val (.ref b148), .val (.ref r_150), .val (.int d5), .val (.int i6)] []))) (fun t ht => XS.ifYes Xs.here hx rfl (pc0 := 87) (pc' := 102) rfl (hb hby own_d17_87) rfl (XT.i0_ne_t hc87_157) (by decide) (by decide) ht) ?_
                  refine own_step (U' := (Ts.setTop (mkF m 105 #[.val (.ref a1), .val (.int mm), .val (.ref b146), .val (.ref b148), .val (.ref r_150), .val (.int d5), .val (.int (i6 + (-1 : Int32)))] []))) (fun t ht => XT.iincV Xs.here hx rfl (-1 : Int32) (hb hby own_d17_102) rfl rfl (l' := #[.val (.ref a1), .val (.int mm), .val (.ref b146), .val (.ref b148), .val (.ref r_150), .val (.int d5), .val (.int (i6 + (-1 : Int32)))]) rfl ht) ?_
                  refine own_step (U' := (Ts.setTop (mkF m 55 #[.val (.ref a1), .val (.int mm), .val (.ref b146), .val (.ref b148), .val (.ref r_150), .val (.int d5), .val (.int (i6 + (-1 : Int32)))] []))) (fun t ht => XS.goto Xs.here hx rfl (pc0 := 105) (pc' := 55) rfl (hb hby own_d17_105) (by decide) (by decide) ht) ?_
                  exact ih _ _ _ _ _ _ Xs Ns Ks fs0 fs1 fs2 fs3 hd5 hdM (own_subI hi6' rfl (by omega) (by omega)) (by omega) hzl hz0
          exact inner b _ hb5 hbM
      exact loopS (M - 1) f0 _ _ _ _ _ X153 N153 (by rw [e153]; exact K153) (by rw [e153]; exact f153_0) (by rw [e153]; exact f153_1) (by rw [e153]; exact f153_2) (by rw [e153]; exact V153) hf0 (by omega) (own_subI (own_pre1 hm h1 h8) (by omega) (by omega) (by omega)) (by omega) (by rw [List.length_set]; exact p150_1) (by rw [own_gset (xs := ts_150) (i := 0) (by omega), if_pos rfl]; exact hsh)
    | succ k ih =>
      intro i i3 xs Tr Lr Xr Nr Kr fr0 fr1 hi3 hxl hr hik
      refine own_step (U' := (Tr.setTop (mkF m 10 #[.val (.ref a1), .val (.int mm), .val (.ref b146), .val (.int i3), .unset, .unset, .unset] [(.int i3)]))) (fun t ht => XS.iloadN Xr.here hx rfl (hb hby own_d17_9) rfl ht) ?_
      refine own_step (U' := (Tr.setTop (mkF m 11 #[.val (.ref a1), .val (.int mm), .val (.ref b146), .val (.int i3), .unset, .unset, .unset] [(.int mm), (.int i3)]))) (fun t ht => XS.iloadN Xr.here hx rfl (hb hby own_d17_10) rfl ht) ?_
      refine own_step (U' := (Tr.setTop (mkF m 14 #[.val (.ref a1), .val (.int mm), .val (.ref b146), .val (.int i3), .unset, .unset, .unset] []))) (fun t ht => XS.icmpNo Xr.here hx rfl (hb hby own_d17_11) rfl (XT.ii_ge_f (((own_lti hi3 hm).mpr (by omega)) : i3 < mm)) ht) ?_
      refine own_step (U' := (Tr.setTop (mkF m 15 #[.val (.ref a1), .val (.int mm), .val (.ref b146), .val (.int i3), .unset, .unset, .unset] [(.ref b146)]))) (fun t ht => XS.aloadN Xr.here hx rfl (hb hby own_d17_14) rfl rfl ht) ?_
      refine own_step (U' := (Tr.setTop (mkF m 16 #[.val (.ref a1), .val (.int mm), .val (.ref b146), .val (.int i3), .unset, .unset, .unset] [(.int i3), (.ref b146)]))) (fun t ht => XS.iloadN Xr.here hx rfl (hb hby own_d17_15) rfl ht) ?_
      refine own_step (U' := (Tr.setTop (mkF m 17 #[.val (.ref a1), .val (.int mm), .val (.ref b146), .val (.int i3), .unset, .unset, .unset] [(.ref a1), (.int i3), (.ref b146)]))) (fun t ht => XS.aloadN Xr.here hx rfl (hb hby own_d17_16) rfl rfl ht) ?_
      refine own_step (U' := (Tr.setTop (mkF m 18 #[.val (.ref a1), .val (.int mm), .val (.ref b146), .val (.int i3), .unset, .unset, .unset] [(.int mm), (.ref a1), (.int i3), (.ref b146)]))) (fun t ht => XS.iloadN Xr.here hx rfl (hb hby own_d17_17) rfl ht) ?_
      refine own_step (U' := (Tr.setTop (mkF m 19 #[.val (.ref a1), .val (.int mm), .val (.ref b146), .val (.int i3), .unset, .unset, .unset] [(.int (1 : Int32)), (.int mm), (.ref a1), (.int i3), (.ref b146)]))) (fun t ht => XS.iconst Xr.here hx rfl (hb hby own_d17_18) ht) ?_
      refine own_step (U' := (Tr.setTop (mkF m 20 #[.val (.ref a1), .val (.int mm), .val (.ref b146), .val (.int i3), .unset, .unset, .unset] [(.int (mm - (1 : Int32))), (.ref a1), (.int i3), (.ref b146)]))) (fun t ht => XS.isub Xr.here hx rfl (hb hby own_d17_19) rfl ht) ?_
      refine own_step (U' := (Tr.setTop (mkF m 21 #[.val (.ref a1), .val (.int mm), .val (.ref b146), .val (.int i3), .unset, .unset, .unset] [(.int i3), (.int (mm - (1 : Int32))), (.ref a1), (.int i3), (.ref b146)]))) (fun t ht => XS.iloadN Xr.here hx rfl (hb hby own_d17_20) rfl ht) ?_
      refine own_step (U' := (Tr.setTop (mkF m 22 #[.val (.ref a1), .val (.int mm), .val (.ref b146), .val (.int i3), .unset, .unset, .unset] [(.int ((mm - (1 : Int32)) - i3)), (.ref a1), (.int i3), (.ref b146)]))) (fun t ht => XS.isub Xr.here hx rfl (hb hby own_d17_21) rfl ht) ?_
      obtain ⟨cl159, Ar159, q159, S159, N159_, H159, G159⟩ := (id fr0)
      have hin159 : ¬ (((mm - (1 : Int32)) - i3) < 0 ∨ cl159.slots.size ≤ (((mm - (1 : Int32)) - i3)).toNatClampNeg) := inb_of S159 (own_inN (own_ix1 hm hi3 (by omega) h8) hm (by omega))
      have hat159 : cl159.slots[(((mm - (1 : Int32)) - i3)).toNatClampNeg]? = some (.int (own_g cs ((mm - (1 : Int32)) - i3))) := Has.at H159 hin159 (own_ldI _ _)
      refine own_step (U' := (Tr.setTop (mkF m 23 #[.val (.ref a1), .val (.int mm), .val (.ref b146), .val (.int i3), .unset, .unset, .unset] [(.int (own_g cs ((mm - (1 : Int32)) - i3))), (.int i3), (.ref b146)]))) (fun t ht => Xr.caload hx (j := ((mm - (1 : Int32)) - i3)) (v := (.int (own_g cs ((mm - (1 : Int32)) - i3)))) (own_at rfl Ar159.1) (State.isArrayOf_alike hZ.alike Ar159.2.1) Ar159.2.2 hin159 hat159 (g := (mkF m 22 #[.val (.ref a1), .val (.int mm), .val (.ref b146), .val (.int i3), .unset, .unset, .unset] [(.int ((mm - (1 : Int32)) - i3)), (.ref a1), (.int i3), (.ref b146)])) rfl rfl (hb hby own_d17_22) _ ht) ?_
      obtain ⟨cl160, Ar160, q160, S160, N160_, H160, G160⟩ := (id fr1)
      have hin160 : ¬ (i3 < 0 ∨ cl160.slots.size ≤ (i3).toNatClampNeg) := inb_of S160 (own_inN hi3 hm (by omega))
      obtain ⟨T160, h160, X160, e160, W160, st160⟩ := stC Xr hx hZ rfl Ar160 (j := i3) hin160 (g := (mkF m 23 #[.val (.ref a1), .val (.int mm), .val (.ref b146), .val (.int i3), .unset, .unset, .unset] [(.int (own_g cs ((mm - (1 : Int32)) - i3))), (.int i3), (.ref b146)])) rfl rfl (hb hby own_d17_23)
      have f160_0 := fr0.other W160 ne_a1_b146
      have V160 : Arv Z h160 b146 k146 .char mm ((xs.set i ((own_g cs ((mm - (1 : Int32)) - i3)).toUInt32.toUInt16.toUInt32.toInt32)).map Value.int) (.int (0 : Int32)) := own_setV Ar160 q160 S160 N160_ H160 G160 (fits_nar_char _) W160 (i := i) hi3 (by omega)
      have N160 := Fr.snoc X160 Nr g_b146
      have K160 : Keep h0 h160 [] := Kr.wr W160 (Or.inr sz_b146)
      refine own_step (U' := (T160.setTop (mkF m 24 #[.val (.ref a1), .val (.int mm), .val (.ref b146), .val (.int i3), .unset, .unset, .unset] []))) (fun t ht => st160 _ ht) ?_
      refine own_step (U' := (T160.setTop (mkF m 27 #[.val (.ref a1), .val (.int mm), .val (.ref b146), .val (.int (i3 + (1 : Int32))), .unset, .unset, .unset] []))) (fun t ht => XT.iincV X160.here hx rfl (1 : Int32) (hb hby own_d17_24) rfl rfl (l' := #[.val (.ref a1), .val (.int mm), .val (.ref b146), .val (.int (i3 + (1 : Int32))), .unset, .unset, .unset]) rfl ht) ?_
      refine own_step (U' := (T160.setTop (mkF m 9 #[.val (.ref a1), .val (.int mm), .val (.ref b146), .val (.int (i3 + (1 : Int32))), .unset, .unset, .unset] []))) (fun t ht => XS.goto X160.here hx rfl (pc0 := 27) (pc' := 9) rfl (hb hby own_d17_27) (by decide) (by decide) ht) ?_
      exact ih (i + 1) _ _ _ _ X160 N160 (by rw [e160]; exact K160) (by rw [e160]; exact f160_0) (by rw [e160]; exact V160) (own_incN hi3 (by omega)) (by rw [List.length_set]; exact hxl) (own_rev hm h8 hi3 (by omega) hxl hch hr) (by omega)
  exact loopR M 0 _ _ _ _ X146 N0 (by rw [e146]; exact K146) (by rw [e146]; exact f146_0) (by rw [e146]; exact V146) rfl List.length_replicate (fun j hj => absurd hj (Nat.not_lt_zero j)) (by omega)
theorem own_d16_0 : decode prog_5_method_5_code 0 = .ok (.aload_n 0, 1) := by decide +kernel
theorem own_d16_1 : decode prog_5_method_5_code 1 = .ok (.getfield 35, 3) := by decide +kernel
theorem own_d16_4 : decode prog_5_method_5_code 4 = .ok (.astore_n 2, 1) := by decide +kernel
theorem own_d16_5 : decode prog_5_method_5_code 5 = .ok (.aload_n 2, 1) := by decide +kernel
theorem own_d16_6 : decode prog_5_method_5_code 6 = .ok (.ifnonnull 54, 3) := by decide +kernel
theorem own_d16_9 : decode prog_5_method_5_code 9 = .ok (.iload_n 1, 1) := by decide +kernel
theorem own_d16_10 : decode prog_5_method_5_code 10 = .ok (.ifCond .le 50, 3) := by decide +kernel
theorem own_d16_13 : decode prog_5_method_5_code 13 = .ok (.aload_n 0, 1) := by decide +kernel
theorem own_d16_14 : decode prog_5_method_5_code 14 = .ok (.aload_n 0, 1) := by decide +kernel
theorem own_d16_15 : decode prog_5_method_5_code 15 = .ok (.getfield 55, 3) := by decide +kernel
theorem own_d16_18 : decode prog_5_method_5_code 18 = .ok (.i2l, 1) := by decide +kernel
theorem own_d16_19 : decode prog_5_method_5_code 19 = .ok (.ldc2_w 58, 3) := by decide +kernel
theorem own_d16_22 : decode prog_5_method_5_code 22 = .ok (.ladd, 1) := by decide +kernel
theorem own_d16_23 : decode prog_5_method_5_code 23 = .ok (.iload_n 1, 1) := by decide +kernel
theorem own_d16_24 : decode prog_5_method_5_code 24 = .ok (.i2l, 1) := by decide +kernel
theorem own_d16_25 : decode prog_5_method_5_code 25 = .ok (.ladd, 1) := by decide +kernel
theorem own_d16_26 : decode prog_5_method_5_code 26 = .ok (.ldc2_w 17, 3) := by decide +kernel
theorem own_d16_29 : decode prog_5_method_5_code 29 = .ok (.invokestatic 19, 3) := by decide +kernel
theorem own_d16_32 : decode prog_5_method_5_code 32 = .ok (.l2i, 1) := by decide +kernel
theorem own_d16_33 : decode prog_5_method_5_code 33 = .ok (.putfield 55, 3) := by decide +kernel
theorem own_d16_36 : decode prog_5_method_5_code 36 = .ok (.aload_n 0, 1) := by decide +kernel
theorem own_d16_37 : decode prog_5_method_5_code 37 = .ok (.getfield 55, 3) := by decide +kernel
theorem own_d16_40 : decode prog_5_method_5_code 40 = .ok (.aload_n 0, 1) := by decide +kernel
theorem own_d16_41 : decode prog_5_method_5_code 41 = .ok (.getfield 25, 3) := by decide +kernel
theorem own_d16_44 : decode prog_5_method_5_code 44 = .ok (.if_icmp .lt 16, 3) := by decide +kernel
theorem own_d16_60 : decode prog_5_method_5_code 60 = .ok (.aload_n 2, 1) := by decide +kernel
theorem own_d16_61 : decode prog_5_method_5_code 61 = .ok (.areturn, 1) := by decide +kernel
def own_Q_tabN (Z : State) (a1 : Addr) (p1 : Int32) (b1 : Addr) (bu : Int32) (se : Int32) (h0 : Heap) (n0 : Nat) (v : Option Value) (h : Heap) (L : List Loc) : Prop := v = some .null ∧ Fr n0 L ∧ Keep h0 h [a1] ∧ (Fld Z h a1 "com/example/skip2/skip2/boyermoore/BoyerMooreSearcher" "pattern" "[C" (.ref b1)) ∧ (Fld Z h a1 "com/example/skip2/skip2/boyermoore/BoyerMooreSearcher" "budget" "I" (.int bu)) ∧ (Fld Z h a1 "com/example/skip2/skip2/boyermoore/BoyerMooreSearcher" "goodSuffixShift" "[I" .null) ∧ (Fld Z h a1 "com/example/skip2/skip2/boyermoore/BoyerMooreSearcher" "spent" "I" (.int (own_spn se p1))) ∧ (Exa Z h a1 "com/example/skip2/skip2/boyermoore/BoyerMooreSearcher")
set_option maxRecDepth 65536 in
set_option maxHeartbeats 40000000 in
theorem own_m_tabN (l : Launch) (Z : State) (a0 : Array Value) (hw : ∀ d ∈ tables_1, d.before a0 Z = true) (ws : List Jvm.Cond) (a1 : Addr) (p1 : Int32) (b1 : Addr) (bu : Int32) (se : Int32) (h0 : Heap) (n0 : Nat) (Z0 : n0 ≤ h0.size) (g_a1 : n0 ≤ a1) (b6_ : Fld Z h0 a1 "com/example/skip2/skip2/boyermoore/BoyerMooreSearcher" "pattern" "[C" (.ref b1)) (b7_ : Fld Z h0 a1 "com/example/skip2/skip2/boyermoore/BoyerMooreSearcher" "budget" "I" (.int bu)) (b8_ : Fld Z h0 a1 "com/example/skip2/skip2/boyermoore/BoyerMooreSearcher" "goodSuffixShift" "[I" .null) (b9_ : Fld Z h0 a1 "com/example/skip2/skip2/boyermoore/BoyerMooreSearcher" "spent" "I" (.int se)) (Eb : Exa Z h0 a1 "com/example/skip2/skip2/boyermoore/BoyerMooreSearcher") (hp1 : 0 < p1) (hlt : own_spn se p1 < bu) :
    MetFree l (⟨"com/example/skip2/skip2/boyermoore/BoyerMooreSearcher", "table", "(I)[I"⟩ : MethodName) (head1 (Jvm.Cond.code (⟨"com/example/skip2/skip2/boyermoore/BoyerMooreSearcher", "table", "(I)[I"⟩ : MethodName) prog_5_method_5_code 3 (some (.array .int)) :: ws) ({ frames := 1, cells := 0, slots := 0, locals := 16 } : Room)) (fun a U => a = #[(.ref a1), (.int p1)] ∧ Z.Warmed39 U.vm ∧ U.heap = h0) (fun _ _ _ _ _ => True) (fun _ U o U' => ∃ v L, o = .returned v ∧ own_Q_tabN Z a1 p1 b1 bu se h0 n0 v U'.heap L ∧ FrameEnd U o U' L ({ frames := 1, cells := 0, slots := 0, locals := 16 } : Room).cells ({ frames := 1, cells := 0, slots := 0, locals := 16 } : Room).slots) := by
  refine MetFree.of_bodySF (plainFor_of_name own_pn7) hisR ?_
  intro p e s m args below meth c s₁ Bd hml0 hP hK
  obtain ⟨rfl, hZ, hh⟩ := hP
  have hx := Bd.exec
  have hby := Bd.bytes
  have hml : c.maxLocals = 3 := hml0
  have hown : s.vm.findClass "com/example/skip2/skip2/boyermoore/BoyerMooreSearcher" = some m.cls := findClass_of_methodNamed Bd.named
  have hnm := (name_of_methodNamed Bd.named Bd.method).1
  have X0 : Stand p l e ({ frames := 1, cells := 0, slots := 0, locals := 16 } : Room) s m #[(.ref a1), (.int p1)] below meth c s₁ [] 0 0 := Stand.of_body Bd
  have e0 : s₁.heap = h0 := by rw [← hh, Bd.state]; rfl
  have N0 := Fr.nil n0
  have K0 : Keep h0 h0 [a1] := Keep.refl _ _
  show own_Go p e below s ({ frames := 1, cells := 0, slots := 0, locals := 16 } : Room).cells ({ frames := 1, cells := 0, slots := 0, locals := 16 } : Room).slots (own_Q_tabN Z a1 p1 b1 bu se h0 n0) (s₁.setTop (entryFrame m #[(.ref a1), (.int p1)] 3))
  have ef : entryFrame m #[(.ref a1), (.int p1)] 3 = (mkF m 0 #[.val (.ref a1), .val (.int p1), .unset] []) := by first | (simp [entryFrame, mkF, argsToLocals, Value.category, maxLocals]; done) | rfl
  rw [ef]
  show own_Go p e below s _ _ _ (s₁.setTop (mkF m 0 #[.val (.ref a1), .val (.int p1), .unset] []))
  refine own_step (U' := (s₁.setTop (mkF m 1 #[.val (.ref a1), .val (.int p1), .unset] [(.ref a1)]))) (fun t ht => XS.aloadN X0.here hx rfl (hb hby own_d16_0) rfl rfl ht) ?_
  obtain ⟨T161, X161, e161, st161⟩ := getF X0 hx hZ hown (host := "") (Or.inl (hw _ (List.mem_of_getElem? (i := 92) rfl))) Via.refl e0 b8_ (g := (mkF m 1 #[.val (.ref a1), .val (.int p1), .unset] [(.ref a1)])) rfl rfl (hb hby own_d16_1)
  refine own_step (U' := (T161.setTop (mkF m 4 #[.val (.ref a1), .val (.int p1), .unset] [.null]))) (fun t ht => st161 _ ht) ?_
  refine own_step (U' := (T161.setTop (mkF m 5 #[.val (.ref a1), .val (.int p1), .val .null] []))) (fun t ht => XS.astoreN X161.here hx rfl (hb hby own_d16_4) rfl rfl (l' := #[.val (.ref a1), .val (.int p1), .val .null]) rfl ht) ?_
  refine own_step (U' := (T161.setTop (mkF m 6 #[.val (.ref a1), .val (.int p1), .val .null] [.null]))) (fun t ht => XS.aloadN X161.here hx rfl (hb hby own_d16_5) rfl rfl ht) ?_
  refine own_step (U' := (T161.setTop (mkF m 9 #[.val (.ref a1), .val (.int p1), .val .null] []))) (fun t ht => XT.nonnullNo X161.here hx rfl (hb hby own_d16_6) rfl rfl ht) ?_
  refine own_step (U' := (T161.setTop (mkF m 10 #[.val (.ref a1), .val (.int p1), .val .null] [(.int p1)]))) (fun t ht => XS.iloadN X161.here hx rfl (hb hby own_d16_9) rfl ht) ?_
  refine own_step (U' := (T161.setTop (mkF m 13 #[.val (.ref a1), .val (.int p1), .val .null] []))) (fun t ht => XS.ifNo X161.here hx rfl (hb hby own_d16_10) rfl (XT.i0_le_f (hp1 : 0 < p1)) ht) ?_
  refine own_step (U' := (T161.setTop (mkF m 14 #[.val (.ref a1), .val (.int p1), .val .null] [(.ref a1)]))) (fun t ht => XS.aloadN X161.here hx rfl (hb hby own_d16_13) rfl rfl ht) ?_
  refine own_step (U' := (T161.setTop (mkF m 15 #[.val (.ref a1), .val (.int p1), .val .null] [(.ref a1), (.ref a1)]))) (fun t ht => XS.aloadN X161.here hx rfl (hb hby own_d16_14) rfl rfl ht) ?_
  obtain ⟨T162, X162, e162, st162⟩ := getF X161 hx hZ hown (host := "") (Or.inl (hw _ (List.mem_of_getElem? (i := 104) rfl))) Via.refl e161 b9_ (g := (mkF m 15 #[.val (.ref a1), .val (.int p1), .val .null] [(.ref a1), (.ref a1)])) rfl rfl (hb hby own_d16_15)
  refine own_step (U' := (T162.setTop (mkF m 18 #[.val (.ref a1), .val (.int p1), .val .null] [(.int se), (.ref a1)]))) (fun t ht => st162 _ ht) ?_
  refine own_step (U' := (T162.setTop (mkF m 19 #[.val (.ref a1), .val (.int p1), .val .null] [(.long (se.toInt64)), (.ref a1)]))) (fun t ht => XT.i2l X162.here hx rfl (hb hby own_d16_18) rfl ht) ?_
  refine own_step (U' := (T162.setTop (mkF m 22 #[.val (.ref a1), .val (.int p1), .val .null] [(.long (8 : Int64)), (.long (se.toInt64)), (.ref a1)]))) (fun t ht => X162.ldc2Long hx hown (mvT hZ (hw _ (List.mem_of_getElem? (i := 106) rfl))) (g := (mkF m 19 #[.val (.ref a1), .val (.int p1), .val .null] [(.long (se.toInt64)), (.ref a1)])) rfl (hb hby own_d16_19) _ ht) ?_
  refine own_step (U' := (T162.setTop (mkF m 23 #[.val (.ref a1), .val (.int p1), .val .null] [(.long ((se.toInt64) + (8 : Int64))), (.ref a1)]))) (fun t ht => XT.ladd X162.here hx rfl (hb hby own_d16_22) rfl ht) ?_
  refine own_step (U' := (T162.setTop (mkF m 24 #[.val (.ref a1), .val (.int p1), .val .null] [(.int p1), (.long ((se.toInt64) + (8 : Int64))), (.ref a1)]))) (fun t ht => XS.iloadN X162.here hx rfl (hb hby own_d16_23) rfl ht) ?_
  refine own_step (U' := (T162.setTop (mkF m 25 #[.val (.ref a1), .val (.int p1), .val .null] [(.long (p1.toInt64)), (.long ((se.toInt64) + (8 : Int64))), (.ref a1)]))) (fun t ht => XT.i2l X162.here hx rfl (hb hby own_d16_24) rfl ht) ?_
  refine own_step (U' := (T162.setTop (mkF m 26 #[.val (.ref a1), .val (.int p1), .val .null] [(.long (((se.toInt64) + (8 : Int64)) + (p1.toInt64))), (.ref a1)]))) (fun t ht => XT.ladd X162.here hx rfl (hb hby own_d16_25) rfl ht) ?_
  refine own_step (U' := (T162.setTop (mkF m 29 #[.val (.ref a1), .val (.int p1), .val .null] [(.long (2147483647 : Int64)), (.long (((se.toInt64) + (8 : Int64)) + (p1.toInt64))), (.ref a1)]))) (fun t ht => X162.ldc2Long hx hown (mvT hZ (hw _ (List.mem_of_getElem? (i := 81) rfl))) (g := (mkF m 26 #[.val (.ref a1), .val (.int p1), .val .null] [(.long (((se.toInt64) + (8 : Int64)) + (p1.toInt64))), (.ref a1)])) rfl (hb hby own_d16_26) _ ht) ?_
  obtain ⟨_, _, ⟨T163, L163, k163, n163⟩, -, X163, ⟨Lc163, hQ163, l163, y163, z163⟩, st163⟩ := Jvm.LawKit.callS X162 hx (y := (⟨"java/lang/Math", "min", "(JJ)J"⟩ : MethodName)) hown (mvT hZ (hw _ (List.mem_of_getElem? (i := 82) rfl))) (mvT hZ (hw _ (List.mem_of_getElem? (i := 83) rfl))) (mvT hZ (hw _ (List.mem_of_getElem? (i := 49) rfl))) (mvT hZ (hw _ (List.mem_of_getElem? (i := 84) rfl))) (by decide) (backOf (W := 1) (own_m_minJ l Z a0 hw [] ((((se.toInt64) + (8 : Int64)) + (p1.toInt64))) ((2147483647 : Int64)) h0 n0 Z0 ) hZ (hw _ (List.mem_of_getElem? (i := 84) rfl)) (hw _ (List.mem_of_getElem? (i := 49) rfl)) (by decide) (by decide)) (g := (mkF m 29 #[.val (.ref a1), .val (.int p1), .val .null] [(.long (2147483647 : Int64)), (.long (((se.toInt64) + (8 : Int64)) + (p1.toInt64))), (.ref a1)])) rfl (by rw [hml]; rfl) (argsL := [(.long (((se.toInt64) + (8 : Int64)) + (p1.toInt64))), (.long (2147483647 : Int64))]) (rest := [(.ref a1)]) (lenOf own_pd8 rfl) rfl (by show 2 * 0 + _ ≤ _; exact Nat.le_of_eq rfl) (hb hby own_d16_29) (fun _ _ => ⟨rfl, e162, (by decide : 0 + 0 ≤ _), (by decide : 0 + 0 ≤ _)⟩)
  dsimp only [Pt.U, Pt.locs, Pt.cells, Pt.slots] at X163 l163 y163 z163 st163 hQ163
  subst l163 y163 z163
  obtain ⟨rfl, Nq163, Kq163⟩ := hQ163
  have N163 := Fr.app N0 Nq163
  have e163 : T163.heap = h0 := Kq163
  refine own_step (U' := (T163.setTop (mkF m 32 #[.val (.ref a1), .val (.int p1), .val .null] [(.long (own_minJ (((se.toInt64) + (8 : Int64)) + (p1.toInt64)) (2147483647 : Int64))), (.ref a1)]))) (fun t ht => st163 _ ht) ?_
  refine own_step (U' := (T163.setTop (mkF m 33 #[.val (.ref a1), .val (.int p1), .val .null] [(.int ((own_minJ (((se.toInt64) + (8 : Int64)) + (p1.toInt64)) (2147483647 : Int64)).toInt32)), (.ref a1)]))) (fun t ht => XT.l2i X163.here hx rfl (hb hby own_d16_32) rfl ht) ?_
  obtain ⟨T164, h164, X164, e164, W164, st164⟩ := putF X163 hx hZ hown (host := "") (Or.inl (hw _ (List.mem_of_getElem? (i := 104) rfl))) Via.refl e163 b9_ Eb (Or.inl (hw _ (List.mem_of_getElem? (i := 105) rfl))) (hw _ (List.mem_of_getElem? (i := 12) rfl)) (ty := .int) (by decide) rfl rfl (g := (mkF m 33 #[.val (.ref a1), .val (.int p1), .val .null] [(.int ((own_minJ (((se.toInt64) + (8 : Int64)) + (p1.toInt64)) (2147483647 : Int64)).toInt32)), (.ref a1)])) rfl rfl (hb hby own_d16_33)
  have f164_0 := b6_.other W164 (Or.inr (slot_ne (Or.inr (hw _ (List.mem_of_getElem? (i := 79) rfl))) (Or.inl (hw _ (List.mem_of_getElem? (i := 105) rfl))) (by decide) (t := (.array .char)) (t' := .int) (by decide) (by decide)))
  have f164_1 := b7_.other W164 (Or.inr (slot_ne (Or.inr (hw _ (List.mem_of_getElem? (i := 86) rfl))) (Or.inl (hw _ (List.mem_of_getElem? (i := 105) rfl))) (by decide) (t := .int) (t' := .int) (by decide) (by decide)))
  have f164_2 := b8_.other W164 (Or.inr (slot_ne (Or.inl (hw _ (List.mem_of_getElem? (i := 93) rfl))) (Or.inl (hw _ (List.mem_of_getElem? (i := 105) rfl))) (by decide) (t := (.array .int)) (t' := .int) (by decide) (by decide)))
  have f164_4 := Eb.wr W164
  have F164 := b9_.same W164
  have N164 := Fr.snoc X164 N163 g_a1
  have K164 : Keep h0 h164 [a1] := K0.wr W164 (Or.inl (by simp))
  refine own_step (U' := (T164.setTop (mkF m 36 #[.val (.ref a1), .val (.int p1), .val .null] []))) (fun t ht => st164 _ ht) ?_
  refine own_step (U' := (T164.setTop (mkF m 37 #[.val (.ref a1), .val (.int p1), .val .null] [(.ref a1)]))) (fun t ht => XS.aloadN X164.here hx rfl (hb hby own_d16_36) rfl rfl ht) ?_
  obtain ⟨T165, X165, e165, st165⟩ := getF X164 hx hZ hown (host := "") (Or.inl (hw _ (List.mem_of_getElem? (i := 104) rfl))) Via.refl e164 F164 (g := (mkF m 37 #[.val (.ref a1), .val (.int p1), .val .null] [(.ref a1)])) rfl rfl (hb hby own_d16_37)
  refine own_step (U' := (T165.setTop (mkF m 40 #[.val (.ref a1), .val (.int p1), .val .null] [(.int ((own_minJ (((se.toInt64) + (8 : Int64)) + (p1.toInt64)) (2147483647 : Int64)).toInt32))]))) (fun t ht => st165 _ ht) ?_
  refine own_step (U' := (T165.setTop (mkF m 41 #[.val (.ref a1), .val (.int p1), .val .null] [(.ref a1), (.int ((own_minJ (((se.toInt64) + (8 : Int64)) + (p1.toInt64)) (2147483647 : Int64)).toInt32))]))) (fun t ht => XS.aloadN X165.here hx rfl (hb hby own_d16_40) rfl rfl ht) ?_
  obtain ⟨T166, X166, e166, st166⟩ := getF X165 hx hZ hown (host := "") (Or.inl (hw _ (List.mem_of_getElem? (i := 85) rfl))) Via.refl e165 f164_1 (g := (mkF m 41 #[.val (.ref a1), .val (.int p1), .val .null] [(.ref a1), (.int ((own_minJ (((se.toInt64) + (8 : Int64)) + (p1.toInt64)) (2147483647 : Int64)).toInt32))])) rfl rfl (hb hby own_d16_41)
  refine own_step (U' := (T166.setTop (mkF m 44 #[.val (.ref a1), .val (.int p1), .val .null] [(.int bu), (.int ((own_minJ (((se.toInt64) + (8 : Int64)) + (p1.toInt64)) (2147483647 : Int64)).toInt32))]))) (fun t ht => st166 _ ht) ?_
  refine own_step (U' := (T166.setTop (mkF m 60 #[.val (.ref a1), .val (.int p1), .val .null] []))) (fun t ht => XS.icmpYes X166.here hx rfl (pc0 := 44) (pc' := 60) rfl (hb hby own_d16_44) rfl (XT.ii_lt_t (hlt : ((own_minJ (((se.toInt64) + (8 : Int64)) + (p1.toInt64)) (2147483647 : Int64)).toInt32) < bu)) (by decide) (by decide) ht) ?_
  refine own_step (U' := (T166.setTop (mkF m 61 #[.val (.ref a1), .val (.int p1), .val .null] [.null]))) (fun t ht => XS.aloadN X166.here hx rfl (hb hby own_d16_60) rfl rfl ht) ?_
  refine own_ret X166 (v := (some .null)) (fun h => by rw [Bd.returns] at h; cases h) Bd.notSynchronized (by decide) (by decide) ?_ (fun fs hr => retOut X166 hx Bd.returns (own_narR rfl) (Or.inr (Or.inr (Or.inr (Or.inr ⟨rfl, rfl, rfl⟩)))) (hb hby own_d16_61) hr)
  show own_Q_tabN Z a1 p1 b1 bu se h0 n0 _ T166.heap _
  rw [e166]
  exact ⟨rfl, N164, K164, f164_0, f164_1, f164_2, F164, f164_4⟩
theorem own_pd12 : parseMethodDescriptor "([C)[I" = some ⟨[(.array .char)], some (.array .int)⟩ := by decide +kernel
theorem own_d16_47 : decode prog_5_method_5_code 47 = .ok (.aload_n 0, 1) := by decide +kernel
theorem own_d16_48 : decode prog_5_method_5_code 48 = .ok (.getfield 7, 3) := by decide +kernel
theorem own_d16_51 : decode prog_5_method_5_code 51 = .ok (.invokestatic 60, 3) := by decide +kernel
theorem own_d16_54 : decode prog_5_method_5_code 54 = .ok (.astore_n 2, 1) := by decide +kernel
theorem own_d16_55 : decode prog_5_method_5_code 55 = .ok (.aload_n 0, 1) := by decide +kernel
theorem own_d16_56 : decode prog_5_method_5_code 56 = .ok (.aload_n 2, 1) := by decide +kernel
theorem own_d16_57 : decode prog_5_method_5_code 57 = .ok (.putfield 35, 3) := by decide +kernel
def own_Q_tabB (Z : State) (a1 : Addr) (p1 : Int32) (b1 : Addr) (bu : Int32) (se : Int32) (ka : ClassId) (cs : List Int32) (mm : Int32) (M : Nat) (h0 : Heap) (n0 : Nat) (v : Option Value) (h : Heap) (L : List Loc) : Prop := ∃ (r : Addr) (kr : ClassId) (ys : List Int32), v = some (.ref r) ∧ Fr n0 L ∧ Keep h0 h [a1] ∧ h0.size ≤ r ∧ ys.length = M ∧ own_g ys (0 : Int32) = own_sp cs mm ∧ (Arv Z h r kr .int mm (ys.map Value.int) (.int (0 : Int32))) ∧ (Fld Z h a1 "com/example/skip2/skip2/boyermoore/BoyerMooreSearcher" "pattern" "[C" (.ref b1)) ∧ (Fld Z h a1 "com/example/skip2/skip2/boyermoore/BoyerMooreSearcher" "budget" "I" (.int bu)) ∧ (Fld Z h a1 "com/example/skip2/skip2/boyermoore/BoyerMooreSearcher" "goodSuffixShift" "[I" (.ref r)) ∧ (Fld Z h a1 "com/example/skip2/skip2/boyermoore/BoyerMooreSearcher" "spent" "I" (.int (own_spn se p1))) ∧ (Exa Z h a1 "com/example/skip2/skip2/boyermoore/BoyerMooreSearcher")
set_option maxRecDepth 65536 in
set_option maxHeartbeats 40000000 in
theorem own_m_tabB (l : Launch) (Z : State) (a0 : Array Value) (hw : ∀ d ∈ tables_1, d.before a0 Z = true) (ws : List Jvm.Cond) (a1 : Addr) (p1 : Int32) (b1 : Addr) (bu : Int32) (se : Int32) (ka : ClassId) (cs : List Int32) (mm : Int32) (M : Nat) (h0 : Heap) (n0 : Nat) (Z0 : n0 ≤ h0.size) (g_a1 : n0 ≤ a1) (ne_b1_a1 : b1 ≠ a1) (b6_ : Fld Z h0 a1 "com/example/skip2/skip2/boyermoore/BoyerMooreSearcher" "pattern" "[C" (.ref b1)) (b7_ : Fld Z h0 a1 "com/example/skip2/skip2/boyermoore/BoyerMooreSearcher" "budget" "I" (.int bu)) (b8_ : Fld Z h0 a1 "com/example/skip2/skip2/boyermoore/BoyerMooreSearcher" "goodSuffixShift" "[I" .null) (b9_ : Fld Z h0 a1 "com/example/skip2/skip2/boyermoore/BoyerMooreSearcher" "spent" "I" (.int se)) (Eb : Exa Z h0 a1 "com/example/skip2/skip2/boyermoore/BoyerMooreSearcher") (Va : Arv Z h0 b1 ka .char mm (cs.map Value.int) (.int (0 : Int32))) (hp1 : 0 < p1) (hlt : ¬ own_spn se p1 < bu) (hm : mm.toInt = (M : Int)) (h1 : 1 ≤ M) (h8 : M ≤ 8) (hcl : cs.length = M) (hch : ∀ c ∈ cs, own_ch c = c) :
    MetFree l (⟨"com/example/skip2/skip2/boyermoore/BoyerMooreSearcher", "table", "(I)[I"⟩ : MethodName) (head1 (Jvm.Cond.code (⟨"com/example/skip2/skip2/boyermoore/BoyerMooreSearcher", "table", "(I)[I"⟩ : MethodName) prog_5_method_5_code 3 (some (.array .int)) :: ws) ({ frames := 4, cells := 4, slots := 26, locals := 3093 } : Room)) (fun a U => a = #[(.ref a1), (.int p1)] ∧ Z.Warmed39 U.vm ∧ U.heap = h0 ∧ Z.WarmedH U.vm) (fun _ _ _ _ _ => True) (fun _ U o U' => ∃ v L, o = .returned v ∧ own_Q_tabB Z a1 p1 b1 bu se ka cs mm M h0 n0 v U'.heap L ∧ FrameEnd U o U' L ({ frames := 4, cells := 4, slots := 26, locals := 3093 } : Room).cells ({ frames := 4, cells := 4, slots := 26, locals := 3093 } : Room).slots) := by
  refine MetFree.of_bodySF (plainFor_of_name own_pn7) hisR ?_
  intro p e s m args below meth c s₁ Bd hml0 hP hK
  obtain ⟨rfl, hZ, hh, hkv⟩ := hP
  have hx := Bd.exec
  have hby := Bd.bytes
  have hml : c.maxLocals = 3 := hml0
  have hown : s.vm.findClass "com/example/skip2/skip2/boyermoore/BoyerMooreSearcher" = some m.cls := findClass_of_methodNamed Bd.named
  have hnm := (name_of_methodNamed Bd.named Bd.method).1
  have X0 : Stand p l e ({ frames := 4, cells := 4, slots := 26, locals := 3093 } : Room) s m #[(.ref a1), (.int p1)] below meth c s₁ [] 0 0 := Stand.of_body Bd
  have e0 : s₁.heap = h0 := by rw [← hh, Bd.state]; rfl
  have N0 := Fr.nil n0
  have K0 : Keep h0 h0 [a1] := Keep.refl _ _
  show own_Go p e below s ({ frames := 4, cells := 4, slots := 26, locals := 3093 } : Room).cells ({ frames := 4, cells := 4, slots := 26, locals := 3093 } : Room).slots (own_Q_tabB Z a1 p1 b1 bu se ka cs mm M h0 n0) (s₁.setTop (entryFrame m #[(.ref a1), (.int p1)] 3))
  have ef : entryFrame m #[(.ref a1), (.int p1)] 3 = (mkF m 0 #[.val (.ref a1), .val (.int p1), .unset] []) := by first | (simp [entryFrame, mkF, argsToLocals, Value.category, maxLocals]; done) | rfl
  rw [ef]
  show own_Go p e below s _ _ _ (s₁.setTop (mkF m 0 #[.val (.ref a1), .val (.int p1), .unset] []))
  refine own_step (U' := (s₁.setTop (mkF m 1 #[.val (.ref a1), .val (.int p1), .unset] [(.ref a1)]))) (fun t ht => XS.aloadN X0.here hx rfl (hb hby own_d16_0) rfl rfl ht) ?_
  obtain ⟨T167, X167, e167, st167⟩ := getF X0 hx hZ hown (host := "") (Or.inl (hw _ (List.mem_of_getElem? (i := 92) rfl))) Via.refl e0 b8_ (g := (mkF m 1 #[.val (.ref a1), .val (.int p1), .unset] [(.ref a1)])) rfl rfl (hb hby own_d16_1)
  refine own_step (U' := (T167.setTop (mkF m 4 #[.val (.ref a1), .val (.int p1), .unset] [.null]))) (fun t ht => st167 _ ht) ?_
  refine own_step (U' := (T167.setTop (mkF m 5 #[.val (.ref a1), .val (.int p1), .val .null] []))) (fun t ht => XS.astoreN X167.here hx rfl (hb hby own_d16_4) rfl rfl (l' := #[.val (.ref a1), .val (.int p1), .val .null]) rfl ht) ?_
  refine own_step (U' := (T167.setTop (mkF m 6 #[.val (.ref a1), .val (.int p1), .val .null] [.null]))) (fun t ht => XS.aloadN X167.here hx rfl (hb hby own_d16_5) rfl rfl ht) ?_
  refine own_step (U' := (T167.setTop (mkF m 9 #[.val (.ref a1), .val (.int p1), .val .null] []))) (fun t ht => XT.nonnullNo X167.here hx rfl (hb hby own_d16_6) rfl rfl ht) ?_
  refine own_step (U' := (T167.setTop (mkF m 10 #[.val (.ref a1), .val (.int p1), .val .null] [(.int p1)]))) (fun t ht => XS.iloadN X167.here hx rfl (hb hby own_d16_9) rfl ht) ?_
  refine own_step (U' := (T167.setTop (mkF m 13 #[.val (.ref a1), .val (.int p1), .val .null] []))) (fun t ht => XS.ifNo X167.here hx rfl (hb hby own_d16_10) rfl (XT.i0_le_f (hp1 : 0 < p1)) ht) ?_
  refine own_step (U' := (T167.setTop (mkF m 14 #[.val (.ref a1), .val (.int p1), .val .null] [(.ref a1)]))) (fun t ht => XS.aloadN X167.here hx rfl (hb hby own_d16_13) rfl rfl ht) ?_
  refine own_step (U' := (T167.setTop (mkF m 15 #[.val (.ref a1), .val (.int p1), .val .null] [(.ref a1), (.ref a1)]))) (fun t ht => XS.aloadN X167.here hx rfl (hb hby own_d16_14) rfl rfl ht) ?_
  obtain ⟨T168, X168, e168, st168⟩ := getF X167 hx hZ hown (host := "") (Or.inl (hw _ (List.mem_of_getElem? (i := 104) rfl))) Via.refl e167 b9_ (g := (mkF m 15 #[.val (.ref a1), .val (.int p1), .val .null] [(.ref a1), (.ref a1)])) rfl rfl (hb hby own_d16_15)
  refine own_step (U' := (T168.setTop (mkF m 18 #[.val (.ref a1), .val (.int p1), .val .null] [(.int se), (.ref a1)]))) (fun t ht => st168 _ ht) ?_
  refine own_step (U' := (T168.setTop (mkF m 19 #[.val (.ref a1), .val (.int p1), .val .null] [(.long (se.toInt64)), (.ref a1)]))) (fun t ht => XT.i2l X168.here hx rfl (hb hby own_d16_18) rfl ht) ?_
  refine own_step (U' := (T168.setTop (mkF m 22 #[.val (.ref a1), .val (.int p1), .val .null] [(.long (8 : Int64)), (.long (se.toInt64)), (.ref a1)]))) (fun t ht => X168.ldc2Long hx hown (mvT hZ (hw _ (List.mem_of_getElem? (i := 106) rfl))) (g := (mkF m 19 #[.val (.ref a1), .val (.int p1), .val .null] [(.long (se.toInt64)), (.ref a1)])) rfl (hb hby own_d16_19) _ ht) ?_
  refine own_step (U' := (T168.setTop (mkF m 23 #[.val (.ref a1), .val (.int p1), .val .null] [(.long ((se.toInt64) + (8 : Int64))), (.ref a1)]))) (fun t ht => XT.ladd X168.here hx rfl (hb hby own_d16_22) rfl ht) ?_
  refine own_step (U' := (T168.setTop (mkF m 24 #[.val (.ref a1), .val (.int p1), .val .null] [(.int p1), (.long ((se.toInt64) + (8 : Int64))), (.ref a1)]))) (fun t ht => XS.iloadN X168.here hx rfl (hb hby own_d16_23) rfl ht) ?_
  refine own_step (U' := (T168.setTop (mkF m 25 #[.val (.ref a1), .val (.int p1), .val .null] [(.long (p1.toInt64)), (.long ((se.toInt64) + (8 : Int64))), (.ref a1)]))) (fun t ht => XT.i2l X168.here hx rfl (hb hby own_d16_24) rfl ht) ?_
  refine own_step (U' := (T168.setTop (mkF m 26 #[.val (.ref a1), .val (.int p1), .val .null] [(.long (((se.toInt64) + (8 : Int64)) + (p1.toInt64))), (.ref a1)]))) (fun t ht => XT.ladd X168.here hx rfl (hb hby own_d16_25) rfl ht) ?_
  refine own_step (U' := (T168.setTop (mkF m 29 #[.val (.ref a1), .val (.int p1), .val .null] [(.long (2147483647 : Int64)), (.long (((se.toInt64) + (8 : Int64)) + (p1.toInt64))), (.ref a1)]))) (fun t ht => X168.ldc2Long hx hown (mvT hZ (hw _ (List.mem_of_getElem? (i := 81) rfl))) (g := (mkF m 26 #[.val (.ref a1), .val (.int p1), .val .null] [(.long (((se.toInt64) + (8 : Int64)) + (p1.toInt64))), (.ref a1)])) rfl (hb hby own_d16_26) _ ht) ?_
  obtain ⟨_, _, ⟨T169, L169, k169, n169⟩, -, X169, ⟨Lc169, hQ169, l169, y169, z169⟩, st169⟩ := Jvm.LawKit.callS X168 hx (y := (⟨"java/lang/Math", "min", "(JJ)J"⟩ : MethodName)) hown (mvT hZ (hw _ (List.mem_of_getElem? (i := 82) rfl))) (mvT hZ (hw _ (List.mem_of_getElem? (i := 83) rfl))) (mvT hZ (hw _ (List.mem_of_getElem? (i := 49) rfl))) (mvT hZ (hw _ (List.mem_of_getElem? (i := 84) rfl))) (by decide) (backOf (W := 1) (own_m_minJ l Z a0 hw [] ((((se.toInt64) + (8 : Int64)) + (p1.toInt64))) ((2147483647 : Int64)) h0 n0 Z0 ) hZ (hw _ (List.mem_of_getElem? (i := 84) rfl)) (hw _ (List.mem_of_getElem? (i := 49) rfl)) (by decide) (by decide)) (g := (mkF m 29 #[.val (.ref a1), .val (.int p1), .val .null] [(.long (2147483647 : Int64)), (.long (((se.toInt64) + (8 : Int64)) + (p1.toInt64))), (.ref a1)])) rfl (by rw [hml]; rfl) (argsL := [(.long (((se.toInt64) + (8 : Int64)) + (p1.toInt64))), (.long (2147483647 : Int64))]) (rest := [(.ref a1)]) (lenOf own_pd8 rfl) rfl (by show 2 * 0 + _ ≤ _; exact Nat.le_of_eq rfl) (hb hby own_d16_29) (fun _ _ => ⟨rfl, e168, (by decide : 0 + 0 ≤ _), (by decide : 0 + 0 ≤ _)⟩)
  dsimp only [Pt.U, Pt.locs, Pt.cells, Pt.slots] at X169 l169 y169 z169 st169 hQ169
  subst l169 y169 z169
  obtain ⟨rfl, Nq169, Kq169⟩ := hQ169
  have N169 := Fr.app N0 Nq169
  have e169 : T169.heap = h0 := Kq169
  refine own_step (U' := (T169.setTop (mkF m 32 #[.val (.ref a1), .val (.int p1), .val .null] [(.long (own_minJ (((se.toInt64) + (8 : Int64)) + (p1.toInt64)) (2147483647 : Int64))), (.ref a1)]))) (fun t ht => st169 _ ht) ?_
  refine own_step (U' := (T169.setTop (mkF m 33 #[.val (.ref a1), .val (.int p1), .val .null] [(.int ((own_minJ (((se.toInt64) + (8 : Int64)) + (p1.toInt64)) (2147483647 : Int64)).toInt32)), (.ref a1)]))) (fun t ht => XT.l2i X169.here hx rfl (hb hby own_d16_32) rfl ht) ?_
  obtain ⟨T170, h170, X170, e170, W170, st170⟩ := putF X169 hx hZ hown (host := "") (Or.inl (hw _ (List.mem_of_getElem? (i := 104) rfl))) Via.refl e169 b9_ Eb (Or.inl (hw _ (List.mem_of_getElem? (i := 105) rfl))) (hw _ (List.mem_of_getElem? (i := 12) rfl)) (ty := .int) (by decide) rfl rfl (g := (mkF m 33 #[.val (.ref a1), .val (.int p1), .val .null] [(.int ((own_minJ (((se.toInt64) + (8 : Int64)) + (p1.toInt64)) (2147483647 : Int64)).toInt32)), (.ref a1)])) rfl rfl (hb hby own_d16_33)
  have f170_0 := b6_.other W170 (Or.inr (slot_ne (Or.inr (hw _ (List.mem_of_getElem? (i := 79) rfl))) (Or.inl (hw _ (List.mem_of_getElem? (i := 105) rfl))) (by decide) (t := (.array .char)) (t' := .int) (by decide) (by decide)))
  have f170_1 := b7_.other W170 (Or.inr (slot_ne (Or.inr (hw _ (List.mem_of_getElem? (i := 86) rfl))) (Or.inl (hw _ (List.mem_of_getElem? (i := 105) rfl))) (by decide) (t := .int) (t' := .int) (by decide) (by decide)))
  have f170_2 := b8_.other W170 (Or.inr (slot_ne (Or.inl (hw _ (List.mem_of_getElem? (i := 93) rfl))) (Or.inl (hw _ (List.mem_of_getElem? (i := 105) rfl))) (by decide) (t := (.array .int)) (t' := .int) (by decide) (by decide)))
  have f170_4 := Eb.wr W170
  have f170_5 := Va.other W170 ne_b1_a1
  have F170 := b9_.same W170
  have N170 := Fr.snoc X170 N169 g_a1
  have K170 : Keep h0 h170 [a1] := K0.wr W170 (Or.inl (by simp))
  refine own_step (U' := (T170.setTop (mkF m 36 #[.val (.ref a1), .val (.int p1), .val .null] []))) (fun t ht => st170 _ ht) ?_
  refine own_step (U' := (T170.setTop (mkF m 37 #[.val (.ref a1), .val (.int p1), .val .null] [(.ref a1)]))) (fun t ht => XS.aloadN X170.here hx rfl (hb hby own_d16_36) rfl rfl ht) ?_
  obtain ⟨T171, X171, e171, st171⟩ := getF X170 hx hZ hown (host := "") (Or.inl (hw _ (List.mem_of_getElem? (i := 104) rfl))) Via.refl e170 F170 (g := (mkF m 37 #[.val (.ref a1), .val (.int p1), .val .null] [(.ref a1)])) rfl rfl (hb hby own_d16_37)
  refine own_step (U' := (T171.setTop (mkF m 40 #[.val (.ref a1), .val (.int p1), .val .null] [(.int ((own_minJ (((se.toInt64) + (8 : Int64)) + (p1.toInt64)) (2147483647 : Int64)).toInt32))]))) (fun t ht => st171 _ ht) ?_
  refine own_step (U' := (T171.setTop (mkF m 41 #[.val (.ref a1), .val (.int p1), .val .null] [(.ref a1), (.int ((own_minJ (((se.toInt64) + (8 : Int64)) + (p1.toInt64)) (2147483647 : Int64)).toInt32))]))) (fun t ht => XS.aloadN X171.here hx rfl (hb hby own_d16_40) rfl rfl ht) ?_
  obtain ⟨T172, X172, e172, st172⟩ := getF X171 hx hZ hown (host := "") (Or.inl (hw _ (List.mem_of_getElem? (i := 85) rfl))) Via.refl e171 f170_1 (g := (mkF m 41 #[.val (.ref a1), .val (.int p1), .val .null] [(.ref a1), (.int ((own_minJ (((se.toInt64) + (8 : Int64)) + (p1.toInt64)) (2147483647 : Int64)).toInt32))])) rfl rfl (hb hby own_d16_41)
  refine own_step (U' := (T172.setTop (mkF m 44 #[.val (.ref a1), .val (.int p1), .val .null] [(.int bu), (.int ((own_minJ (((se.toInt64) + (8 : Int64)) + (p1.toInt64)) (2147483647 : Int64)).toInt32))]))) (fun t ht => st172 _ ht) ?_
  refine own_step (U' := (T172.setTop (mkF m 47 #[.val (.ref a1), .val (.int p1), .val .null] []))) (fun t ht => XS.icmpNo X172.here hx rfl (hb hby own_d16_44) rfl (XT.ii_lt_f (hlt : ¬ (((own_minJ (((se.toInt64) + (8 : Int64)) + (p1.toInt64)) (2147483647 : Int64)).toInt32) < bu))) ht) ?_
  refine own_step (U' := (T172.setTop (mkF m 48 #[.val (.ref a1), .val (.int p1), .val .null] [(.ref a1)]))) (fun t ht => XS.aloadN X172.here hx rfl (hb hby own_d16_47) rfl rfl ht) ?_
  obtain ⟨T173, X173, e173, st173⟩ := getF X172 hx hZ hown (host := "") (Or.inl (hw _ (List.mem_of_getElem? (i := 78) rfl))) Via.refl e172 f170_0 (g := (mkF m 48 #[.val (.ref a1), .val (.int p1), .val .null] [(.ref a1)])) rfl rfl (hb hby own_d16_48)
  refine own_step (U' := (T173.setTop (mkF m 51 #[.val (.ref a1), .val (.int p1), .val .null] [(.ref b1)]))) (fun t ht => st173 _ ht) ?_
  obtain ⟨_, _, ⟨T174, L174, k174, n174⟩, -, X174, ⟨Lc174, hQ174, l174, y174, z174⟩, st174⟩ := Jvm.LawKit.callS X173 hx (y := (⟨"com/example/skip2/skip2/boyermoore/GoodSuffixShift", "of", "([C)[I"⟩ : MethodName)) hown (mvT hZ (hw _ (List.mem_of_getElem? (i := 107) rfl))) (mvT hZ (hw _ (List.mem_of_getElem? (i := 108) rfl))) (mvT hZ (hw _ (List.mem_of_getElem? (i := 109) rfl))) (mvT hZ (hw _ (List.mem_of_getElem? (i := 110) rfl))) (by decide) (own_backP (PV := fun vm => Z.WarmedH vm) (fun _ q => State.WarmedH.trans hkv q) (W := 0) (own_m_gso l Z a0 hw [] (b1) (ka) (cs) (mm) (M) h170 n0 (Nat.le_trans Z0 K170.1) f170_5 hm h1 h8 hcl hch) hZ (hw _ (List.mem_of_getElem? (i := 110) rfl)) (hw _ (List.mem_of_getElem? (i := 109) rfl)) (by decide) (by decide)) (g := (mkF m 51 #[.val (.ref a1), .val (.int p1), .val .null] [(.ref b1)])) rfl (by rw [hml]; rfl) (argsL := [(.ref b1)]) (rest := []) (lenOf own_pd12 rfl) rfl (by show 2 * 0 + _ ≤ _; exact Nat.le_of_eq rfl) (hb hby own_d16_51) (fun _ _ => ⟨rfl, e173, (by decide : 0 + 4 ≤ _), (by decide : 0 + 26 ≤ _)⟩)
  dsimp only [Pt.U, Pt.locs, Pt.cells, Pt.slots] at X174 l174 y174 z174 st174 hQ174
  subst l174 y174 z174
  obtain ⟨r_174, kr_174, ys_174, rfl, Nq174, Kq174, sq_r_174, p174_0, p174_1, Fq174_0⟩ := hQ174
  have N174 := Fr.app N170 Nq174
  have ne_a1_r_174 : a1 ≠ r_174 := Nat.ne_of_lt (Nat.lt_of_lt_of_le f170_0.lt sq_r_174)
  have ne_b1_r_174 : b1 ≠ r_174 := Nat.ne_of_lt (Nat.lt_of_lt_of_le f170_5.lt sq_r_174)
  have g_r_174 : n0 ≤ r_174 := Nat.le_trans (Nat.le_trans Z0 K170.1) sq_r_174
  have sz_r_174 : h0.size ≤ r_174 := Nat.le_trans K170.1 sq_r_174
  have f174_0 := f170_0.keep Kq174 nin0
  have f174_1 := f170_1.keep Kq174 nin0
  have f174_2 := f170_2.keep Kq174 nin0
  have f174_3 := f170_4.keep Kq174
  have f174_4 := f170_5.keep Kq174 nin0
  have f174_5 := F170.keep Kq174 nin0
  have K174 : Keep h0 T174.heap [a1] := K170.trans Kq174 all0
  refine own_step (U' := (T174.setTop (mkF m 54 #[.val (.ref a1), .val (.int p1), .val .null] [(.ref r_174)]))) (fun t ht => st174 _ ht) ?_
  refine own_step (U' := (T174.setTop (mkF m 55 #[.val (.ref a1), .val (.int p1), .val (.ref r_174)] []))) (fun t ht => XS.astoreN X174.here hx rfl (hb hby own_d16_54) rfl rfl (l' := #[.val (.ref a1), .val (.int p1), .val (.ref r_174)]) rfl ht) ?_
  refine own_step (U' := (T174.setTop (mkF m 56 #[.val (.ref a1), .val (.int p1), .val (.ref r_174)] [(.ref a1)]))) (fun t ht => XS.aloadN X174.here hx rfl (hb hby own_d16_55) rfl rfl ht) ?_
  refine own_step (U' := (T174.setTop (mkF m 57 #[.val (.ref a1), .val (.int p1), .val (.ref r_174)] [(.ref r_174), (.ref a1)]))) (fun t ht => XS.aloadN X174.here hx rfl (hb hby own_d16_56) rfl rfl ht) ?_
  obtain ⟨T175, h175, X175, e175, W175, st175⟩ := putF X174 hx hZ hown (host := "") (Or.inl (hw _ (List.mem_of_getElem? (i := 92) rfl))) Via.refl rfl f174_2 f174_3 (Or.inl (hw _ (List.mem_of_getElem? (i := 93) rfl))) (hw _ (List.mem_of_getElem? (i := 12) rfl)) (ty := (.array .int)) (by decide) rfl rfl (g := (mkF m 57 #[.val (.ref a1), .val (.int p1), .val (.ref r_174)] [(.ref r_174), (.ref a1)])) rfl rfl (hb hby own_d16_57)
  have f175_0 := f174_0.other W175 (Or.inr (slot_ne (Or.inr (hw _ (List.mem_of_getElem? (i := 79) rfl))) (Or.inl (hw _ (List.mem_of_getElem? (i := 93) rfl))) (by decide) (t := (.array .char)) (t' := (.array .int)) (by decide) (by decide)))
  have f175_1 := f174_1.other W175 (Or.inr (slot_ne (Or.inr (hw _ (List.mem_of_getElem? (i := 86) rfl))) (Or.inl (hw _ (List.mem_of_getElem? (i := 93) rfl))) (by decide) (t := .int) (t' := (.array .int)) (by decide) (by decide)))
  have f175_3 := f174_3.wr W175
  have f175_4 := f174_4.other W175 ne_b1_a1
  have f175_5 := f174_5.other W175 (Or.inr (slot_ne (Or.inl (hw _ (List.mem_of_getElem? (i := 105) rfl))) (Or.inl (hw _ (List.mem_of_getElem? (i := 93) rfl))) (by decide) (t := .int) (t' := (.array .int)) (by decide) (by decide)))
  have f175_6 := Fq174_0.other W175 (Ne.symm ne_a1_r_174)
  have F175 := f174_2.same W175
  have N175 := Fr.snoc X175 N174 g_a1
  have K175 : Keep h0 h175 [a1] := K174.wr W175 (Or.inl (by simp))
  refine own_step (U' := (T175.setTop (mkF m 60 #[.val (.ref a1), .val (.int p1), .val (.ref r_174)] []))) (fun t ht => st175 _ ht) ?_
  refine own_step (U' := (T175.setTop (mkF m 61 #[.val (.ref a1), .val (.int p1), .val (.ref r_174)] [(.ref r_174)]))) (fun t ht => XS.aloadN X175.here hx rfl (hb hby own_d16_60) rfl rfl ht) ?_
  refine own_ret X175 (v := (some (.ref r_174))) (fun h => by rw [Bd.returns] at h; cases h) Bd.notSynchronized (by decide) (by decide) ?_ (fun fs hr => retOut X175 hx Bd.returns (own_narR rfl) (Or.inr (Or.inr (Or.inr (Or.inr ⟨rfl, rfl, rfl⟩)))) (hb hby own_d16_61) hr)
  show own_Q_tabB Z a1 p1 b1 bu se ka cs mm M h0 n0 _ T175.heap _
  rw [e175]
  exact ⟨r_174, kr_174, ys_174, rfl, N175, K175, sz_r_174, p174_0, p174_1, f175_6, f175_0, f175_1, F175, f175_5, f175_3⟩
def own_Q_tabA (Z : State) (a1 : Addr) (p1 : Int32) (s1 : Addr) (h0 : Heap) (n0 : Nat) (v : Option Value) (h : Heap) (L : List Loc) : Prop := v = some (.ref s1) ∧ Fr n0 L ∧ h = h0
set_option maxRecDepth 65536 in
set_option maxHeartbeats 40000000 in
theorem own_m_tabA (l : Launch) (Z : State) (a0 : Array Value) (hw : ∀ d ∈ tables_1, d.before a0 Z = true) (ws : List Jvm.Cond) (a1 : Addr) (p1 : Int32) (s1 : Addr) (h0 : Heap) (n0 : Nat) (Z0 : n0 ≤ h0.size) (Fg : Fld Z h0 a1 "com/example/skip2/skip2/boyermoore/BoyerMooreSearcher" "goodSuffixShift" "[I" (.ref s1)) :
    MetFree l (⟨"com/example/skip2/skip2/boyermoore/BoyerMooreSearcher", "table", "(I)[I"⟩ : MethodName) (head1 (Jvm.Cond.code (⟨"com/example/skip2/skip2/boyermoore/BoyerMooreSearcher", "table", "(I)[I"⟩ : MethodName) prog_5_method_5_code 3 (some (.array .int)) :: ws) ({ frames := 0, cells := 0, slots := 0, locals := 0 } : Room)) (fun a U => a = #[(.ref a1), (.int p1)] ∧ Z.Warmed39 U.vm ∧ U.heap = h0) (fun _ _ _ _ _ => True) (fun _ U o U' => ∃ v L, o = .returned v ∧ own_Q_tabA Z a1 p1 s1 h0 n0 v U'.heap L ∧ FrameEnd U o U' L ({ frames := 0, cells := 0, slots := 0, locals := 0 } : Room).cells ({ frames := 0, cells := 0, slots := 0, locals := 0 } : Room).slots) := by
  refine MetFree.of_bodySF (plainFor_of_name own_pn7) hisR ?_
  intro p e s m args below meth c s₁ Bd hml0 hP hK
  obtain ⟨rfl, hZ, hh⟩ := hP
  have hx := Bd.exec
  have hby := Bd.bytes
  have hml : c.maxLocals = 3 := hml0
  have hown : s.vm.findClass "com/example/skip2/skip2/boyermoore/BoyerMooreSearcher" = some m.cls := findClass_of_methodNamed Bd.named
  have hnm := (name_of_methodNamed Bd.named Bd.method).1
  have X0 : Stand p l e ({ frames := 0, cells := 0, slots := 0, locals := 0 } : Room) s m #[(.ref a1), (.int p1)] below meth c s₁ [] 0 0 := Stand.of_body Bd
  have e0 : s₁.heap = h0 := by rw [← hh, Bd.state]; rfl
  have N0 := Fr.nil n0
  have K0 : Keep h0 h0 [] := Keep.refl _ _
  show own_Go p e below s ({ frames := 0, cells := 0, slots := 0, locals := 0 } : Room).cells ({ frames := 0, cells := 0, slots := 0, locals := 0 } : Room).slots (own_Q_tabA Z a1 p1 s1 h0 n0) (s₁.setTop (entryFrame m #[(.ref a1), (.int p1)] 3))
  have ef : entryFrame m #[(.ref a1), (.int p1)] 3 = (mkF m 0 #[.val (.ref a1), .val (.int p1), .unset] []) := by first | (simp [entryFrame, mkF, argsToLocals, Value.category, maxLocals]; done) | rfl
  rw [ef]
  show own_Go p e below s _ _ _ (s₁.setTop (mkF m 0 #[.val (.ref a1), .val (.int p1), .unset] []))
  refine own_step (U' := (s₁.setTop (mkF m 1 #[.val (.ref a1), .val (.int p1), .unset] [(.ref a1)]))) (fun t ht => XS.aloadN X0.here hx rfl (hb hby own_d16_0) rfl rfl ht) ?_
  obtain ⟨T176, X176, e176, st176⟩ := getF X0 hx hZ hown (host := "") (Or.inl (hw _ (List.mem_of_getElem? (i := 92) rfl))) Via.refl e0 Fg (g := (mkF m 1 #[.val (.ref a1), .val (.int p1), .unset] [(.ref a1)])) rfl rfl (hb hby own_d16_1)
  refine own_step (U' := (T176.setTop (mkF m 4 #[.val (.ref a1), .val (.int p1), .unset] [(.ref s1)]))) (fun t ht => st176 _ ht) ?_
  refine own_step (U' := (T176.setTop (mkF m 5 #[.val (.ref a1), .val (.int p1), .val (.ref s1)] []))) (fun t ht => XS.astoreN X176.here hx rfl (hb hby own_d16_4) rfl rfl (l' := #[.val (.ref a1), .val (.int p1), .val (.ref s1)]) rfl ht) ?_
  refine own_step (U' := (T176.setTop (mkF m 6 #[.val (.ref a1), .val (.int p1), .val (.ref s1)] [(.ref s1)]))) (fun t ht => XS.aloadN X176.here hx rfl (hb hby own_d16_5) rfl rfl ht) ?_
  refine own_step (U' := (T176.setTop (mkF m 60 #[.val (.ref a1), .val (.int p1), .val (.ref s1)] []))) (fun t ht => XT.nonnullYes X176.here hx rfl (pc0 := 6) (pc' := 60) rfl (hb hby own_d16_6) rfl rfl nofun (by decide) (by decide) ht) ?_
  refine own_step (U' := (T176.setTop (mkF m 61 #[.val (.ref a1), .val (.int p1), .val (.ref s1)] [(.ref s1)]))) (fun t ht => XS.aloadN X176.here hx rfl (hb hby own_d16_60) rfl rfl ht) ?_
  refine own_ret X176 (v := (some (.ref s1))) (fun h => by rw [Bd.returns] at h; cases h) Bd.notSynchronized (by decide) (by decide) ?_ (fun fs hr => retOut X176 hx Bd.returns (own_narR rfl) (Or.inr (Or.inr (Or.inr (Or.inr ⟨rfl, rfl, rfl⟩)))) (hb hby own_d16_61) hr)
  show own_Q_tabA Z a1 p1 s1 h0 n0 _ T176.heap _
  rw [e176]
  exact ⟨rfl, N0, rfl⟩
theorem own_pd13 : parseMethodDescriptor "(I)[I" = some ⟨[.int], some (.array .int)⟩ := by decide +kernel
theorem own_d15_0 : decode prog_5_method_4_code 0 = .ok (.aload_n 0, 1) := by decide +kernel
theorem own_d15_1 : decode prog_5_method_4_code 1 = .ok (.getfield 7, 3) := by decide +kernel
theorem own_d15_4 : decode prog_5_method_4_code 4 = .ok (.arraylength, 1) := by decide +kernel
theorem own_d15_5 : decode prog_5_method_4_code 5 = .ok (.iconst 1, 1) := by decide +kernel
theorem own_d15_6 : decode prog_5_method_4_code 6 = .ok (.isub, 1) := by decide +kernel
theorem own_d15_7 : decode prog_5_method_4_code 7 = .ok (.istore 5, 2) := by decide +kernel
theorem own_d15_9 : decode prog_5_method_4_code 9 = .ok (.iload_n 3, 1) := by decide +kernel
theorem own_d15_10 : decode prog_5_method_4_code 10 = .ok (.iload_n 2, 1) := by decide +kernel
theorem own_d15_11 : decode prog_5_method_4_code 11 = .ok (.if_icmp .ge 16, 3) := by decide +kernel
theorem own_d15_14 : decode prog_5_method_4_code 14 = .ok (.aload_n 0, 1) := by decide +kernel
theorem own_d15_15 : decode prog_5_method_4_code 15 = .ok (.iload 5, 2) := by decide +kernel
theorem own_d15_17 : decode prog_5_method_4_code 17 = .ok (.iconst 1, 1) := by decide +kernel
theorem own_d15_18 : decode prog_5_method_4_code 18 = .ok (.iadd, 1) := by decide +kernel
theorem own_d15_19 : decode prog_5_method_4_code 19 = .ok (.iload_n 2, 1) := by decide +kernel
theorem own_d15_20 : decode prog_5_method_4_code 20 = .ok (.isub, 1) := by decide +kernel
theorem own_d15_21 : decode prog_5_method_4_code 21 = .ok (.invokevirtual 39, 3) := by decide +kernel
theorem own_d15_24 : decode prog_5_method_4_code 24 = .ok (.pop, 1) := by decide +kernel
theorem own_d15_25 : decode prog_5_method_4_code 25 = .ok (.iload_n 1, 1) := by decide +kernel
theorem own_d15_26 : decode prog_5_method_4_code 26 = .ok (.ireturn, 1) := by decide +kernel
def own_Q_stpN (Z : State) (a1 : Addr) (q1 : Int32) (q2 : Int32) (q3 : Int32) (q4 : Int32) (b1 : Addr) (bu : Int32) (se : Int32) (ka : ClassId) (cs : List Int32) (mm : Int32) (M : Nat) (h0 : Heap) (n0 : Nat) (v : Option Value) (h : Heap) (L : List Loc) : Prop := v = some (.int q1) ∧ Fr n0 L ∧ Keep h0 h [a1] ∧ (Fld Z h a1 "com/example/skip2/skip2/boyermoore/BoyerMooreSearcher" "pattern" "[C" (.ref b1)) ∧ (Fld Z h a1 "com/example/skip2/skip2/boyermoore/BoyerMooreSearcher" "budget" "I" (.int bu)) ∧ (Fld Z h a1 "com/example/skip2/skip2/boyermoore/BoyerMooreSearcher" "goodSuffixShift" "[I" .null) ∧ (Fld Z h a1 "com/example/skip2/skip2/boyermoore/BoyerMooreSearcher" "spent" "I" (.int (own_spn se (((mm - (1 : Int32)) + (1 : Int32)) - q2)))) ∧ (Exa Z h a1 "com/example/skip2/skip2/boyermoore/BoyerMooreSearcher")
set_option maxRecDepth 65536 in
set_option maxHeartbeats 40000000 in
theorem own_m_stpN (l : Launch) (Z : State) (a0 : Array Value) (hw : ∀ d ∈ tables_1, d.before a0 Z = true) (ws : List Jvm.Cond) (a1 : Addr) (q1 : Int32) (q2 : Int32) (q3 : Int32) (q4 : Int32) (b1 : Addr) (bu : Int32) (se : Int32) (ka : ClassId) (cs : List Int32) (mm : Int32) (M : Nat) (h0 : Heap) (n0 : Nat) (Z0 : n0 ≤ h0.size) (g_a1 : n0 ≤ a1) (ne_b1_a1 : b1 ≠ a1) (b6_ : Fld Z h0 a1 "com/example/skip2/skip2/boyermoore/BoyerMooreSearcher" "pattern" "[C" (.ref b1)) (b7_ : Fld Z h0 a1 "com/example/skip2/skip2/boyermoore/BoyerMooreSearcher" "budget" "I" (.int bu)) (b8_ : Fld Z h0 a1 "com/example/skip2/skip2/boyermoore/BoyerMooreSearcher" "goodSuffixShift" "[I" .null) (b9_ : Fld Z h0 a1 "com/example/skip2/skip2/boyermoore/BoyerMooreSearcher" "spent" "I" (.int se)) (Eb : Exa Z h0 a1 "com/example/skip2/skip2/boyermoore/BoyerMooreSearcher") (Va : Arv Z h0 b1 ka .char mm (cs.map Value.int) (.int (0 : Int32))) (hq : q3 < q2) (hp1 : 0 < (((mm - (1 : Int32)) + (1 : Int32)) - q2)) (hlt : own_spn se (((mm - (1 : Int32)) + (1 : Int32)) - q2) < bu) :
    MetFree l (⟨"com/example/skip2/skip2/boyermoore/BoyerMooreSearcher", "step", "(IIIC)I"⟩ : MethodName) (head1 (Jvm.Cond.code (⟨"com/example/skip2/skip2/boyermoore/BoyerMooreSearcher", "step", "(IIIC)I"⟩ : MethodName) prog_5_method_4_code 8 (some .int) :: ws) ({ frames := 2, cells := 0, slots := 0, locals := 30 } : Room)) (fun a U => a = #[(.ref a1), (.int q1), (.int q2), (.int q3), (.int q4)] ∧ Z.Warmed39 U.vm ∧ U.heap = h0) (fun _ _ _ _ _ => True) (fun _ U o U' => ∃ v L, o = .returned v ∧ own_Q_stpN Z a1 q1 q2 q3 q4 b1 bu se ka cs mm M h0 n0 v U'.heap L ∧ FrameEnd U o U' L ({ frames := 2, cells := 0, slots := 0, locals := 30 } : Room).cells ({ frames := 2, cells := 0, slots := 0, locals := 30 } : Room).slots) := by
  refine MetFree.of_bodySF (plainFor_of_name own_pn7) hisR ?_
  intro p e s m args below meth c s₁ Bd hml0 hP hK
  obtain ⟨rfl, hZ, hh⟩ := hP
  have hx := Bd.exec
  have hby := Bd.bytes
  have hml : c.maxLocals = 8 := hml0
  have hown : s.vm.findClass "com/example/skip2/skip2/boyermoore/BoyerMooreSearcher" = some m.cls := findClass_of_methodNamed Bd.named
  have hnm := (name_of_methodNamed Bd.named Bd.method).1
  have X0 : Stand p l e ({ frames := 2, cells := 0, slots := 0, locals := 30 } : Room) s m #[(.ref a1), (.int q1), (.int q2), (.int q3), (.int q4)] below meth c s₁ [] 0 0 := Stand.of_body Bd
  have e0 : s₁.heap = h0 := by rw [← hh, Bd.state]; rfl
  have N0 := Fr.nil n0
  have K0 : Keep h0 h0 [a1] := Keep.refl _ _
  show own_Go p e below s ({ frames := 2, cells := 0, slots := 0, locals := 30 } : Room).cells ({ frames := 2, cells := 0, slots := 0, locals := 30 } : Room).slots (own_Q_stpN Z a1 q1 q2 q3 q4 b1 bu se ka cs mm M h0 n0) (s₁.setTop (entryFrame m #[(.ref a1), (.int q1), (.int q2), (.int q3), (.int q4)] 8))
  have ef : entryFrame m #[(.ref a1), (.int q1), (.int q2), (.int q3), (.int q4)] 8 = (mkF m 0 #[.val (.ref a1), .val (.int q1), .val (.int q2), .val (.int q3), .val (.int q4), .unset, .unset, .unset] []) := by first | (simp [entryFrame, mkF, argsToLocals, Value.category, maxLocals]; done) | rfl
  rw [ef]
  show own_Go p e below s _ _ _ (s₁.setTop (mkF m 0 #[.val (.ref a1), .val (.int q1), .val (.int q2), .val (.int q3), .val (.int q4), .unset, .unset, .unset] []))
  refine own_step (U' := (s₁.setTop (mkF m 1 #[.val (.ref a1), .val (.int q1), .val (.int q2), .val (.int q3), .val (.int q4), .unset, .unset, .unset] [(.ref a1)]))) (fun t ht => XS.aloadN X0.here hx rfl (hb hby own_d15_0) rfl rfl ht) ?_
  obtain ⟨T177, X177, e177, st177⟩ := getF X0 hx hZ hown (host := "") (Or.inl (hw _ (List.mem_of_getElem? (i := 78) rfl))) Via.refl e0 b6_ (g := (mkF m 1 #[.val (.ref a1), .val (.int q1), .val (.int q2), .val (.int q3), .val (.int q4), .unset, .unset, .unset] [(.ref a1)])) rfl rfl (hb hby own_d15_1)
  refine own_step (U' := (T177.setTop (mkF m 4 #[.val (.ref a1), .val (.int q1), .val (.int q2), .val (.int q3), .val (.int q4), .unset, .unset, .unset] [(.ref b1)]))) (fun t ht => st177 _ ht) ?_
  obtain ⟨cl178, Ar178, q178, S178, N178_, H178, G178⟩ := (id Va)
  refine own_step (U' := (T177.setTop (mkF m 5 #[.val (.ref a1), .val (.int q1), .val (.int q2), .val (.int q3), .val (.int q4), .unset, .unset, .unset] [(.int mm)]))) (fun t ht => X177.arraylength hx (own_at e177 Ar178.1) (State.isArrayOf_alike hZ.alike Ar178.2.1) (g := (mkF m 4 #[.val (.ref a1), .val (.int q1), .val (.int q2), .val (.int q3), .val (.int q4), .unset, .unset, .unset] [(.ref b1)])) rfl rfl (hb hby own_d15_4) _ (by rw [len_of S178 N178_]; exact ht)) ?_
  refine own_step (U' := (T177.setTop (mkF m 6 #[.val (.ref a1), .val (.int q1), .val (.int q2), .val (.int q3), .val (.int q4), .unset, .unset, .unset] [(.int (1 : Int32)), (.int mm)]))) (fun t ht => XS.iconst X177.here hx rfl (hb hby own_d15_5) ht) ?_
  refine own_step (U' := (T177.setTop (mkF m 7 #[.val (.ref a1), .val (.int q1), .val (.int q2), .val (.int q3), .val (.int q4), .unset, .unset, .unset] [(.int (mm - (1 : Int32)))]))) (fun t ht => XS.isub X177.here hx rfl (hb hby own_d15_6) rfl ht) ?_
  refine own_step (U' := (T177.setTop (mkF m 9 #[.val (.ref a1), .val (.int q1), .val (.int q2), .val (.int q3), .val (.int q4), .val (.int (mm - (1 : Int32))), .unset, .unset] []))) (fun t ht => XS.istore X177.here hx rfl (hb hby own_d15_7) rfl (l' := #[.val (.ref a1), .val (.int q1), .val (.int q2), .val (.int q3), .val (.int q4), .val (.int (mm - (1 : Int32))), .unset, .unset]) rfl ht) ?_
  refine own_step (U' := (T177.setTop (mkF m 10 #[.val (.ref a1), .val (.int q1), .val (.int q2), .val (.int q3), .val (.int q4), .val (.int (mm - (1 : Int32))), .unset, .unset] [(.int q3)]))) (fun t ht => XS.iloadN X177.here hx rfl (hb hby own_d15_9) rfl ht) ?_
  refine own_step (U' := (T177.setTop (mkF m 11 #[.val (.ref a1), .val (.int q1), .val (.int q2), .val (.int q3), .val (.int q4), .val (.int (mm - (1 : Int32))), .unset, .unset] [(.int q2), (.int q3)]))) (fun t ht => XS.iloadN X177.here hx rfl (hb hby own_d15_10) rfl ht) ?_
  refine own_step (U' := (T177.setTop (mkF m 14 #[.val (.ref a1), .val (.int q1), .val (.int q2), .val (.int q3), .val (.int q4), .val (.int (mm - (1 : Int32))), .unset, .unset] []))) (fun t ht => XS.icmpNo X177.here hx rfl (hb hby own_d15_11) rfl (XT.ii_ge_f (hq : q3 < q2)) ht) ?_
  refine own_step (U' := (T177.setTop (mkF m 15 #[.val (.ref a1), .val (.int q1), .val (.int q2), .val (.int q3), .val (.int q4), .val (.int (mm - (1 : Int32))), .unset, .unset] [(.ref a1)]))) (fun t ht => XS.aloadN X177.here hx rfl (hb hby own_d15_14) rfl rfl ht) ?_
  refine own_step (U' := (T177.setTop (mkF m 17 #[.val (.ref a1), .val (.int q1), .val (.int q2), .val (.int q3), .val (.int q4), .val (.int (mm - (1 : Int32))), .unset, .unset] [(.int (mm - (1 : Int32))), (.ref a1)]))) (fun t ht => XS.iload X177.here hx rfl (hb hby own_d15_15) rfl ht) ?_
  refine own_step (U' := (T177.setTop (mkF m 18 #[.val (.ref a1), .val (.int q1), .val (.int q2), .val (.int q3), .val (.int q4), .val (.int (mm - (1 : Int32))), .unset, .unset] [(.int (1 : Int32)), (.int (mm - (1 : Int32))), (.ref a1)]))) (fun t ht => XS.iconst X177.here hx rfl (hb hby own_d15_17) ht) ?_
  refine own_step (U' := (T177.setTop (mkF m 19 #[.val (.ref a1), .val (.int q1), .val (.int q2), .val (.int q3), .val (.int q4), .val (.int (mm - (1 : Int32))), .unset, .unset] [(.int ((mm - (1 : Int32)) + (1 : Int32))), (.ref a1)]))) (fun t ht => XS.iadd X177.here hx rfl (hb hby own_d15_18) rfl ht) ?_
  refine own_step (U' := (T177.setTop (mkF m 20 #[.val (.ref a1), .val (.int q1), .val (.int q2), .val (.int q3), .val (.int q4), .val (.int (mm - (1 : Int32))), .unset, .unset] [(.int q2), (.int ((mm - (1 : Int32)) + (1 : Int32))), (.ref a1)]))) (fun t ht => XS.iloadN X177.here hx rfl (hb hby own_d15_19) rfl ht) ?_
  refine own_step (U' := (T177.setTop (mkF m 21 #[.val (.ref a1), .val (.int q1), .val (.int q2), .val (.int q3), .val (.int q4), .val (.int (mm - (1 : Int32))), .unset, .unset] [(.int (((mm - (1 : Int32)) + (1 : Int32)) - q2)), (.ref a1)]))) (fun t ht => XS.isub X177.here hx rfl (hb hby own_d15_20) rfl ht) ?_
  obtain ⟨cq179, q179, q179'⟩ := Eb.cell
  obtain ⟨_, _, ⟨T179, L179, k179, n179⟩, -, X179, ⟨Lc179, hQ179, l179, y179, z179⟩, st179⟩ := X177.privateBack hx (y := (⟨"com/example/skip2/skip2/boyermoore/BoyerMooreSearcher", "table", "(I)[I"⟩ : MethodName)) hown (mvT hZ (hw _ (List.mem_of_getElem? (i := 100) rfl))) (mvT hZ (hw _ (List.mem_of_getElem? (i := 101) rfl))) (own_selp (z := (⟨"com/example/skip2/skip2/boyermoore/BoyerMooreSearcher", "period", "()I"⟩ : MethodName)) rfl (mvT hZ (hw _ (List.mem_of_getElem? (i := 90) rfl))) (Cond.privateMethod_at (mvP hZ (hw _ (List.mem_of_getElem? (i := 102) rfl)) (args := #[]))) (mvT hZ (hw _ (List.mem_of_getElem? (i := 101) rfl))) (by decide)) (Cond.privateMethod_at (mvP hZ (hw _ (List.mem_of_getElem? (i := 102) rfl)) (args := #[]))) (mvT hZ (hw _ (List.mem_of_getElem? (i := 103) rfl))) (by decide) (backOf (W := 0) (own_m_tabN l Z a0 hw [] (a1) ((((mm - (1 : Int32)) + (1 : Int32)) - q2)) (b1) (bu) (se) h0 n0 Z0 g_a1 b6_ b7_ b8_ b9_ Eb hp1 hlt) hZ (hw _ (List.mem_of_getElem? (i := 103) rfl)) (hw _ (List.mem_of_getElem? (i := 13) rfl)) (by decide) (by decide)) (g := (mkF m 21 #[.val (.ref a1), .val (.int q1), .val (.int q2), .val (.int q3), .val (.int q4), .val (.int (mm - (1 : Int32))), .unset, .unset] [(.int (((mm - (1 : Int32)) + (1 : Int32)) - q2)), (.ref a1)])) rfl (by rw [hml]; rfl) (Steps.refl _) (a := a1) (own_at e177 q179) q179' (argsL := [(.int (((mm - (1 : Int32)) + (1 : Int32)) - q2))]) (rest := []) (lenOf own_pd13 rfl) rfl (by show 2 * 0 + _ ≤ _; exact Nat.le_of_eq rfl) (hb hby own_d15_21) (fun _ _ => ⟨rfl, e177, (by decide : 0 + 0 ≤ _), (by decide : 0 + 0 ≤ _)⟩)
  dsimp only [Pt.U, Pt.locs, Pt.cells, Pt.slots] at X179 l179 y179 z179 st179 hQ179
  subst l179 y179 z179
  obtain ⟨rfl, Nq179, Kq179, Fq179_0, Fq179_1, Fq179_2, Fq179_3, Fq179_4⟩ := hQ179
  have N179 := Fr.app N0 Nq179
  have f179_4 := Eb.keep Kq179
  have f179_5 := Va.keep Kq179 (ninS ne_b1_a1 nin0)
  have K179 : Keep h0 T179.heap [a1] := K0.trans Kq179 (allS (Or.inl (by simp)) all0)
  refine own_step (U' := (T179.setTop (mkF m 24 #[.val (.ref a1), .val (.int q1), .val (.int q2), .val (.int q3), .val (.int q4), .val (.int (mm - (1 : Int32))), .unset, .unset] [.null]))) (fun t ht => st179.trans ht) ?_
  refine own_step (U' := (T179.setTop (mkF m 25 #[.val (.ref a1), .val (.int q1), .val (.int q2), .val (.int q3), .val (.int q4), .val (.int (mm - (1 : Int32))), .unset, .unset] []))) (fun t ht => XT.pop X179.here hx rfl (hb hby own_d15_24) rfl rfl ht) ?_
  refine own_step (U' := (T179.setTop (mkF m 26 #[.val (.ref a1), .val (.int q1), .val (.int q2), .val (.int q3), .val (.int q4), .val (.int (mm - (1 : Int32))), .unset, .unset] [(.int q1)]))) (fun t ht => XS.iloadN X179.here hx rfl (hb hby own_d15_25) rfl ht) ?_
  refine own_ret X179 (v := (some (.int q1))) (fun h => by rw [Bd.returns] at h; cases h) Bd.notSynchronized (by decide) (by decide) ?_ (fun fs hr => retI X179 hx Bd.returns (hb hby own_d15_26) hr)
  show own_Q_stpN Z a1 q1 q2 q3 q4 b1 bu se ka cs mm M h0 n0 _ T179.heap _
  show own_Q_stpN Z a1 q1 q2 q3 q4 b1 bu se ka cs mm M h0 n0 _ T179.heap _
  exact ⟨rfl, N179, K179, Fq179_0, Fq179_1, Fq179_2, Fq179_3, Fq179_4⟩
def own_Q_stpB (Z : State) (a1 : Addr) (q1 : Int32) (q2 : Int32) (q3 : Int32) (q4 : Int32) (b1 : Addr) (bu : Int32) (se : Int32) (ka : ClassId) (cs : List Int32) (mm : Int32) (M : Nat) (h0 : Heap) (n0 : Nat) (v : Option Value) (h : Heap) (L : List Loc) : Prop := ∃ (r : Addr) (kr : ClassId) (ys : List Int32), v = some (.int q1) ∧ Fr n0 L ∧ Keep h0 h [a1] ∧ h0.size ≤ r ∧ ys.length = M ∧ own_g ys (0 : Int32) = own_sp cs mm ∧ (Arv Z h r kr .int mm (ys.map Value.int) (.int (0 : Int32))) ∧ (Fld Z h a1 "com/example/skip2/skip2/boyermoore/BoyerMooreSearcher" "pattern" "[C" (.ref b1)) ∧ (Fld Z h a1 "com/example/skip2/skip2/boyermoore/BoyerMooreSearcher" "budget" "I" (.int bu)) ∧ (Fld Z h a1 "com/example/skip2/skip2/boyermoore/BoyerMooreSearcher" "goodSuffixShift" "[I" (.ref r)) ∧ (Fld Z h a1 "com/example/skip2/skip2/boyermoore/BoyerMooreSearcher" "spent" "I" (.int (own_spn se (((mm - (1 : Int32)) + (1 : Int32)) - q2)))) ∧ (Exa Z h a1 "com/example/skip2/skip2/boyermoore/BoyerMooreSearcher")
set_option maxRecDepth 65536 in
set_option maxHeartbeats 40000000 in
theorem own_m_stpB (l : Launch) (Z : State) (a0 : Array Value) (hw : ∀ d ∈ tables_1, d.before a0 Z = true) (ws : List Jvm.Cond) (a1 : Addr) (q1 : Int32) (q2 : Int32) (q3 : Int32) (q4 : Int32) (b1 : Addr) (bu : Int32) (se : Int32) (ka : ClassId) (cs : List Int32) (mm : Int32) (M : Nat) (h0 : Heap) (n0 : Nat) (Z0 : n0 ≤ h0.size) (g_a1 : n0 ≤ a1) (ne_b1_a1 : b1 ≠ a1) (b6_ : Fld Z h0 a1 "com/example/skip2/skip2/boyermoore/BoyerMooreSearcher" "pattern" "[C" (.ref b1)) (b7_ : Fld Z h0 a1 "com/example/skip2/skip2/boyermoore/BoyerMooreSearcher" "budget" "I" (.int bu)) (b8_ : Fld Z h0 a1 "com/example/skip2/skip2/boyermoore/BoyerMooreSearcher" "goodSuffixShift" "[I" .null) (b9_ : Fld Z h0 a1 "com/example/skip2/skip2/boyermoore/BoyerMooreSearcher" "spent" "I" (.int se)) (Eb : Exa Z h0 a1 "com/example/skip2/skip2/boyermoore/BoyerMooreSearcher") (Va : Arv Z h0 b1 ka .char mm (cs.map Value.int) (.int (0 : Int32))) (hq : q3 < q2) (hp1 : 0 < (((mm - (1 : Int32)) + (1 : Int32)) - q2)) (hlt : ¬ own_spn se (((mm - (1 : Int32)) + (1 : Int32)) - q2) < bu) (hm : mm.toInt = (M : Int)) (h1 : 1 ≤ M) (h8 : M ≤ 8) (hcl : cs.length = M) (hch : ∀ c ∈ cs, own_ch c = c) :
    MetFree l (⟨"com/example/skip2/skip2/boyermoore/BoyerMooreSearcher", "step", "(IIIC)I"⟩ : MethodName) (head1 (Jvm.Cond.code (⟨"com/example/skip2/skip2/boyermoore/BoyerMooreSearcher", "step", "(IIIC)I"⟩ : MethodName) prog_5_method_4_code 8 (some .int) :: ws) ({ frames := 5, cells := 4, slots := 26, locals := 3107 } : Room)) (fun a U => a = #[(.ref a1), (.int q1), (.int q2), (.int q3), (.int q4)] ∧ Z.Warmed39 U.vm ∧ U.heap = h0 ∧ Z.WarmedH U.vm) (fun _ _ _ _ _ => True) (fun _ U o U' => ∃ v L, o = .returned v ∧ own_Q_stpB Z a1 q1 q2 q3 q4 b1 bu se ka cs mm M h0 n0 v U'.heap L ∧ FrameEnd U o U' L ({ frames := 5, cells := 4, slots := 26, locals := 3107 } : Room).cells ({ frames := 5, cells := 4, slots := 26, locals := 3107 } : Room).slots) := by
  refine MetFree.of_bodySF (plainFor_of_name own_pn7) hisR ?_
  intro p e s m args below meth c s₁ Bd hml0 hP hK
  obtain ⟨rfl, hZ, hh, hkv⟩ := hP
  have hx := Bd.exec
  have hby := Bd.bytes
  have hml : c.maxLocals = 8 := hml0
  have hown : s.vm.findClass "com/example/skip2/skip2/boyermoore/BoyerMooreSearcher" = some m.cls := findClass_of_methodNamed Bd.named
  have hnm := (name_of_methodNamed Bd.named Bd.method).1
  have X0 : Stand p l e ({ frames := 5, cells := 4, slots := 26, locals := 3107 } : Room) s m #[(.ref a1), (.int q1), (.int q2), (.int q3), (.int q4)] below meth c s₁ [] 0 0 := Stand.of_body Bd
  have e0 : s₁.heap = h0 := by rw [← hh, Bd.state]; rfl
  have N0 := Fr.nil n0
  have K0 : Keep h0 h0 [a1] := Keep.refl _ _
  show own_Go p e below s ({ frames := 5, cells := 4, slots := 26, locals := 3107 } : Room).cells ({ frames := 5, cells := 4, slots := 26, locals := 3107 } : Room).slots (own_Q_stpB Z a1 q1 q2 q3 q4 b1 bu se ka cs mm M h0 n0) (s₁.setTop (entryFrame m #[(.ref a1), (.int q1), (.int q2), (.int q3), (.int q4)] 8))
  have ef : entryFrame m #[(.ref a1), (.int q1), (.int q2), (.int q3), (.int q4)] 8 = (mkF m 0 #[.val (.ref a1), .val (.int q1), .val (.int q2), .val (.int q3), .val (.int q4), .unset, .unset, .unset] []) := by first | (simp [entryFrame, mkF, argsToLocals, Value.category, maxLocals]; done) | rfl
  rw [ef]
  show own_Go p e below s _ _ _ (s₁.setTop (mkF m 0 #[.val (.ref a1), .val (.int q1), .val (.int q2), .val (.int q3), .val (.int q4), .unset, .unset, .unset] []))
  refine own_step (U' := (s₁.setTop (mkF m 1 #[.val (.ref a1), .val (.int q1), .val (.int q2), .val (.int q3), .val (.int q4), .unset, .unset, .unset] [(.ref a1)]))) (fun t ht => XS.aloadN X0.here hx rfl (hb hby own_d15_0) rfl rfl ht) ?_
  obtain ⟨T180, X180, e180, st180⟩ := getF X0 hx hZ hown (host := "") (Or.inl (hw _ (List.mem_of_getElem? (i := 78) rfl))) Via.refl e0 b6_ (g := (mkF m 1 #[.val (.ref a1), .val (.int q1), .val (.int q2), .val (.int q3), .val (.int q4), .unset, .unset, .unset] [(.ref a1)])) rfl rfl (hb hby own_d15_1)
  refine own_step (U' := (T180.setTop (mkF m 4 #[.val (.ref a1), .val (.int q1), .val (.int q2), .val (.int q3), .val (.int q4), .unset, .unset, .unset] [(.ref b1)]))) (fun t ht => st180 _ ht) ?_
  obtain ⟨cl181, Ar181, q181, S181, N181_, H181, G181⟩ := (id Va)
  refine own_step (U' := (T180.setTop (mkF m 5 #[.val (.ref a1), .val (.int q1), .val (.int q2), .val (.int q3), .val (.int q4), .unset, .unset, .unset] [(.int mm)]))) (fun t ht => X180.arraylength hx (own_at e180 Ar181.1) (State.isArrayOf_alike hZ.alike Ar181.2.1) (g := (mkF m 4 #[.val (.ref a1), .val (.int q1), .val (.int q2), .val (.int q3), .val (.int q4), .unset, .unset, .unset] [(.ref b1)])) rfl rfl (hb hby own_d15_4) _ (by rw [len_of S181 N181_]; exact ht)) ?_
  refine own_step (U' := (T180.setTop (mkF m 6 #[.val (.ref a1), .val (.int q1), .val (.int q2), .val (.int q3), .val (.int q4), .unset, .unset, .unset] [(.int (1 : Int32)), (.int mm)]))) (fun t ht => XS.iconst X180.here hx rfl (hb hby own_d15_5) ht) ?_
  refine own_step (U' := (T180.setTop (mkF m 7 #[.val (.ref a1), .val (.int q1), .val (.int q2), .val (.int q3), .val (.int q4), .unset, .unset, .unset] [(.int (mm - (1 : Int32)))]))) (fun t ht => XS.isub X180.here hx rfl (hb hby own_d15_6) rfl ht) ?_
  refine own_step (U' := (T180.setTop (mkF m 9 #[.val (.ref a1), .val (.int q1), .val (.int q2), .val (.int q3), .val (.int q4), .val (.int (mm - (1 : Int32))), .unset, .unset] []))) (fun t ht => XS.istore X180.here hx rfl (hb hby own_d15_7) rfl (l' := #[.val (.ref a1), .val (.int q1), .val (.int q2), .val (.int q3), .val (.int q4), .val (.int (mm - (1 : Int32))), .unset, .unset]) rfl ht) ?_
  refine own_step (U' := (T180.setTop (mkF m 10 #[.val (.ref a1), .val (.int q1), .val (.int q2), .val (.int q3), .val (.int q4), .val (.int (mm - (1 : Int32))), .unset, .unset] [(.int q3)]))) (fun t ht => XS.iloadN X180.here hx rfl (hb hby own_d15_9) rfl ht) ?_
  refine own_step (U' := (T180.setTop (mkF m 11 #[.val (.ref a1), .val (.int q1), .val (.int q2), .val (.int q3), .val (.int q4), .val (.int (mm - (1 : Int32))), .unset, .unset] [(.int q2), (.int q3)]))) (fun t ht => XS.iloadN X180.here hx rfl (hb hby own_d15_10) rfl ht) ?_
  refine own_step (U' := (T180.setTop (mkF m 14 #[.val (.ref a1), .val (.int q1), .val (.int q2), .val (.int q3), .val (.int q4), .val (.int (mm - (1 : Int32))), .unset, .unset] []))) (fun t ht => XS.icmpNo X180.here hx rfl (hb hby own_d15_11) rfl (XT.ii_ge_f (hq : q3 < q2)) ht) ?_
  refine own_step (U' := (T180.setTop (mkF m 15 #[.val (.ref a1), .val (.int q1), .val (.int q2), .val (.int q3), .val (.int q4), .val (.int (mm - (1 : Int32))), .unset, .unset] [(.ref a1)]))) (fun t ht => XS.aloadN X180.here hx rfl (hb hby own_d15_14) rfl rfl ht) ?_
  refine own_step (U' := (T180.setTop (mkF m 17 #[.val (.ref a1), .val (.int q1), .val (.int q2), .val (.int q3), .val (.int q4), .val (.int (mm - (1 : Int32))), .unset, .unset] [(.int (mm - (1 : Int32))), (.ref a1)]))) (fun t ht => XS.iload X180.here hx rfl (hb hby own_d15_15) rfl ht) ?_
  refine own_step (U' := (T180.setTop (mkF m 18 #[.val (.ref a1), .val (.int q1), .val (.int q2), .val (.int q3), .val (.int q4), .val (.int (mm - (1 : Int32))), .unset, .unset] [(.int (1 : Int32)), (.int (mm - (1 : Int32))), (.ref a1)]))) (fun t ht => XS.iconst X180.here hx rfl (hb hby own_d15_17) ht) ?_
  refine own_step (U' := (T180.setTop (mkF m 19 #[.val (.ref a1), .val (.int q1), .val (.int q2), .val (.int q3), .val (.int q4), .val (.int (mm - (1 : Int32))), .unset, .unset] [(.int ((mm - (1 : Int32)) + (1 : Int32))), (.ref a1)]))) (fun t ht => XS.iadd X180.here hx rfl (hb hby own_d15_18) rfl ht) ?_
  refine own_step (U' := (T180.setTop (mkF m 20 #[.val (.ref a1), .val (.int q1), .val (.int q2), .val (.int q3), .val (.int q4), .val (.int (mm - (1 : Int32))), .unset, .unset] [(.int q2), (.int ((mm - (1 : Int32)) + (1 : Int32))), (.ref a1)]))) (fun t ht => XS.iloadN X180.here hx rfl (hb hby own_d15_19) rfl ht) ?_
  refine own_step (U' := (T180.setTop (mkF m 21 #[.val (.ref a1), .val (.int q1), .val (.int q2), .val (.int q3), .val (.int q4), .val (.int (mm - (1 : Int32))), .unset, .unset] [(.int (((mm - (1 : Int32)) + (1 : Int32)) - q2)), (.ref a1)]))) (fun t ht => XS.isub X180.here hx rfl (hb hby own_d15_20) rfl ht) ?_
  obtain ⟨cq182, q182, q182'⟩ := Eb.cell
  obtain ⟨_, _, ⟨T182, L182, k182, n182⟩, -, X182, ⟨Lc182, hQ182, l182, y182, z182⟩, st182⟩ := X180.privateBack hx (y := (⟨"com/example/skip2/skip2/boyermoore/BoyerMooreSearcher", "table", "(I)[I"⟩ : MethodName)) hown (mvT hZ (hw _ (List.mem_of_getElem? (i := 100) rfl))) (mvT hZ (hw _ (List.mem_of_getElem? (i := 101) rfl))) (own_selp (z := (⟨"com/example/skip2/skip2/boyermoore/BoyerMooreSearcher", "period", "()I"⟩ : MethodName)) rfl (mvT hZ (hw _ (List.mem_of_getElem? (i := 90) rfl))) (Cond.privateMethod_at (mvP hZ (hw _ (List.mem_of_getElem? (i := 102) rfl)) (args := #[]))) (mvT hZ (hw _ (List.mem_of_getElem? (i := 101) rfl))) (by decide)) (Cond.privateMethod_at (mvP hZ (hw _ (List.mem_of_getElem? (i := 102) rfl)) (args := #[]))) (mvT hZ (hw _ (List.mem_of_getElem? (i := 103) rfl))) (by decide) (own_backP (PV := fun vm => Z.WarmedH vm) (fun _ q => State.WarmedH.trans hkv q) (W := 0) (own_m_tabB l Z a0 hw [] (a1) ((((mm - (1 : Int32)) + (1 : Int32)) - q2)) (b1) (bu) (se) (ka) (cs) (mm) (M) h0 n0 Z0 g_a1 ne_b1_a1 b6_ b7_ b8_ b9_ Eb Va hp1 hlt hm h1 h8 hcl hch) hZ (hw _ (List.mem_of_getElem? (i := 103) rfl)) (hw _ (List.mem_of_getElem? (i := 13) rfl)) (by decide) (by decide)) (g := (mkF m 21 #[.val (.ref a1), .val (.int q1), .val (.int q2), .val (.int q3), .val (.int q4), .val (.int (mm - (1 : Int32))), .unset, .unset] [(.int (((mm - (1 : Int32)) + (1 : Int32)) - q2)), (.ref a1)])) rfl (by rw [hml]; rfl) (Steps.refl _) (a := a1) (own_at e180 q182) q182' (argsL := [(.int (((mm - (1 : Int32)) + (1 : Int32)) - q2))]) (rest := []) (lenOf own_pd13 rfl) rfl (by show 2 * 0 + _ ≤ _; exact Nat.le_of_eq rfl) (hb hby own_d15_21) (fun _ _ => ⟨rfl, e180, (by decide : 0 + 4 ≤ _), (by decide : 0 + 26 ≤ _)⟩)
  dsimp only [Pt.U, Pt.locs, Pt.cells, Pt.slots] at X182 l182 y182 z182 st182 hQ182
  subst l182 y182 z182
  obtain ⟨r_182, kr_182, ys_182, rfl, Nq182, Kq182, sq_r_182, p182_0, p182_1, Fq182_0, Fq182_1, Fq182_2, Fq182_3, Fq182_4, Fq182_5⟩ := hQ182
  have N182 := Fr.app N0 Nq182
  have ne_a1_r_182 : a1 ≠ r_182 := Nat.ne_of_lt (Nat.lt_of_lt_of_le b6_.lt sq_r_182)
  have ne_b1_r_182 : b1 ≠ r_182 := Nat.ne_of_lt (Nat.lt_of_lt_of_le Va.lt sq_r_182)
  have g_r_182 : n0 ≤ r_182 := Nat.le_trans Z0 sq_r_182
  have sz_r_182 : h0.size ≤ r_182 := Nat.le_trans K0.1 sq_r_182
  have f182_4 := Eb.keep Kq182
  have f182_5 := Va.keep Kq182 (ninS ne_b1_a1 nin0)
  have K182 : Keep h0 T182.heap [a1] := K0.trans Kq182 (allS (Or.inl (by simp)) all0)
  refine own_step (U' := (T182.setTop (mkF m 24 #[.val (.ref a1), .val (.int q1), .val (.int q2), .val (.int q3), .val (.int q4), .val (.int (mm - (1 : Int32))), .unset, .unset] [(.ref r_182)]))) (fun t ht => st182.trans ht) ?_
  refine own_step (U' := (T182.setTop (mkF m 25 #[.val (.ref a1), .val (.int q1), .val (.int q2), .val (.int q3), .val (.int q4), .val (.int (mm - (1 : Int32))), .unset, .unset] []))) (fun t ht => XT.pop X182.here hx rfl (hb hby own_d15_24) rfl rfl ht) ?_
  refine own_step (U' := (T182.setTop (mkF m 26 #[.val (.ref a1), .val (.int q1), .val (.int q2), .val (.int q3), .val (.int q4), .val (.int (mm - (1 : Int32))), .unset, .unset] [(.int q1)]))) (fun t ht => XS.iloadN X182.here hx rfl (hb hby own_d15_25) rfl ht) ?_
  refine own_ret X182 (v := (some (.int q1))) (fun h => by rw [Bd.returns] at h; cases h) Bd.notSynchronized (by decide) (by decide) ?_ (fun fs hr => retI X182 hx Bd.returns (hb hby own_d15_26) hr)
  show own_Q_stpB Z a1 q1 q2 q3 q4 b1 bu se ka cs mm M h0 n0 _ T182.heap _
  show own_Q_stpB Z a1 q1 q2 q3 q4 b1 bu se ka cs mm M h0 n0 _ T182.heap _
  exact ⟨r_182, kr_182, ys_182, rfl, N182, K182, sz_r_182, p182_0, p182_1, Fq182_0, Fq182_1, Fq182_2, Fq182_3, Fq182_4, Fq182_5⟩
def own_Q_stpA (Z : State) (a1 : Addr) (q1 : Int32) (q2 : Int32) (q3 : Int32) (q4 : Int32) (b1 : Addr) (s1 : Addr) (ka : ClassId) (cs : List Int32) (mm : Int32) (M : Nat) (h0 : Heap) (n0 : Nat) (v : Option Value) (h : Heap) (L : List Loc) : Prop := v = some (.int q1) ∧ Fr n0 L ∧ h = h0
set_option maxRecDepth 65536 in
set_option maxHeartbeats 40000000 in
theorem own_m_stpA (l : Launch) (Z : State) (a0 : Array Value) (hw : ∀ d ∈ tables_1, d.before a0 Z = true) (ws : List Jvm.Cond) (a1 : Addr) (q1 : Int32) (q2 : Int32) (q3 : Int32) (q4 : Int32) (b1 : Addr) (s1 : Addr) (ka : ClassId) (cs : List Int32) (mm : Int32) (M : Nat) (h0 : Heap) (n0 : Nat) (Z0 : n0 ≤ h0.size) (Fp : Fld Z h0 a1 "com/example/skip2/skip2/boyermoore/BoyerMooreSearcher" "pattern" "[C" (.ref b1)) (Fg : Fld Z h0 a1 "com/example/skip2/skip2/boyermoore/BoyerMooreSearcher" "goodSuffixShift" "[I" (.ref s1)) (Ea : Exa Z h0 a1 "com/example/skip2/skip2/boyermoore/BoyerMooreSearcher") (Va : Arv Z h0 b1 ka .char mm (cs.map Value.int) (.int (0 : Int32))) (hq : q3 < q2) :
    MetFree l (⟨"com/example/skip2/skip2/boyermoore/BoyerMooreSearcher", "step", "(IIIC)I"⟩ : MethodName) (head1 (Jvm.Cond.code (⟨"com/example/skip2/skip2/boyermoore/BoyerMooreSearcher", "step", "(IIIC)I"⟩ : MethodName) prog_5_method_4_code 8 (some .int) :: ws) ({ frames := 1, cells := 0, slots := 0, locals := 14 } : Room)) (fun a U => a = #[(.ref a1), (.int q1), (.int q2), (.int q3), (.int q4)] ∧ Z.Warmed39 U.vm ∧ U.heap = h0) (fun _ _ _ _ _ => True) (fun _ U o U' => ∃ v L, o = .returned v ∧ own_Q_stpA Z a1 q1 q2 q3 q4 b1 s1 ka cs mm M h0 n0 v U'.heap L ∧ FrameEnd U o U' L ({ frames := 1, cells := 0, slots := 0, locals := 14 } : Room).cells ({ frames := 1, cells := 0, slots := 0, locals := 14 } : Room).slots) := by
  refine MetFree.of_bodySF (plainFor_of_name own_pn7) hisR ?_
  intro p e s m args below meth c s₁ Bd hml0 hP hK
  obtain ⟨rfl, hZ, hh⟩ := hP
  have hx := Bd.exec
  have hby := Bd.bytes
  have hml : c.maxLocals = 8 := hml0
  have hown : s.vm.findClass "com/example/skip2/skip2/boyermoore/BoyerMooreSearcher" = some m.cls := findClass_of_methodNamed Bd.named
  have hnm := (name_of_methodNamed Bd.named Bd.method).1
  have X0 : Stand p l e ({ frames := 1, cells := 0, slots := 0, locals := 14 } : Room) s m #[(.ref a1), (.int q1), (.int q2), (.int q3), (.int q4)] below meth c s₁ [] 0 0 := Stand.of_body Bd
  have e0 : s₁.heap = h0 := by rw [← hh, Bd.state]; rfl
  have N0 := Fr.nil n0
  have K0 : Keep h0 h0 [] := Keep.refl _ _
  show own_Go p e below s ({ frames := 1, cells := 0, slots := 0, locals := 14 } : Room).cells ({ frames := 1, cells := 0, slots := 0, locals := 14 } : Room).slots (own_Q_stpA Z a1 q1 q2 q3 q4 b1 s1 ka cs mm M h0 n0) (s₁.setTop (entryFrame m #[(.ref a1), (.int q1), (.int q2), (.int q3), (.int q4)] 8))
  have ef : entryFrame m #[(.ref a1), (.int q1), (.int q2), (.int q3), (.int q4)] 8 = (mkF m 0 #[.val (.ref a1), .val (.int q1), .val (.int q2), .val (.int q3), .val (.int q4), .unset, .unset, .unset] []) := by first | (simp [entryFrame, mkF, argsToLocals, Value.category, maxLocals]; done) | rfl
  rw [ef]
  show own_Go p e below s _ _ _ (s₁.setTop (mkF m 0 #[.val (.ref a1), .val (.int q1), .val (.int q2), .val (.int q3), .val (.int q4), .unset, .unset, .unset] []))
  refine own_step (U' := (s₁.setTop (mkF m 1 #[.val (.ref a1), .val (.int q1), .val (.int q2), .val (.int q3), .val (.int q4), .unset, .unset, .unset] [(.ref a1)]))) (fun t ht => XS.aloadN X0.here hx rfl (hb hby own_d15_0) rfl rfl ht) ?_
  obtain ⟨T183, X183, e183, st183⟩ := getF X0 hx hZ hown (host := "") (Or.inl (hw _ (List.mem_of_getElem? (i := 78) rfl))) Via.refl e0 Fp (g := (mkF m 1 #[.val (.ref a1), .val (.int q1), .val (.int q2), .val (.int q3), .val (.int q4), .unset, .unset, .unset] [(.ref a1)])) rfl rfl (hb hby own_d15_1)
  refine own_step (U' := (T183.setTop (mkF m 4 #[.val (.ref a1), .val (.int q1), .val (.int q2), .val (.int q3), .val (.int q4), .unset, .unset, .unset] [(.ref b1)]))) (fun t ht => st183 _ ht) ?_
  obtain ⟨cl184, Ar184, q184, S184, N184_, H184, G184⟩ := (id Va)
  refine own_step (U' := (T183.setTop (mkF m 5 #[.val (.ref a1), .val (.int q1), .val (.int q2), .val (.int q3), .val (.int q4), .unset, .unset, .unset] [(.int mm)]))) (fun t ht => X183.arraylength hx (own_at e183 Ar184.1) (State.isArrayOf_alike hZ.alike Ar184.2.1) (g := (mkF m 4 #[.val (.ref a1), .val (.int q1), .val (.int q2), .val (.int q3), .val (.int q4), .unset, .unset, .unset] [(.ref b1)])) rfl rfl (hb hby own_d15_4) _ (by rw [len_of S184 N184_]; exact ht)) ?_
  refine own_step (U' := (T183.setTop (mkF m 6 #[.val (.ref a1), .val (.int q1), .val (.int q2), .val (.int q3), .val (.int q4), .unset, .unset, .unset] [(.int (1 : Int32)), (.int mm)]))) (fun t ht => XS.iconst X183.here hx rfl (hb hby own_d15_5) ht) ?_
  refine own_step (U' := (T183.setTop (mkF m 7 #[.val (.ref a1), .val (.int q1), .val (.int q2), .val (.int q3), .val (.int q4), .unset, .unset, .unset] [(.int (mm - (1 : Int32)))]))) (fun t ht => XS.isub X183.here hx rfl (hb hby own_d15_6) rfl ht) ?_
  refine own_step (U' := (T183.setTop (mkF m 9 #[.val (.ref a1), .val (.int q1), .val (.int q2), .val (.int q3), .val (.int q4), .val (.int (mm - (1 : Int32))), .unset, .unset] []))) (fun t ht => XS.istore X183.here hx rfl (hb hby own_d15_7) rfl (l' := #[.val (.ref a1), .val (.int q1), .val (.int q2), .val (.int q3), .val (.int q4), .val (.int (mm - (1 : Int32))), .unset, .unset]) rfl ht) ?_
  refine own_step (U' := (T183.setTop (mkF m 10 #[.val (.ref a1), .val (.int q1), .val (.int q2), .val (.int q3), .val (.int q4), .val (.int (mm - (1 : Int32))), .unset, .unset] [(.int q3)]))) (fun t ht => XS.iloadN X183.here hx rfl (hb hby own_d15_9) rfl ht) ?_
  refine own_step (U' := (T183.setTop (mkF m 11 #[.val (.ref a1), .val (.int q1), .val (.int q2), .val (.int q3), .val (.int q4), .val (.int (mm - (1 : Int32))), .unset, .unset] [(.int q2), (.int q3)]))) (fun t ht => XS.iloadN X183.here hx rfl (hb hby own_d15_10) rfl ht) ?_
  refine own_step (U' := (T183.setTop (mkF m 14 #[.val (.ref a1), .val (.int q1), .val (.int q2), .val (.int q3), .val (.int q4), .val (.int (mm - (1 : Int32))), .unset, .unset] []))) (fun t ht => XS.icmpNo X183.here hx rfl (hb hby own_d15_11) rfl (XT.ii_ge_f (hq : q3 < q2)) ht) ?_
  refine own_step (U' := (T183.setTop (mkF m 15 #[.val (.ref a1), .val (.int q1), .val (.int q2), .val (.int q3), .val (.int q4), .val (.int (mm - (1 : Int32))), .unset, .unset] [(.ref a1)]))) (fun t ht => XS.aloadN X183.here hx rfl (hb hby own_d15_14) rfl rfl ht) ?_
  refine own_step (U' := (T183.setTop (mkF m 17 #[.val (.ref a1), .val (.int q1), .val (.int q2), .val (.int q3), .val (.int q4), .val (.int (mm - (1 : Int32))), .unset, .unset] [(.int (mm - (1 : Int32))), (.ref a1)]))) (fun t ht => XS.iload X183.here hx rfl (hb hby own_d15_15) rfl ht) ?_
  refine own_step (U' := (T183.setTop (mkF m 18 #[.val (.ref a1), .val (.int q1), .val (.int q2), .val (.int q3), .val (.int q4), .val (.int (mm - (1 : Int32))), .unset, .unset] [(.int (1 : Int32)), (.int (mm - (1 : Int32))), (.ref a1)]))) (fun t ht => XS.iconst X183.here hx rfl (hb hby own_d15_17) ht) ?_
  refine own_step (U' := (T183.setTop (mkF m 19 #[.val (.ref a1), .val (.int q1), .val (.int q2), .val (.int q3), .val (.int q4), .val (.int (mm - (1 : Int32))), .unset, .unset] [(.int ((mm - (1 : Int32)) + (1 : Int32))), (.ref a1)]))) (fun t ht => XS.iadd X183.here hx rfl (hb hby own_d15_18) rfl ht) ?_
  refine own_step (U' := (T183.setTop (mkF m 20 #[.val (.ref a1), .val (.int q1), .val (.int q2), .val (.int q3), .val (.int q4), .val (.int (mm - (1 : Int32))), .unset, .unset] [(.int q2), (.int ((mm - (1 : Int32)) + (1 : Int32))), (.ref a1)]))) (fun t ht => XS.iloadN X183.here hx rfl (hb hby own_d15_19) rfl ht) ?_
  refine own_step (U' := (T183.setTop (mkF m 21 #[.val (.ref a1), .val (.int q1), .val (.int q2), .val (.int q3), .val (.int q4), .val (.int (mm - (1 : Int32))), .unset, .unset] [(.int (((mm - (1 : Int32)) + (1 : Int32)) - q2)), (.ref a1)]))) (fun t ht => XS.isub X183.here hx rfl (hb hby own_d15_20) rfl ht) ?_
  obtain ⟨cq185, q185, q185'⟩ := Ea.cell
  obtain ⟨_, _, ⟨T185, L185, k185, n185⟩, -, X185, ⟨Lc185, hQ185, l185, y185, z185⟩, st185⟩ := X183.privateBack hx (y := (⟨"com/example/skip2/skip2/boyermoore/BoyerMooreSearcher", "table", "(I)[I"⟩ : MethodName)) hown (mvT hZ (hw _ (List.mem_of_getElem? (i := 100) rfl))) (mvT hZ (hw _ (List.mem_of_getElem? (i := 101) rfl))) (own_selp (z := (⟨"com/example/skip2/skip2/boyermoore/BoyerMooreSearcher", "period", "()I"⟩ : MethodName)) rfl (mvT hZ (hw _ (List.mem_of_getElem? (i := 90) rfl))) (Cond.privateMethod_at (mvP hZ (hw _ (List.mem_of_getElem? (i := 102) rfl)) (args := #[]))) (mvT hZ (hw _ (List.mem_of_getElem? (i := 101) rfl))) (by decide)) (Cond.privateMethod_at (mvP hZ (hw _ (List.mem_of_getElem? (i := 102) rfl)) (args := #[]))) (mvT hZ (hw _ (List.mem_of_getElem? (i := 103) rfl))) (by decide) (backOf (W := 0) (own_m_tabA l Z a0 hw [] (a1) ((((mm - (1 : Int32)) + (1 : Int32)) - q2)) (s1) h0 n0 Z0 Fg) hZ (hw _ (List.mem_of_getElem? (i := 103) rfl)) (hw _ (List.mem_of_getElem? (i := 13) rfl)) (by decide) (by decide)) (g := (mkF m 21 #[.val (.ref a1), .val (.int q1), .val (.int q2), .val (.int q3), .val (.int q4), .val (.int (mm - (1 : Int32))), .unset, .unset] [(.int (((mm - (1 : Int32)) + (1 : Int32)) - q2)), (.ref a1)])) rfl (by rw [hml]; rfl) (Steps.refl _) (a := a1) (own_at e183 q185) q185' (argsL := [(.int (((mm - (1 : Int32)) + (1 : Int32)) - q2))]) (rest := []) (lenOf own_pd13 rfl) rfl (by show 2 * 0 + _ ≤ _; exact Nat.le_of_eq rfl) (hb hby own_d15_21) (fun _ _ => ⟨rfl, e183, (by decide : 0 + 0 ≤ _), (by decide : 0 + 0 ≤ _)⟩)
  dsimp only [Pt.U, Pt.locs, Pt.cells, Pt.slots] at X185 l185 y185 z185 st185 hQ185
  subst l185 y185 z185
  obtain ⟨rfl, Nq185, Kq185⟩ := hQ185
  have N185 := Fr.app N0 Nq185
  have e185 : T185.heap = h0 := Kq185
  refine own_step (U' := (T185.setTop (mkF m 24 #[.val (.ref a1), .val (.int q1), .val (.int q2), .val (.int q3), .val (.int q4), .val (.int (mm - (1 : Int32))), .unset, .unset] [(.ref s1)]))) (fun t ht => st185.trans ht) ?_
  refine own_step (U' := (T185.setTop (mkF m 25 #[.val (.ref a1), .val (.int q1), .val (.int q2), .val (.int q3), .val (.int q4), .val (.int (mm - (1 : Int32))), .unset, .unset] []))) (fun t ht => XT.pop X185.here hx rfl (hb hby own_d15_24) rfl rfl ht) ?_
  refine own_step (U' := (T185.setTop (mkF m 26 #[.val (.ref a1), .val (.int q1), .val (.int q2), .val (.int q3), .val (.int q4), .val (.int (mm - (1 : Int32))), .unset, .unset] [(.int q1)]))) (fun t ht => XS.iloadN X185.here hx rfl (hb hby own_d15_25) rfl ht) ?_
  refine own_ret X185 (v := (some (.int q1))) (fun h => by rw [Bd.returns] at h; cases h) Bd.notSynchronized (by decide) (by decide) ?_ (fun fs hr => retI X185 hx Bd.returns (hb hby own_d15_26) hr)
  show own_Q_stpA Z a1 q1 q2 q3 q4 b1 s1 ka cs mm M h0 n0 _ T185.heap _
  rw [e185]
  exact ⟨rfl, N185, rfl⟩
theorem own_mM {x n : Int32} (h : (1 : Int32) + (x &&& (7 : Int32)) = n) : ∃ M : Nat, n.toInt = (M : Int) ∧ 1 ≤ M ∧ M ≤ 8 := by
  have h1 := Jvm.Kit.i32_mask x 7 (k := 3) (by decide) (by decide)
  have e1 : (1 : Int32).toInt = 1 := rfl
  have h2 : n.toInt = 1 + (x &&& (7 : Int32)).toInt := by rw [← h, Jvm.Kit.i32_add (by omega) (by omega), e1]
  exact ⟨n.toInt.toNat, by omega, by omega, by omega⟩
theorem own_kk {x mm k : Int32} {M : Nat} (hm : mm.toInt = (M : Int)) (h1 : 1 ≤ M) (h : (x &&& (2147483647 : Int32)) % mm = k) : ∃ K : Nat, k.toInt = (K : Int) ∧ K < M := by
  have q1 := Jvm.Kit.i32_mask x 2147483647 (k := 31) (by decide) (by decide)
  have q2 : k.toInt = (x &&& (2147483647 : Int32)).toInt % M := by rw [← h, Jvm.Kit.i32_rem_nonneg (by omega), hm]
  have q3 := Int.emod_nonneg (x &&& (2147483647 : Int32)).toInt (b := (M : Int)) (by omega)
  have q4 := Int.emod_lt_of_pos (x &&& (2147483647 : Int32)).toInt (b := (M : Int)) (by omega)
  exact ⟨k.toInt.toNat, by omega, by omega⟩
theorem own_mnz {mm : Int32} {M : Nat} (hm : mm.toInt = (M : Int)) (h1 : 1 ≤ M) : mm ≠ 0 := fun q => by
  have e0 : (0 : Int32).toInt = 0 := rfl
  rw [q, e0] at hm; omega
theorem own_arg {mm k : Int32} {M K : Nat} (hm : mm.toInt = (M : Int)) (h1 : 1 ≤ M) (h8 : M ≤ 8) (hk : k.toInt = (K : Int)) (h : K < M) : (((mm - (1 : Int32)) + (1 : Int32)) - k).toInt = ((M - K : Nat) : Int) := by
  have q1 := own_incN (own_pre1 hm h1 h8) (by omega)
  rw [show M - 1 + 1 = M by omega] at q1
  exact own_subN q1 hk (by omega) (by omega)
theorem own_argp {mm k : Int32} {M K : Nat} (hm : mm.toInt = (M : Int)) (h1 : 1 ≤ M) (h8 : M ≤ 8) (hk : k.toInt = (K : Int)) (h : K < M) : 0 < (((mm - (1 : Int32)) + (1 : Int32)) - k) := (own_lti (i := 0) rfl (own_arg hm h1 h8 hk h)).mpr (by omega)
theorem own_kpre {k : Int32} {K : Nat} (hk : k.toInt = (K : Int)) (h : K < 8) : k - (1 : Int32) < k := by
  have e1 : (1 : Int32).toInt = 1 := rfl
  rw [Int32.lt_iff_toInt_lt, Jvm.Kit.i32_sub (by omega) (by omega), e1]; omega
theorem own_first {mm k : Int32} {M K : Nat} (hm : mm.toInt = (M : Int)) (h1 : 1 ≤ M) (h8 : M ≤ 8) (hk : k.toInt = (K : Int)) (h : K < M) : own_spn (0 : Int32) (((mm - (1 : Int32)) + (1 : Int32)) - k) < own_bud mm ↔ (8 : Int32) + (mm - k) < (2 : Int32) * mm := by
  have q1 := own_spn2 (sp := (0 : Int32)) (a := 0) rfl (own_arg hm h1 h8 hk h) (by omega)
  have q2 := own_bud2 hm h8
  have q3 := own_subN hm hk (by omega) (by omega)
  have q4 := own_addN (x := (8 : Int32)) (i := 8) rfl q3 (by omega)
  have e2 : (2 : Int32).toInt = 2 := rfl
  have q5 : ((2 : Int32) * mm).toInt = ((2 * M : Nat) : Int) := by rw [Jvm.Kit.i32_mul (by rw [e2]; omega) (by rw [e2]; omega), e2, hm]; omega
  rw [own_lti q1 q2, own_lti q4 q5] <;> omega
theorem own_second {mm k : Int32} {M K : Nat} (hm : mm.toInt = (M : Int)) (h1 : 1 ≤ M) (h8 : M ≤ 8) (hk : k.toInt = (K : Int)) (h : K < M) : ¬ own_spn (own_spn (0 : Int32) (((mm - (1 : Int32)) + (1 : Int32)) - k)) (((mm - (1 : Int32)) + (1 : Int32)) - (0 : Int32)) < own_bud mm := by
  have q1 := own_spn2 (sp := (0 : Int32)) (a := 0) rfl (own_arg hm h1 h8 hk h) (by omega)
  have q0 := own_arg hm h1 h8 (k := (0 : Int32)) (K := 0) rfl (by omega)
  have q3 := own_spn2 q1 q0 (by omega)
  have q2 := own_bud2 hm h8
  rw [own_lti q3 q2]; omega
theorem own_chset {xs : List Int32} {i : Nat} {v : Int32} (h : ∀ c ∈ xs, own_ch c = c) (hv : own_ch v = v) : ∀ c ∈ xs.set i v, own_ch c = c := fun c hc => by
  rcases List.mem_or_eq_of_mem_set hc with q | q
  · exact h c q
  · rw [q]; exact hv
theorem own_chrep {M : Nat} : ∀ c ∈ List.replicate M (0 : Int32), own_ch c = c := fun c hc => by
  rw [List.eq_of_mem_replicate hc]; rfl
theorem own_pd14 : parseMethodDescriptor "()I" = some ⟨[], some .int⟩ := by decide +kernel
theorem own_pd15 : parseMethodDescriptor "(IIIC)I" = some ⟨[.int, .int, .int, .char], some .int⟩ := by decide +kernel
def own_Q_law (Z : State) (p1 : Int64) (p2 : Int64) (p3 : Int32) (p4 : Int32) (p5 : Int32) (h0 : Heap) (n0 : Nat) (v : Option Value) (h : Heap) (L : List Loc) : Prop := v = some (.int 1) ∧ Fr n0 L
set_option maxRecDepth 65536 in
set_option maxHeartbeats 40000000 in
theorem own_m_law (l : Launch) (Z : State) (a0 : Array Value) (hw : ∀ d ∈ tables_1, d.before a0 Z = true) (ws : List Jvm.Cond) (p1 : Int64) (p2 : Int64) (p3 : Int32) (p4 : Int32) (p5 : Int32) (h0 : Heap) (n0 : Nat) (Z0 : n0 ≤ h0.size)  :
    MetFree l x (head1 (Jvm.Cond.code x code maxLocals ret :: ws) room_1) (fun a U => a = #[(.long p1), (.long p2), (.int p3), (.int p4), (.int p5)] ∧ Z.Warmed39 U.vm ∧ U.heap = h0 ∧ Z.WarmedH U.vm) (fun _ _ _ _ _ => True) (fun _ U o U' => ∃ v L, o = .returned v ∧ own_Q_law Z p1 p2 p3 p4 p5 h0 n0 v U'.heap L ∧ FrameEnd U o U' L 7 57) := by
  refine MetFree.of_bodySF (plainFor_of_name own_pn0) hisR ?_
  intro p e s m args below meth c s₁ Bd hml0 hP hK
  obtain ⟨rfl, hZ, hh, hkv⟩ := hP
  have hx := Bd.exec
  have hby := Bd.bytes
  have hml : c.maxLocals = 17 := hml0
  have hown : s.vm.findClass "com/example/skip2/skip2/boyermoore/BoyerMooreSearcherPeriodPinLaw" = some m.cls := findClass_of_methodNamed Bd.named
  have hnm := (name_of_methodNamed Bd.named Bd.method).1
  have X0 : Stand p l e room_1 s m #[(.long p1), (.long p2), (.int p3), (.int p4), (.int p5)] below meth c s₁ [] 0 0 := Stand.of_body Bd
  have e0 : s₁.heap = h0 := by rw [← hh, Bd.state]; rfl
  have N0 := Fr.nil n0
  have K0 : Keep h0 h0 [] := Keep.refl _ _
  show own_Go p e below s 7 57 (own_Q_law Z p1 p2 p3 p4 p5 h0 n0) (s₁.setTop (entryFrame m #[(.long p1), (.long p2), (.int p3), (.int p4), (.int p5)] maxLocals))
  have ef : entryFrame m #[(.long p1), (.long p2), (.int p3), (.int p4), (.int p5)] maxLocals = (mkF m 0 #[.val (.long p1), .second, .val (.long p2), .second, .val (.int p3), .val (.int p4), .val (.int p5), .unset, .unset, .unset, .unset, .unset, .unset, .unset, .unset, .unset, .unset] []) := by first | (simp [entryFrame, mkF, argsToLocals, Value.category, maxLocals]; done) | rfl
  rw [ef]
  show own_Go p e below s _ _ _ (s₁.setTop (mkF m 0 #[.val (.long p1), .second, .val (.long p2), .second, .val (.int p3), .val (.int p4), .val (.int p5), .unset, .unset, .unset, .unset, .unset, .unset, .unset, .unset, .unset, .unset] []))
  refine own_step (U' := (s₁.setTop (mkF m 1 #[.val (.long p1), .second, .val (.long p2), .second, .val (.int p3), .val (.int p4), .val (.int p5), .unset, .unset, .unset, .unset, .unset, .unset, .unset, .unset, .unset, .unset] [(.int (1 : Int32))]))) (fun t ht => XS.iconst X0.here hx rfl (hb hby at_0) ht) ?_
  refine own_step (U' := (s₁.setTop (mkF m 3 #[.val (.long p1), .second, .val (.long p2), .second, .val (.int p3), .val (.int p4), .val (.int p5), .unset, .unset, .unset, .unset, .unset, .unset, .unset, .unset, .unset, .unset] [(.int p3), (.int (1 : Int32))]))) (fun t ht => XS.iload X0.here hx rfl (hb hby at_1) rfl ht) ?_
  refine own_step (U' := (s₁.setTop (mkF m 5 #[.val (.long p1), .second, .val (.long p2), .second, .val (.int p3), .val (.int p4), .val (.int p5), .unset, .unset, .unset, .unset, .unset, .unset, .unset, .unset, .unset, .unset] [(.int (7 : Int32)), (.int p3), (.int (1 : Int32))]))) (fun t ht => XS.bipush X0.here hx rfl (hb hby at_3) ht) ?_
  refine own_step (U' := (s₁.setTop (mkF m 6 #[.val (.long p1), .second, .val (.long p2), .second, .val (.int p3), .val (.int p4), .val (.int p5), .unset, .unset, .unset, .unset, .unset, .unset, .unset, .unset, .unset, .unset] [(.int (p3 &&& (7 : Int32))), (.int (1 : Int32))]))) (fun t ht => XS.iand X0.here hx rfl (hb hby at_5) rfl ht) ?_
  refine own_step (U' := (s₁.setTop (mkF m 7 #[.val (.long p1), .second, .val (.long p2), .second, .val (.int p3), .val (.int p4), .val (.int p5), .unset, .unset, .unset, .unset, .unset, .unset, .unset, .unset, .unset, .unset] [(.int ((1 : Int32) + (p3 &&& (7 : Int32))))]))) (fun t ht => XS.iadd X0.here hx rfl (hb hby at_6) rfl ht) ?_
  refine own_step (U' := (s₁.setTop (mkF m 9 #[.val (.long p1), .second, .val (.long p2), .second, .val (.int p3), .val (.int p4), .val (.int p5), .val (.int ((1 : Int32) + (p3 &&& (7 : Int32)))), .unset, .unset, .unset, .unset, .unset, .unset, .unset, .unset, .unset] []))) (fun t ht => XS.istore X0.here hx rfl (hb hby at_7) rfl (l' := #[.val (.long p1), .second, .val (.long p2), .second, .val (.int p3), .val (.int p4), .val (.int p5), .val (.int ((1 : Int32) + (p3 &&& (7 : Int32)))), .unset, .unset, .unset, .unset, .unset, .unset, .unset, .unset, .unset]) rfl ht) ?_
  generalize h_mm : ((1 : Int32) + (p3 &&& (7 : Int32))) = mm
  obtain ⟨M, hm, h1, h8⟩ := own_mM h_mm
  have tail22 : ∀ (mk : Int32), own_Go p e below s 7 57 (own_Q_law Z p1 p2 p3 p4 p5 h0 n0) (s₁.setTop (mkF m 22 #[.val (.long p1), .second, .val (.long p2), .second, .val (.int p3), .val (.int p4), .val (.int p5), .val (.int mm), .unset, .unset, .unset, .unset, .unset, .unset, .unset, .unset, .unset] [(.int mk)])) := by
    intro mk
    refine own_step (U' := (s₁.setTop (mkF m 24 #[.val (.long p1), .second, .val (.long p2), .second, .val (.int p3), .val (.int p4), .val (.int p5), .val (.int mm), .val (.int mk), .unset, .unset, .unset, .unset, .unset, .unset, .unset, .unset] []))) (fun t ht => XS.istore X0.here hx rfl (hb hby at_22) rfl (l' := #[.val (.long p1), .second, .val (.long p2), .second, .val (.int p3), .val (.int p4), .val (.int p5), .val (.int mm), .val (.int mk), .unset, .unset, .unset, .unset, .unset, .unset, .unset, .unset]) rfl ht) ?_
    refine own_step (U' := (s₁.setTop (mkF m 26 #[.val (.long p1), .second, .val (.long p2), .second, .val (.int p3), .val (.int p4), .val (.int p5), .val (.int mm), .val (.int mk), .unset, .unset, .unset, .unset, .unset, .unset, .unset, .unset] [(.int mm)]))) (fun t ht => XS.iload X0.here hx rfl (hb hby at_24) rfl ht) ?_
    obtain ⟨T187, h187, k187, X187, e187, E187, A187, st187⟩ := newP X0 hx hZ (hw _ (List.mem_of_getElem? (i := 0) rfl)) e0 (g := (mkF m 26 #[.val (.long p1), .second, .val (.long p2), .second, .val (.int p3), .val (.int p4), .val (.int p5), .val (.int mm), .val (.int mk), .unset, .unset, .unset, .unset, .unset, .unset, .unset, .unset] [(.int mm)])) rfl (hb hby at_26) rfl (own_nn hm) (cap := 8) (own_cap hm h8) (by decide) (by decide) (by decide)
    obtain ⟨b187, g187⟩ : ∃ z, z = (h0).size := ⟨_, rfl⟩
    rw [← g187] at A187 st187
    have g_b187 : n0 ≤ b187 := Nat.le_trans (Nat.le_trans Z0 K0.1) (Nat.le_of_eq g187.symm)
    have sz_b187 : h0.size ≤ b187 := Nat.le_trans K0.1 (Nat.le_of_eq g187.symm)
    have K187 : Keep h0 h187 [] := K0.ext E187
    have V187 : Arv Z h187 b187 k187 .char mm ((List.replicate M (0 : Int32)).map Value.int) (.int (0 : Int32)) := (show Arv Z h187 b187 k187 .char mm [] (.int (0 : Int32)) from Arv.new A187 (own_nn hm)).pad (own_rep M)
    refine own_step (U' := (T187.setTop (mkF m 28 #[.val (.long p1), .second, .val (.long p2), .second, .val (.int p3), .val (.int p4), .val (.int p5), .val (.int mm), .val (.int mk), .unset, .unset, .unset, .unset, .unset, .unset, .unset, .unset] [(.ref b187)]))) (fun t ht => st187 _ ht) ?_
    refine own_step (U' := (T187.setTop (mkF m 30 #[.val (.long p1), .second, .val (.long p2), .second, .val (.int p3), .val (.int p4), .val (.int p5), .val (.int mm), .val (.int mk), .val (.ref b187), .unset, .unset, .unset, .unset, .unset, .unset, .unset] []))) (fun t ht => XS.astore X187.here hx rfl (hb hby at_28) rfl rfl (l' := #[.val (.long p1), .second, .val (.long p2), .second, .val (.int p3), .val (.int p4), .val (.int p5), .val (.int mm), .val (.int mk), .val (.ref b187), .unset, .unset, .unset, .unset, .unset, .unset, .unset]) rfl ht) ?_
    have gen182 : ∀ (cs : List Int32) (Tw182 : State) (Lw182 : List Loc) (Xw182 : Stand p l e room_1 s m #[(.long p1), (.long p2), (.int p3), (.int p4), (.int p5)] below meth c Tw182 Lw182 1 8) (Nw182 : Fr n0 Lw182) (Kw182 : Keep h0 Tw182.heap []) (fw1820 : Arv Z Tw182.heap b187 k187 .char mm (cs.map Value.int) (.int (0 : Int32))) (hcl : cs.length = M) (hch : ∀ c ∈ cs, own_ch c = c), own_Go p e below s 7 57 (own_Q_law Z p1 p2 p3 p4 p5 h0 n0) (Tw182.setTop (mkF m 182 #[.val (.long p1), .second, .val (.long p2), .second, .val (.int p3), .val (.int p4), .val (.int p5), .val (.int mm), .val (.int mk), .val (.ref b187), .unset, .unset, .unset, .unset, .unset, .unset, .unset] [])) := by
      intro cs Tw182 Lw182 Xw182 Nw182 Kw182 fw1820 hcl hch
      refine own_step (U' := (Tw182.setTop (mkF m 184 #[.val (.long p1), .second, .val (.long p2), .second, .val (.int p3), .val (.int p4), .val (.int p5), .val (.int mm), .val (.int mk), .val (.ref b187), .unset, .unset, .unset, .unset, .unset, .unset, .unset] [(.ref b187)]))) (fun t ht => XS.aload Xw182.here hx rfl (hb hby at_182) rfl rfl ht) ?_
      refine own_step (U' := (Tw182.setTop (mkF m 186 #[.val (.long p1), .second, .val (.long p2), .second, .val (.int p3), .val (.int p4), .val (.int p5), .val (.int mm), .val (.int mk), .val (.ref b187), .unset, .unset, .unset, .unset, .unset, .unset, .unset] [(.int mm), (.ref b187)]))) (fun t ht => XS.iload Xw182.here hx rfl (hb hby at_184) rfl ht) ?_
      obtain ⟨_, _, ⟨T188, L188, k188, n188⟩, -, X188, ⟨Lc188, hQ188, l188, y188, z188⟩, st188⟩ := Jvm.LawKit.callS Xw182 hx (y := (⟨"com/example/skip2/skip2/boyermoore/BoyerMooreSearcherPeriodPinLaw", "smallestPeriod", "([CI)I"⟩ : MethodName)) hown (mvT hZ (hw _ (List.mem_of_getElem? (i := 1) rfl))) (mvT hZ (hw _ (List.mem_of_getElem? (i := 2) rfl))) (mvT hZ (hw _ (List.mem_of_getElem? (i := 3) rfl))) (mvT hZ (hw _ (List.mem_of_getElem? (i := 4) rfl))) (by decide) (backOf (W := 0) (own_m_smp l Z a0 hw [] (b187) (mm) (k187) (cs) (M) Tw182.heap n0 (Nat.le_trans Z0 Kw182.1) fw1820 hm) hZ (hw _ (List.mem_of_getElem? (i := 4) rfl)) (hw _ (List.mem_of_getElem? (i := 3) rfl)) (by decide) (by decide)) (g := (mkF m 186 #[.val (.long p1), .second, .val (.long p2), .second, .val (.int p3), .val (.int p4), .val (.int p5), .val (.int mm), .val (.int mk), .val (.ref b187), .unset, .unset, .unset, .unset, .unset, .unset, .unset] [(.int mm), (.ref b187)])) rfl (by rw [hml]; rfl) (argsL := [(.ref b187), (.int mm)]) (rest := []) (lenOf own_pd3 rfl) rfl (by show 2 * 0 + _ ≤ _; exact Nat.le_of_eq rfl) (hb hby at_186) (fun _ _ => ⟨rfl, rfl, (by decide : 1 + 0 ≤ _), (by decide : 8 + 0 ≤ _)⟩)
      dsimp only [Pt.U, Pt.locs, Pt.cells, Pt.slots] at X188 l188 y188 z188 st188 hQ188
      subst l188 y188 z188
      obtain ⟨rfl, Nq188, Kq188⟩ := hQ188
      have N188 := Fr.app Nw182 Nq188
      have e188 : T188.heap = Tw182.heap := Kq188
      refine own_step (U' := (T188.setTop (mkF m 189 #[.val (.long p1), .second, .val (.long p2), .second, .val (.int p3), .val (.int p4), .val (.int p5), .val (.int mm), .val (.int mk), .val (.ref b187), .unset, .unset, .unset, .unset, .unset, .unset, .unset] [(.int (own_sp cs mm))]))) (fun t ht => st188 _ ht) ?_
      refine own_step (U' := (T188.setTop (mkF m 191 #[.val (.long p1), .second, .val (.long p2), .second, .val (.int p3), .val (.int p4), .val (.int p5), .val (.int mm), .val (.int mk), .val (.ref b187), .val (.int (own_sp cs mm)), .unset, .unset, .unset, .unset, .unset, .unset] []))) (fun t ht => XS.istore X188.here hx rfl (hb hby at_189) rfl (l' := #[.val (.long p1), .second, .val (.long p2), .second, .val (.int p3), .val (.int p4), .val (.int p5), .val (.int mm), .val (.int mk), .val (.ref b187), .val (.int (own_sp cs mm)), .unset, .unset, .unset, .unset, .unset, .unset]) rfl ht) ?_
      obtain ⟨T189, h189, X189, e189, E189, A189, D189, -, st189⟩ := newO X188 hx hZ hown (hw _ (List.mem_of_getElem? (i := 11) rfl)) (hw _ (List.mem_of_getElem? (i := 12) rfl)) (hw _ (List.mem_of_getElem? (i := 13) rfl)) e188 (g := (mkF m 191 #[.val (.long p1), .second, .val (.long p2), .second, .val (.int p3), .val (.int p4), .val (.int p5), .val (.int mm), .val (.int mk), .val (.ref b187), .val (.int (own_sp cs mm)), .unset, .unset, .unset, .unset, .unset, .unset] [])) rfl (hb hby at_191) (by decide) (by decide)
      obtain ⟨b189, g189⟩ : ∃ z, z = (Tw182.heap).size := ⟨_, rfl⟩
      rw [← g189] at A189 D189 st189
      have ne_b187_b189 : b187 ≠ b189 := Nat.ne_of_lt (Nat.lt_of_lt_of_le fw1820.lt (Nat.le_of_eq g189.symm))
      have g_b189 : n0 ≤ b189 := Nat.le_trans (Nat.le_trans Z0 Kw182.1) (Nat.le_of_eq g189.symm)
      have sz_b189 : h0.size ≤ b189 := Nat.le_trans Kw182.1 (Nat.le_of_eq g189.symm)
      have f189_0 := fw1820.ext E189
      have K189 : Keep h0 h189 [] := Kw182.ext E189
      have F189_31 : Fld Z h189 b189 "com/example/skip2/skip2/windowsearch/WindowSearcher" "length" "I" (.int (0 : Int32)) := D189 (Or.inr (hw _ (List.mem_of_getElem? (i := 31) rfl))) (ty := .int) (by decide)
      have F189_33 : Fld Z h189 b189 "com/example/skip2/skip2/windowsearch/SkipSearcher" "pattern" "[C" .null := D189 (Or.inr (hw _ (List.mem_of_getElem? (i := 33) rfl))) (ty := (.array .char)) (by decide)
      have F189_35 : Fld Z h189 b189 "com/example/skip2/skip2/windowsearch/SkipSearcher" "length" "I" (.int (0 : Int32)) := D189 (Or.inr (hw _ (List.mem_of_getElem? (i := 35) rfl))) (ty := .int) (by decide)
      have F189_75 : Fld Z h189 b189 "com/example/skip2/skip2/windowsearch/SkipSearcher" "flagSearch" "Lcom/example/skip2/skip2/windowsearch/FlagSearch;" .null := D189 (Or.inr (hw _ (List.mem_of_getElem? (i := 75) rfl))) (ty := (.object "com/example/skip2/skip2/windowsearch/FlagSearch")) (by decide)
      have F189_77 : Fld Z h189 b189 "com/example/skip2/skip2/windowsearch/SkipSearcher" "byPairs" "Z" (.int (0 : Int32)) := D189 (Or.inr (hw _ (List.mem_of_getElem? (i := 77) rfl))) (ty := .boolean) (by decide)
      have F189_79 : Fld Z h189 b189 "com/example/skip2/skip2/boyermoore/BoyerMooreSearcher" "pattern" "[C" .null := D189 (Or.inr (hw _ (List.mem_of_getElem? (i := 79) rfl))) (ty := (.array .char)) (by decide)
      have F189_86 : Fld Z h189 b189 "com/example/skip2/skip2/boyermoore/BoyerMooreSearcher" "budget" "I" (.int (0 : Int32)) := D189 (Or.inr (hw _ (List.mem_of_getElem? (i := 86) rfl))) (ty := .int) (by decide)
      have F189_93 : Fld Z h189 b189 "com/example/skip2/skip2/boyermoore/BoyerMooreSearcher" "goodSuffixShift" "[I" .null := D189 (Or.inl (hw _ (List.mem_of_getElem? (i := 93) rfl))) (ty := (.array .int)) (by decide)
      have F189_105 : Fld Z h189 b189 "com/example/skip2/skip2/boyermoore/BoyerMooreSearcher" "spent" "I" (.int (0 : Int32)) := D189 (Or.inl (hw _ (List.mem_of_getElem? (i := 105) rfl))) (ty := .int) (by decide)
      refine own_step (U' := (T189.setTop (mkF m 194 #[.val (.long p1), .second, .val (.long p2), .second, .val (.int p3), .val (.int p4), .val (.int p5), .val (.int mm), .val (.int mk), .val (.ref b187), .val (.int (own_sp cs mm)), .unset, .unset, .unset, .unset, .unset, .unset] [(.ref b189)]))) (fun t ht => st189 _ ht) ?_
      refine own_step (U' := (T189.setTop (mkF m 195 #[.val (.long p1), .second, .val (.long p2), .second, .val (.int p3), .val (.int p4), .val (.int p5), .val (.int mm), .val (.int mk), .val (.ref b187), .val (.int (own_sp cs mm)), .unset, .unset, .unset, .unset, .unset, .unset] [(.ref b189), (.ref b189)]))) (fun t ht => XS.dup X189.here hx rfl (hb hby at_194) rfl rfl ht) ?_
      refine own_step (U' := (T189.setTop (mkF m 197 #[.val (.long p1), .second, .val (.long p2), .second, .val (.int p3), .val (.int p4), .val (.int p5), .val (.int mm), .val (.int mk), .val (.ref b187), .val (.int (own_sp cs mm)), .unset, .unset, .unset, .unset, .unset, .unset] [(.ref b187), (.ref b189), (.ref b189)]))) (fun t ht => XS.aload X189.here hx rfl (hb hby at_195) rfl rfl ht) ?_
      obtain ⟨_, _, ⟨T190, L190, k190, n190⟩, -, X190, ⟨Lc190, hQ190, l190, y190, z190⟩, st190⟩ := X189.specialBack hx (y := (⟨"com/example/skip2/skip2/boyermoore/BoyerMooreSearcher", "<init>", "([C)V"⟩ : MethodName)) rfl hown (mvT hZ (hw _ (List.mem_of_getElem? (i := 14) rfl))) (mvT hZ (hw _ (List.mem_of_getElem? (i := 15) rfl))) (mvT hZ (hw _ (List.mem_of_getElem? (i := 16) rfl))) (by decide) (backOf (W := 1) (own_m_bmi l Z a0 hw [] (b189) (b187) (k187) (cs) (mm) (M) ((.int (0 : Int32))) (.null) ((.int (0 : Int32))) (.null) ((.int (0 : Int32))) h189 n0 (Nat.le_trans Z0 K189.1) g_b189 ne_b187_b189 F189_31 F189_33 F189_35 F189_75 F189_77 F189_79 F189_86 F189_93 F189_105 A189 f189_0 hm h1 h8) hZ (hw _ (List.mem_of_getElem? (i := 16) rfl)) (hw _ (List.mem_of_getElem? (i := 13) rfl)) (by decide) (by decide)) (g := (mkF m 197 #[.val (.long p1), .second, .val (.long p2), .second, .val (.int p3), .val (.int p4), .val (.int p5), .val (.int mm), .val (.int mk), .val (.ref b187), .val (.int (own_sp cs mm)), .unset, .unset, .unset, .unset, .unset, .unset] [(.ref b187), (.ref b189), (.ref b189)])) rfl (by rw [hml]; rfl) (Steps.refl _) (a := b189) (argsL := [(.ref b187)]) (rest := [(.ref b189)]) (lenOf own_pd6 rfl) rfl (by show 2 * 0 + _ ≤ _; exact Nat.le_of_eq rfl) (hb hby at_197) (fun _ _ => ⟨rfl, e189, (by decide : 2 + 1 ≤ _), (by decide : 22 + 9 ≤ _)⟩)
      dsimp only [Pt.U, Pt.locs, Pt.cells, Pt.slots] at X190 l190 y190 z190 st190 hQ190
      subst l190 y190 z190
      obtain ⟨rfl, Nq190, Kq190, Fq190_0, Fq190_1, Fq190_2, Fq190_3, Fq190_4⟩ := hQ190
      have N190 := Fr.app N188 Nq190
      have f190_0 := f189_0.keep Kq190 (ninS ne_b187_b189 nin0)
      have f190_1 := A189.keep Kq190
      have K190 : Keep h0 T190.heap [] := K189.trans Kq190 (allS (Or.inr sz_b189) all0)
      refine own_step (U' := (T190.setTop (mkF m 200 #[.val (.long p1), .second, .val (.long p2), .second, .val (.int p3), .val (.int p4), .val (.int p5), .val (.int mm), .val (.int mk), .val (.ref b187), .val (.int (own_sp cs mm)), .unset, .unset, .unset, .unset, .unset, .unset] [(.ref b189)]))) (fun t ht => st190.trans ht) ?_
      refine own_step (U' := (T190.setTop (mkF m 202 #[.val (.long p1), .second, .val (.long p2), .second, .val (.int p3), .val (.int p4), .val (.int p5), .val (.int mm), .val (.int mk), .val (.ref b187), .val (.int (own_sp cs mm)), .val (.ref b189), .unset, .unset, .unset, .unset, .unset] []))) (fun t ht => XS.astore X190.here hx rfl (hb hby at_200) rfl rfl (l' := #[.val (.long p1), .second, .val (.long p2), .second, .val (.int p3), .val (.int p4), .val (.int p5), .val (.int mm), .val (.int mk), .val (.ref b187), .val (.int (own_sp cs mm)), .val (.ref b189), .unset, .unset, .unset, .unset, .unset]) rfl ht) ?_
      refine own_step (U' := (T190.setTop (mkF m 204 #[.val (.long p1), .second, .val (.long p2), .second, .val (.int p3), .val (.int p4), .val (.int p5), .val (.int mm), .val (.int mk), .val (.ref b187), .val (.int (own_sp cs mm)), .val (.ref b189), .unset, .unset, .unset, .unset, .unset] [(.ref b189)]))) (fun t ht => XS.aload X190.here hx rfl (hb hby at_202) rfl rfl ht) ?_
      obtain ⟨cq191, kq191, q191a, q191b, q191c⟩ := isOf hZ rfl Fq190_4
      obtain ⟨_, _, ⟨T191, L191, k191, n191⟩, -, X191, ⟨Lc191, hQ191, l191, y191, z191⟩, st191⟩ := X190.virtualBack hx (y := (⟨"com/example/skip2/skip2/boyermoore/BoyerMooreSearcher", "period", "()I"⟩ : MethodName)) (z := (⟨"com/example/skip2/skip2/boyermoore/BoyerMooreSearcher", "period", "()I"⟩ : MethodName)) hown (mvT hZ (hw _ (List.mem_of_getElem? (i := 87) rfl))) (mvT hZ (hw _ (List.mem_of_getElem? (i := 88) rfl))) (notFace_of_selects (args := #[]) (mvT hZ (hw _ (List.mem_of_getElem? (i := 90) rfl)))) (mvT hZ (hw _ (List.mem_of_getElem? (i := 90) rfl))) (mvT hZ (hw _ (List.mem_of_getElem? (i := 89) rfl))) (by decide) (backOf (W := 0) (own_m_perN l Z a0 hw [] (b189) T190.heap n0 (Nat.le_trans Z0 K190.1) Fq190_2) hZ (hw _ (List.mem_of_getElem? (i := 91) rfl)) (hw _ (List.mem_of_getElem? (i := 13) rfl)) (by decide) (by decide)) q191a q191c (g := (mkF m 204 #[.val (.long p1), .second, .val (.long p2), .second, .val (.int p3), .val (.int p4), .val (.int p5), .val (.int mm), .val (.int mk), .val (.ref b187), .val (.int (own_sp cs mm)), .val (.ref b189), .unset, .unset, .unset, .unset, .unset] [(.ref b189)])) rfl (by rw [hml]; rfl) (Steps.refl _) (argsL := []) (rest := []) (lenOf own_pd14 rfl) rfl (by show 2 * 0 + _ ≤ _; exact Nat.le_of_eq rfl) (hb hby at_204) (fun _ _ => ⟨rfl, rfl, (by decide : 3 + 0 ≤ _), (by decide : 31 + 0 ≤ _)⟩)
      dsimp only [Pt.U, Pt.locs, Pt.cells, Pt.slots] at X191 l191 y191 z191 st191 hQ191
      subst l191 y191 z191
      obtain ⟨rfl, Nq191, Kq191⟩ := hQ191
      have N191 := Fr.app N190 Nq191
      have e191 : T191.heap = T190.heap := Kq191
      refine own_step (U' := (T191.setTop (mkF m 207 #[.val (.long p1), .second, .val (.long p2), .second, .val (.int p3), .val (.int p4), .val (.int p5), .val (.int mm), .val (.int mk), .val (.ref b187), .val (.int (own_sp cs mm)), .val (.ref b189), .unset, .unset, .unset, .unset, .unset] [(.int (0 : Int32))]))) (fun t ht => st191.trans ht) ?_
      refine own_step (U' := (T191.setTop (mkF m 209 #[.val (.long p1), .second, .val (.long p2), .second, .val (.int p3), .val (.int p4), .val (.int p5), .val (.int mm), .val (.int mk), .val (.ref b187), .val (.int (own_sp cs mm)), .val (.ref b189), .val (.int (0 : Int32)), .unset, .unset, .unset, .unset] []))) (fun t ht => XS.istore X191.here hx rfl (hb hby at_207) rfl (l' := #[.val (.long p1), .second, .val (.long p2), .second, .val (.int p3), .val (.int p4), .val (.int p5), .val (.int mm), .val (.int mk), .val (.ref b187), .val (.int (own_sp cs mm)), .val (.ref b189), .val (.int (0 : Int32)), .unset, .unset, .unset, .unset]) rfl ht) ?_
      refine own_step (U' := (T191.setTop (mkF m 211 #[.val (.long p1), .second, .val (.long p2), .second, .val (.int p3), .val (.int p4), .val (.int p5), .val (.int mm), .val (.int mk), .val (.ref b187), .val (.int (own_sp cs mm)), .val (.ref b189), .val (.int (0 : Int32)), .unset, .unset, .unset, .unset] [(.int p5)]))) (fun t ht => XS.iload X191.here hx rfl (hb hby at_209) rfl ht) ?_
      refine own_step (U' := (T191.setTop (mkF m 213 #[.val (.long p1), .second, .val (.long p2), .second, .val (.int p3), .val (.int p4), .val (.int p5), .val (.int mm), .val (.int mk), .val (.ref b187), .val (.int (own_sp cs mm)), .val (.ref b189), .val (.int (0 : Int32)), .unset, .unset, .unset, .unset] [(.int (2147483647 : Int32)), (.int p5)]))) (fun t ht => X191.ldcInt hx hown (mvT hZ (hw _ (List.mem_of_getElem? (i := 94) rfl))) (g := (mkF m 211 #[.val (.long p1), .second, .val (.long p2), .second, .val (.int p3), .val (.int p4), .val (.int p5), .val (.int mm), .val (.int mk), .val (.ref b187), .val (.int (own_sp cs mm)), .val (.ref b189), .val (.int (0 : Int32)), .unset, .unset, .unset, .unset] [(.int p5)])) rfl (hb hby at_211) _ ht) ?_
      refine own_step (U' := (T191.setTop (mkF m 214 #[.val (.long p1), .second, .val (.long p2), .second, .val (.int p3), .val (.int p4), .val (.int p5), .val (.int mm), .val (.int mk), .val (.ref b187), .val (.int (own_sp cs mm)), .val (.ref b189), .val (.int (0 : Int32)), .unset, .unset, .unset, .unset] [(.int (p5 &&& (2147483647 : Int32)))]))) (fun t ht => XS.iand X191.here hx rfl (hb hby at_213) rfl ht) ?_
      refine own_step (U' := (T191.setTop (mkF m 216 #[.val (.long p1), .second, .val (.long p2), .second, .val (.int p3), .val (.int p4), .val (.int p5), .val (.int mm), .val (.int mk), .val (.ref b187), .val (.int (own_sp cs mm)), .val (.ref b189), .val (.int (0 : Int32)), .unset, .unset, .unset, .unset] [(.int mm), (.int (p5 &&& (2147483647 : Int32)))]))) (fun t ht => XS.iload X191.here hx rfl (hb hby at_214) rfl ht) ?_
      refine own_step (U' := (T191.setTop (mkF m 217 #[.val (.long p1), .second, .val (.long p2), .second, .val (.int p3), .val (.int p4), .val (.int p5), .val (.int mm), .val (.int mk), .val (.ref b187), .val (.int (own_sp cs mm)), .val (.ref b189), .val (.int (0 : Int32)), .unset, .unset, .unset, .unset] [(.int ((p5 &&& (2147483647 : Int32)) % mm))]))) (fun t ht => iremM X191 hx rfl (hb hby at_216) rfl (own_mnz hm h1) ht) ?_
      refine own_step (U' := (T191.setTop (mkF m 219 #[.val (.long p1), .second, .val (.long p2), .second, .val (.int p3), .val (.int p4), .val (.int p5), .val (.int mm), .val (.int mk), .val (.ref b187), .val (.int (own_sp cs mm)), .val (.ref b189), .val (.int (0 : Int32)), .val (.int ((p5 &&& (2147483647 : Int32)) % mm)), .unset, .unset, .unset] []))) (fun t ht => XS.istore X191.here hx rfl (hb hby at_217) rfl (l' := #[.val (.long p1), .second, .val (.long p2), .second, .val (.int p3), .val (.int p4), .val (.int p5), .val (.int mm), .val (.int mk), .val (.ref b187), .val (.int (own_sp cs mm)), .val (.ref b189), .val (.int (0 : Int32)), .val (.int ((p5 &&& (2147483647 : Int32)) % mm)), .unset, .unset, .unset]) rfl ht) ?_
      generalize h_kk : ((p5 &&& (2147483647 : Int32)) % mm) = kk
      obtain ⟨KK, hkk, hkM⟩ := own_kk hm h1 h_kk
      by_cases hbf : own_spn (0 : Int32) (((mm - (1 : Int32)) + (1 : Int32)) - kk) < own_bud mm
      ·
        refine own_step (U' := (T191.setTop (mkF m 221 #[.val (.long p1), .second, .val (.long p2), .second, .val (.int p3), .val (.int p4), .val (.int p5), .val (.int mm), .val (.int mk), .val (.ref b187), .val (.int (own_sp cs mm)), .val (.ref b189), .val (.int (0 : Int32)), .val (.int kk), .unset, .unset, .unset] [(.ref b189)]))) (fun t ht => XS.aload X191.here hx rfl (hb hby at_219) rfl rfl ht) ?_
        refine own_step (U' := (T191.setTop (mkF m 222 #[.val (.long p1), .second, .val (.long p2), .second, .val (.int p3), .val (.int p4), .val (.int p5), .val (.int mm), .val (.int mk), .val (.ref b187), .val (.int (own_sp cs mm)), .val (.ref b189), .val (.int (0 : Int32)), .val (.int kk), .unset, .unset, .unset] [(.int (0 : Int32)), (.ref b189)]))) (fun t ht => XS.iconst X191.here hx rfl (hb hby at_221) ht) ?_
        refine own_step (U' := (T191.setTop (mkF m 224 #[.val (.long p1), .second, .val (.long p2), .second, .val (.int p3), .val (.int p4), .val (.int p5), .val (.int mm), .val (.int mk), .val (.ref b187), .val (.int (own_sp cs mm)), .val (.ref b189), .val (.int (0 : Int32)), .val (.int kk), .unset, .unset, .unset] [(.int kk), (.int (0 : Int32)), (.ref b189)]))) (fun t ht => XS.iload X191.here hx rfl (hb hby at_222) rfl ht) ?_
        refine own_step (U' := (T191.setTop (mkF m 226 #[.val (.long p1), .second, .val (.long p2), .second, .val (.int p3), .val (.int p4), .val (.int p5), .val (.int mm), .val (.int mk), .val (.ref b187), .val (.int (own_sp cs mm)), .val (.ref b189), .val (.int (0 : Int32)), .val (.int kk), .unset, .unset, .unset] [(.int kk), (.int kk), (.int (0 : Int32)), (.ref b189)]))) (fun t ht => XS.iload X191.here hx rfl (hb hby at_224) rfl ht) ?_
        refine own_step (U' := (T191.setTop (mkF m 227 #[.val (.long p1), .second, .val (.long p2), .second, .val (.int p3), .val (.int p4), .val (.int p5), .val (.int mm), .val (.int mk), .val (.ref b187), .val (.int (own_sp cs mm)), .val (.ref b189), .val (.int (0 : Int32)), .val (.int kk), .unset, .unset, .unset] [(.int (1 : Int32)), (.int kk), (.int kk), (.int (0 : Int32)), (.ref b189)]))) (fun t ht => XS.iconst X191.here hx rfl (hb hby at_226) ht) ?_
        refine own_step (U' := (T191.setTop (mkF m 228 #[.val (.long p1), .second, .val (.long p2), .second, .val (.int p3), .val (.int p4), .val (.int p5), .val (.int mm), .val (.int mk), .val (.ref b187), .val (.int (own_sp cs mm)), .val (.ref b189), .val (.int (0 : Int32)), .val (.int kk), .unset, .unset, .unset] [(.int (kk - (1 : Int32))), (.int kk), (.int (0 : Int32)), (.ref b189)]))) (fun t ht => XS.isub X191.here hx rfl (hb hby at_227) rfl ht) ?_
        refine own_step (U' := (T191.setTop (mkF m 229 #[.val (.long p1), .second, .val (.long p2), .second, .val (.int p3), .val (.int p4), .val (.int p5), .val (.int mm), .val (.int mk), .val (.ref b187), .val (.int (own_sp cs mm)), .val (.ref b189), .val (.int (0 : Int32)), .val (.int kk), .unset, .unset, .unset] [(.int (0 : Int32)), (.int (kk - (1 : Int32))), (.int kk), (.int (0 : Int32)), (.ref b189)]))) (fun t ht => XS.iconst X191.here hx rfl (hb hby at_228) ht) ?_
        obtain ⟨cq192, kq192, q192a, q192b, q192c⟩ := isOf hZ e191 Fq190_4
        obtain ⟨_, _, ⟨T192, L192, k192, n192⟩, -, X192, ⟨Lc192, hQ192, l192, y192, z192⟩, st192⟩ := X191.virtualBack hx (y := (⟨"com/example/skip2/skip2/boyermoore/BoyerMooreSearcher", "step", "(IIIC)I"⟩ : MethodName)) (z := (⟨"com/example/skip2/skip2/boyermoore/BoyerMooreSearcher", "step", "(IIIC)I"⟩ : MethodName)) hown (mvT hZ (hw _ (List.mem_of_getElem? (i := 95) rfl))) (mvT hZ (hw _ (List.mem_of_getElem? (i := 96) rfl))) (notFace_of_selects (args := #[]) (mvT hZ (hw _ (List.mem_of_getElem? (i := 98) rfl)))) (mvT hZ (hw _ (List.mem_of_getElem? (i := 98) rfl))) (mvT hZ (hw _ (List.mem_of_getElem? (i := 97) rfl))) (by decide) (backOf (W := 0) (own_m_stpN l Z a0 hw [] (b189) ((0 : Int32)) (kk) ((kk - (1 : Int32))) ((0 : Int32)) (b187) ((own_bud mm)) ((0 : Int32)) (k187) (cs) (mm) (M) T190.heap n0 (Nat.le_trans Z0 K190.1) g_b189 ne_b187_b189 Fq190_0 Fq190_1 Fq190_2 Fq190_3 Fq190_4 f190_0 (own_kpre hkk (by omega)) (own_argp hm h1 h8 hkk hkM) hbf) hZ (hw _ (List.mem_of_getElem? (i := 99) rfl)) (hw _ (List.mem_of_getElem? (i := 13) rfl)) (by decide) (by decide)) q192a q192c (g := (mkF m 229 #[.val (.long p1), .second, .val (.long p2), .second, .val (.int p3), .val (.int p4), .val (.int p5), .val (.int mm), .val (.int mk), .val (.ref b187), .val (.int (own_sp cs mm)), .val (.ref b189), .val (.int (0 : Int32)), .val (.int kk), .unset, .unset, .unset] [(.int (0 : Int32)), (.int (kk - (1 : Int32))), (.int kk), (.int (0 : Int32)), (.ref b189)])) rfl (by rw [hml]; rfl) (Steps.refl _) (argsL := [(.int (0 : Int32)), (.int kk), (.int (kk - (1 : Int32))), (.int (0 : Int32))]) (rest := []) (lenOf own_pd15 rfl) rfl (by show 2 * 0 + _ ≤ _; exact Nat.le_of_eq rfl) (hb hby at_229) (fun _ _ => ⟨rfl, e191, (by decide : 3 + 0 ≤ _), (by decide : 31 + 0 ≤ _)⟩)
        dsimp only [Pt.U, Pt.locs, Pt.cells, Pt.slots] at X192 l192 y192 z192 st192 hQ192
        subst l192 y192 z192
        obtain ⟨rfl, Nq192, Kq192, Fq192_0, Fq192_1, Fq192_2, Fq192_3, Fq192_4⟩ := hQ192
        have N192 := Fr.app N191 Nq192
        have f192_0 := f190_0.keep Kq192 (ninS ne_b187_b189 nin0)
        have f192_5 := Fq190_4.keep Kq192
        have K192 : Keep h0 T192.heap [] := K190.trans Kq192 (allS (Or.inr sz_b189) all0)
        refine own_step (U' := (T192.setTop (mkF m 232 #[.val (.long p1), .second, .val (.long p2), .second, .val (.int p3), .val (.int p4), .val (.int p5), .val (.int mm), .val (.int mk), .val (.ref b187), .val (.int (own_sp cs mm)), .val (.ref b189), .val (.int (0 : Int32)), .val (.int kk), .unset, .unset, .unset] [(.int (0 : Int32))]))) (fun t ht => st192.trans ht) ?_
        refine own_step (U' := (T192.setTop (mkF m 233 #[.val (.long p1), .second, .val (.long p2), .second, .val (.int p3), .val (.int p4), .val (.int p5), .val (.int mm), .val (.int mk), .val (.ref b187), .val (.int (own_sp cs mm)), .val (.ref b189), .val (.int (0 : Int32)), .val (.int kk), .unset, .unset, .unset] []))) (fun t ht => XT.pop X192.here hx rfl (hb hby at_232) rfl rfl ht) ?_
        refine own_step (U' := (T192.setTop (mkF m 235 #[.val (.long p1), .second, .val (.long p2), .second, .val (.int p3), .val (.int p4), .val (.int p5), .val (.int mm), .val (.int mk), .val (.ref b187), .val (.int (own_sp cs mm)), .val (.ref b189), .val (.int (0 : Int32)), .val (.int kk), .unset, .unset, .unset] [(.ref b189)]))) (fun t ht => XS.aload X192.here hx rfl (hb hby at_233) rfl rfl ht) ?_
        obtain ⟨cq193, kq193, q193a, q193b, q193c⟩ := isOf hZ rfl Fq192_4
        obtain ⟨_, _, ⟨T193, L193, k193, n193⟩, -, X193, ⟨Lc193, hQ193, l193, y193, z193⟩, st193⟩ := X192.virtualBack hx (y := (⟨"com/example/skip2/skip2/boyermoore/BoyerMooreSearcher", "period", "()I"⟩ : MethodName)) (z := (⟨"com/example/skip2/skip2/boyermoore/BoyerMooreSearcher", "period", "()I"⟩ : MethodName)) hown (mvT hZ (hw _ (List.mem_of_getElem? (i := 87) rfl))) (mvT hZ (hw _ (List.mem_of_getElem? (i := 88) rfl))) (notFace_of_selects (args := #[]) (mvT hZ (hw _ (List.mem_of_getElem? (i := 90) rfl)))) (mvT hZ (hw _ (List.mem_of_getElem? (i := 90) rfl))) (mvT hZ (hw _ (List.mem_of_getElem? (i := 89) rfl))) (by decide) (backOf (W := 0) (own_m_perN l Z a0 hw [] (b189) T192.heap n0 (Nat.le_trans Z0 K192.1) Fq192_2) hZ (hw _ (List.mem_of_getElem? (i := 91) rfl)) (hw _ (List.mem_of_getElem? (i := 13) rfl)) (by decide) (by decide)) q193a q193c (g := (mkF m 235 #[.val (.long p1), .second, .val (.long p2), .second, .val (.int p3), .val (.int p4), .val (.int p5), .val (.int mm), .val (.int mk), .val (.ref b187), .val (.int (own_sp cs mm)), .val (.ref b189), .val (.int (0 : Int32)), .val (.int kk), .unset, .unset, .unset] [(.ref b189)])) rfl (by rw [hml]; rfl) (Steps.refl _) (argsL := []) (rest := []) (lenOf own_pd14 rfl) rfl (by show 2 * 0 + _ ≤ _; exact Nat.le_of_eq rfl) (hb hby at_235) (fun _ _ => ⟨rfl, rfl, (by decide : 3 + 0 ≤ _), (by decide : 31 + 0 ≤ _)⟩)
        dsimp only [Pt.U, Pt.locs, Pt.cells, Pt.slots] at X193 l193 y193 z193 st193 hQ193
        subst l193 y193 z193
        obtain ⟨rfl, Nq193, Kq193⟩ := hQ193
        have N193 := Fr.app N192 Nq193
        have e193 : T193.heap = T192.heap := Kq193
        refine own_step (U' := (T193.setTop (mkF m 238 #[.val (.long p1), .second, .val (.long p2), .second, .val (.int p3), .val (.int p4), .val (.int p5), .val (.int mm), .val (.int mk), .val (.ref b187), .val (.int (own_sp cs mm)), .val (.ref b189), .val (.int (0 : Int32)), .val (.int kk), .unset, .unset, .unset] [(.int (0 : Int32))]))) (fun t ht => st193.trans ht) ?_
        refine own_step (U' := (T193.setTop (mkF m 240 #[.val (.long p1), .second, .val (.long p2), .second, .val (.int p3), .val (.int p4), .val (.int p5), .val (.int mm), .val (.int mk), .val (.ref b187), .val (.int (own_sp cs mm)), .val (.ref b189), .val (.int (0 : Int32)), .val (.int kk), .val (.int (0 : Int32)), .unset, .unset] []))) (fun t ht => XS.istore X193.here hx rfl (hb hby at_238) rfl (l' := #[.val (.long p1), .second, .val (.long p2), .second, .val (.int p3), .val (.int p4), .val (.int p5), .val (.int mm), .val (.int mk), .val (.ref b187), .val (.int (own_sp cs mm)), .val (.ref b189), .val (.int (0 : Int32)), .val (.int kk), .val (.int (0 : Int32)), .unset, .unset]) rfl ht) ?_
        refine own_step (U' := (T193.setTop (mkF m 242 #[.val (.long p1), .second, .val (.long p2), .second, .val (.int p3), .val (.int p4), .val (.int p5), .val (.int mm), .val (.int mk), .val (.ref b187), .val (.int (own_sp cs mm)), .val (.ref b189), .val (.int (0 : Int32)), .val (.int kk), .val (.int (0 : Int32)), .unset, .unset] [(.int (8 : Int32))]))) (fun t ht => XS.bipush X193.here hx rfl (hb hby at_240) ht) ?_
        refine own_step (U' := (T193.setTop (mkF m 244 #[.val (.long p1), .second, .val (.long p2), .second, .val (.int p3), .val (.int p4), .val (.int p5), .val (.int mm), .val (.int mk), .val (.ref b187), .val (.int (own_sp cs mm)), .val (.ref b189), .val (.int (0 : Int32)), .val (.int kk), .val (.int (0 : Int32)), .unset, .unset] [(.int mm), (.int (8 : Int32))]))) (fun t ht => XS.iload X193.here hx rfl (hb hby at_242) rfl ht) ?_
        refine own_step (U' := (T193.setTop (mkF m 246 #[.val (.long p1), .second, .val (.long p2), .second, .val (.int p3), .val (.int p4), .val (.int p5), .val (.int mm), .val (.int mk), .val (.ref b187), .val (.int (own_sp cs mm)), .val (.ref b189), .val (.int (0 : Int32)), .val (.int kk), .val (.int (0 : Int32)), .unset, .unset] [(.int kk), (.int mm), (.int (8 : Int32))]))) (fun t ht => XS.iload X193.here hx rfl (hb hby at_244) rfl ht) ?_
        refine own_step (U' := (T193.setTop (mkF m 247 #[.val (.long p1), .second, .val (.long p2), .second, .val (.int p3), .val (.int p4), .val (.int p5), .val (.int mm), .val (.int mk), .val (.ref b187), .val (.int (own_sp cs mm)), .val (.ref b189), .val (.int (0 : Int32)), .val (.int kk), .val (.int (0 : Int32)), .unset, .unset] [(.int (mm - kk)), (.int (8 : Int32))]))) (fun t ht => XS.isub X193.here hx rfl (hb hby at_246) rfl ht) ?_
        refine own_step (U' := (T193.setTop (mkF m 248 #[.val (.long p1), .second, .val (.long p2), .second, .val (.int p3), .val (.int p4), .val (.int p5), .val (.int mm), .val (.int mk), .val (.ref b187), .val (.int (own_sp cs mm)), .val (.ref b189), .val (.int (0 : Int32)), .val (.int kk), .val (.int (0 : Int32)), .unset, .unset] [(.int ((8 : Int32) + (mm - kk)))]))) (fun t ht => XS.iadd X193.here hx rfl (hb hby at_247) rfl ht) ?_
        refine own_step (U' := (T193.setTop (mkF m 249 #[.val (.long p1), .second, .val (.long p2), .second, .val (.int p3), .val (.int p4), .val (.int p5), .val (.int mm), .val (.int mk), .val (.ref b187), .val (.int (own_sp cs mm)), .val (.ref b189), .val (.int (0 : Int32)), .val (.int kk), .val (.int (0 : Int32)), .unset, .unset] [(.int (2 : Int32)), (.int ((8 : Int32) + (mm - kk)))]))) (fun t ht => XS.iconst X193.here hx rfl (hb hby at_248) ht) ?_
        refine own_step (U' := (T193.setTop (mkF m 251 #[.val (.long p1), .second, .val (.long p2), .second, .val (.int p3), .val (.int p4), .val (.int p5), .val (.int mm), .val (.int mk), .val (.ref b187), .val (.int (own_sp cs mm)), .val (.ref b189), .val (.int (0 : Int32)), .val (.int kk), .val (.int (0 : Int32)), .unset, .unset] [(.int mm), (.int (2 : Int32)), (.int ((8 : Int32) + (mm - kk)))]))) (fun t ht => XS.iload X193.here hx rfl (hb hby at_249) rfl ht) ?_
        refine own_step (U' := (T193.setTop (mkF m 252 #[.val (.long p1), .second, .val (.long p2), .second, .val (.int p3), .val (.int p4), .val (.int p5), .val (.int mm), .val (.int mk), .val (.ref b187), .val (.int (own_sp cs mm)), .val (.ref b189), .val (.int (0 : Int32)), .val (.int kk), .val (.int (0 : Int32)), .unset, .unset] [(.int ((2 : Int32) * mm)), (.int ((8 : Int32) + (mm - kk)))]))) (fun t ht => XS.imul X193.here hx rfl (hb hby at_251) rfl ht) ?_
        refine own_step (U' := (T193.setTop (mkF m 259 #[.val (.long p1), .second, .val (.long p2), .second, .val (.int p3), .val (.int p4), .val (.int p5), .val (.int mm), .val (.int mk), .val (.ref b187), .val (.int (own_sp cs mm)), .val (.ref b189), .val (.int (0 : Int32)), .val (.int kk), .val (.int (0 : Int32)), .unset, .unset] []))) (fun t ht => XS.icmpYes X193.here hx rfl (pc0 := 252) (pc' := 259) rfl (hb hby at_252) rfl (XT.ii_lt_t (((own_first hm h1 h8 hkk hkM).mp hbf) : ((8 : Int32) + (mm - kk)) < ((2 : Int32) * mm))) (by decide) (by decide) ht) ?_
        refine own_step (U' := (T193.setTop (mkF m 260 #[.val (.long p1), .second, .val (.long p2), .second, .val (.int p3), .val (.int p4), .val (.int p5), .val (.int mm), .val (.int mk), .val (.ref b187), .val (.int (own_sp cs mm)), .val (.ref b189), .val (.int (0 : Int32)), .val (.int kk), .val (.int (0 : Int32)), .unset, .unset] [(.int (0 : Int32))]))) (fun t ht => XS.iconst X193.here hx rfl (hb hby at_259) ht) ?_
        refine own_step (U' := (T193.setTop (mkF m 262 #[.val (.long p1), .second, .val (.long p2), .second, .val (.int p3), .val (.int p4), .val (.int p5), .val (.int mm), .val (.int mk), .val (.ref b187), .val (.int (own_sp cs mm)), .val (.ref b189), .val (.int (0 : Int32)), .val (.int kk), .val (.int (0 : Int32)), .val (.int (0 : Int32)), .unset] []))) (fun t ht => XS.istore X193.here hx rfl (hb hby at_260) rfl (l' := #[.val (.long p1), .second, .val (.long p2), .second, .val (.int p3), .val (.int p4), .val (.int p5), .val (.int mm), .val (.int mk), .val (.ref b187), .val (.int (own_sp cs mm)), .val (.ref b189), .val (.int (0 : Int32)), .val (.int kk), .val (.int (0 : Int32)), .val (.int (0 : Int32)), .unset]) rfl ht) ?_
        refine own_step (U' := (T193.setTop (mkF m 264 #[.val (.long p1), .second, .val (.long p2), .second, .val (.int p3), .val (.int p4), .val (.int p5), .val (.int mm), .val (.int mk), .val (.ref b187), .val (.int (own_sp cs mm)), .val (.ref b189), .val (.int (0 : Int32)), .val (.int kk), .val (.int (0 : Int32)), .val (.int (0 : Int32)), .unset] [(.ref b189)]))) (fun t ht => XS.aload X193.here hx rfl (hb hby at_262) rfl rfl ht) ?_
        refine own_step (U' := (T193.setTop (mkF m 265 #[.val (.long p1), .second, .val (.long p2), .second, .val (.int p3), .val (.int p4), .val (.int p5), .val (.int mm), .val (.int mk), .val (.ref b187), .val (.int (own_sp cs mm)), .val (.ref b189), .val (.int (0 : Int32)), .val (.int kk), .val (.int (0 : Int32)), .val (.int (0 : Int32)), .unset] [(.int (0 : Int32)), (.ref b189)]))) (fun t ht => XS.iconst X193.here hx rfl (hb hby at_264) ht) ?_
        refine own_step (U' := (T193.setTop (mkF m 266 #[.val (.long p1), .second, .val (.long p2), .second, .val (.int p3), .val (.int p4), .val (.int p5), .val (.int mm), .val (.int mk), .val (.ref b187), .val (.int (own_sp cs mm)), .val (.ref b189), .val (.int (0 : Int32)), .val (.int kk), .val (.int (0 : Int32)), .val (.int (0 : Int32)), .unset] [(.int (0 : Int32)), (.int (0 : Int32)), (.ref b189)]))) (fun t ht => XS.iconst X193.here hx rfl (hb hby at_265) ht) ?_
        refine own_step (U' := (T193.setTop (mkF m 267 #[.val (.long p1), .second, .val (.long p2), .second, .val (.int p3), .val (.int p4), .val (.int p5), .val (.int mm), .val (.int mk), .val (.ref b187), .val (.int (own_sp cs mm)), .val (.ref b189), .val (.int (0 : Int32)), .val (.int kk), .val (.int (0 : Int32)), .val (.int (0 : Int32)), .unset] [(.int (-1 : Int32)), (.int (0 : Int32)), (.int (0 : Int32)), (.ref b189)]))) (fun t ht => XS.iconst X193.here hx rfl (hb hby at_266) ht) ?_
        refine own_step (U' := (T193.setTop (mkF m 268 #[.val (.long p1), .second, .val (.long p2), .second, .val (.int p3), .val (.int p4), .val (.int p5), .val (.int mm), .val (.int mk), .val (.ref b187), .val (.int (own_sp cs mm)), .val (.ref b189), .val (.int (0 : Int32)), .val (.int kk), .val (.int (0 : Int32)), .val (.int (0 : Int32)), .unset] [(.int (0 : Int32)), (.int (-1 : Int32)), (.int (0 : Int32)), (.int (0 : Int32)), (.ref b189)]))) (fun t ht => XS.iconst X193.here hx rfl (hb hby at_267) ht) ?_
        obtain ⟨cq194, kq194, q194a, q194b, q194c⟩ := isOf hZ e193 Fq192_4
        obtain ⟨_, _, ⟨T194, L194, k194, n194⟩, -, X194, ⟨Lc194, hQ194, l194, y194, z194⟩, st194⟩ := X193.virtualBack hx (y := (⟨"com/example/skip2/skip2/boyermoore/BoyerMooreSearcher", "step", "(IIIC)I"⟩ : MethodName)) (z := (⟨"com/example/skip2/skip2/boyermoore/BoyerMooreSearcher", "step", "(IIIC)I"⟩ : MethodName)) hown (mvT hZ (hw _ (List.mem_of_getElem? (i := 95) rfl))) (mvT hZ (hw _ (List.mem_of_getElem? (i := 96) rfl))) (notFace_of_selects (args := #[]) (mvT hZ (hw _ (List.mem_of_getElem? (i := 98) rfl)))) (mvT hZ (hw _ (List.mem_of_getElem? (i := 98) rfl))) (mvT hZ (hw _ (List.mem_of_getElem? (i := 97) rfl))) (by decide) (own_backP (PV := fun vm => Z.WarmedH vm) (fun _ q => State.WarmedH.trans hkv q) (W := 0) (own_m_stpB l Z a0 hw [] (b189) ((0 : Int32)) ((0 : Int32)) ((-1 : Int32)) ((0 : Int32)) (b187) ((own_bud mm)) ((own_spn (0 : Int32) (((mm - (1 : Int32)) + (1 : Int32)) - kk))) (k187) (cs) (mm) (M) T192.heap n0 (Nat.le_trans Z0 K192.1) g_b189 ne_b187_b189 Fq192_0 Fq192_1 Fq192_2 Fq192_3 Fq192_4 f192_0 (by decide) (own_argp hm h1 h8 (K := 0) rfl (by omega)) (own_second hm h1 h8 hkk hkM) hm h1 h8 hcl hch) hZ (hw _ (List.mem_of_getElem? (i := 99) rfl)) (hw _ (List.mem_of_getElem? (i := 13) rfl)) (by decide) (by decide)) q194a q194c (g := (mkF m 268 #[.val (.long p1), .second, .val (.long p2), .second, .val (.int p3), .val (.int p4), .val (.int p5), .val (.int mm), .val (.int mk), .val (.ref b187), .val (.int (own_sp cs mm)), .val (.ref b189), .val (.int (0 : Int32)), .val (.int kk), .val (.int (0 : Int32)), .val (.int (0 : Int32)), .unset] [(.int (0 : Int32)), (.int (-1 : Int32)), (.int (0 : Int32)), (.int (0 : Int32)), (.ref b189)])) rfl (by rw [hml]; rfl) (Steps.refl _) (argsL := [(.int (0 : Int32)), (.int (0 : Int32)), (.int (-1 : Int32)), (.int (0 : Int32))]) (rest := []) (lenOf own_pd15 rfl) rfl (by show 2 * 0 + _ ≤ _; exact Nat.le_of_eq rfl) (hb hby at_268) (fun _ _ => ⟨rfl, e193, (by decide : 3 + 4 ≤ _), (by decide : 31 + 26 ≤ _)⟩)
        dsimp only [Pt.U, Pt.locs, Pt.cells, Pt.slots] at X194 l194 y194 z194 st194 hQ194
        subst l194 y194 z194
        obtain ⟨r_194, kr_194, ys_194, rfl, Nq194, Kq194, sq_r_194, p194_0, p194_1, Fq194_0, Fq194_1, Fq194_2, Fq194_3, Fq194_4, Fq194_5⟩ := hQ194
        have N194 := Fr.app N193 Nq194
        have ne_b187_r_194 : b187 ≠ r_194 := Nat.ne_of_lt (Nat.lt_of_lt_of_le f192_0.lt sq_r_194)
        have ne_b189_r_194 : b189 ≠ r_194 := Nat.ne_of_lt (Nat.lt_of_lt_of_le Fq192_0.lt sq_r_194)
        have g_r_194 : n0 ≤ r_194 := Nat.le_trans (Nat.le_trans Z0 K192.1) sq_r_194
        have sz_r_194 : h0.size ≤ r_194 := Nat.le_trans K192.1 sq_r_194
        have f194_0 := f192_0.keep Kq194 (ninS ne_b187_b189 nin0)
        have f194_5 := Fq192_4.keep Kq194
        have K194 : Keep h0 T194.heap [] := K192.trans Kq194 (allS (Or.inr sz_b189) all0)
        refine own_step (U' := (T194.setTop (mkF m 271 #[.val (.long p1), .second, .val (.long p2), .second, .val (.int p3), .val (.int p4), .val (.int p5), .val (.int mm), .val (.int mk), .val (.ref b187), .val (.int (own_sp cs mm)), .val (.ref b189), .val (.int (0 : Int32)), .val (.int kk), .val (.int (0 : Int32)), .val (.int (0 : Int32)), .unset] [(.int (0 : Int32))]))) (fun t ht => st194.trans ht) ?_
        refine own_step (U' := (T194.setTop (mkF m 272 #[.val (.long p1), .second, .val (.long p2), .second, .val (.int p3), .val (.int p4), .val (.int p5), .val (.int mm), .val (.int mk), .val (.ref b187), .val (.int (own_sp cs mm)), .val (.ref b189), .val (.int (0 : Int32)), .val (.int kk), .val (.int (0 : Int32)), .val (.int (0 : Int32)), .unset] []))) (fun t ht => XT.pop X194.here hx rfl (hb hby at_271) rfl rfl ht) ?_
        refine own_step (U' := (T194.setTop (mkF m 274 #[.val (.long p1), .second, .val (.long p2), .second, .val (.int p3), .val (.int p4), .val (.int p5), .val (.int mm), .val (.int mk), .val (.ref b187), .val (.int (own_sp cs mm)), .val (.ref b189), .val (.int (0 : Int32)), .val (.int kk), .val (.int (0 : Int32)), .val (.int (0 : Int32)), .unset] [(.ref b189)]))) (fun t ht => XS.aload X194.here hx rfl (hb hby at_272) rfl rfl ht) ?_
        obtain ⟨cq195, kq195, q195a, q195b, q195c⟩ := isOf hZ rfl Fq194_5
        obtain ⟨_, _, ⟨T195, L195, k195, n195⟩, -, X195, ⟨Lc195, hQ195, l195, y195, z195⟩, st195⟩ := X194.virtualBack hx (y := (⟨"com/example/skip2/skip2/boyermoore/BoyerMooreSearcher", "period", "()I"⟩ : MethodName)) (z := (⟨"com/example/skip2/skip2/boyermoore/BoyerMooreSearcher", "period", "()I"⟩ : MethodName)) hown (mvT hZ (hw _ (List.mem_of_getElem? (i := 87) rfl))) (mvT hZ (hw _ (List.mem_of_getElem? (i := 88) rfl))) (notFace_of_selects (args := #[]) (mvT hZ (hw _ (List.mem_of_getElem? (i := 90) rfl)))) (mvT hZ (hw _ (List.mem_of_getElem? (i := 90) rfl))) (mvT hZ (hw _ (List.mem_of_getElem? (i := 89) rfl))) (by decide) (backOf (W := 0) (own_m_perA l Z a0 hw [] (b189) (r_194) (kr_194) (ys_194) (mm) (M) T194.heap n0 (Nat.le_trans Z0 K194.1) Fq194_3 Fq194_0 hm h1) hZ (hw _ (List.mem_of_getElem? (i := 91) rfl)) (hw _ (List.mem_of_getElem? (i := 13) rfl)) (by decide) (by decide)) q195a q195c (g := (mkF m 274 #[.val (.long p1), .second, .val (.long p2), .second, .val (.int p3), .val (.int p4), .val (.int p5), .val (.int mm), .val (.int mk), .val (.ref b187), .val (.int (own_sp cs mm)), .val (.ref b189), .val (.int (0 : Int32)), .val (.int kk), .val (.int (0 : Int32)), .val (.int (0 : Int32)), .unset] [(.ref b189)])) rfl (by rw [hml]; rfl) (Steps.refl _) (argsL := []) (rest := []) (lenOf own_pd14 rfl) rfl (by show 2 * 0 + _ ≤ _; exact Nat.le_of_eq rfl) (hb hby at_274) (fun _ _ => ⟨rfl, rfl, (by decide : 7 + 0 ≤ _), (by decide : 57 + 0 ≤ _)⟩)
        dsimp only [Pt.U, Pt.locs, Pt.cells, Pt.slots] at X195 l195 y195 z195 st195 hQ195
        subst l195 y195 z195
        obtain ⟨rfl, Nq195, Kq195⟩ := hQ195
        have N195 := Fr.app N194 Nq195
        have e195 : T195.heap = T194.heap := Kq195
        refine own_step (U' := (T195.setTop (mkF m 277 #[.val (.long p1), .second, .val (.long p2), .second, .val (.int p3), .val (.int p4), .val (.int p5), .val (.int mm), .val (.int mk), .val (.ref b187), .val (.int (own_sp cs mm)), .val (.ref b189), .val (.int (0 : Int32)), .val (.int kk), .val (.int (0 : Int32)), .val (.int (0 : Int32)), .unset] [(.int (own_g ys_194 (0 : Int32)))]))) (fun t ht => st195.trans ht) ?_
        refine own_step (U' := (T195.setTop (mkF m 279 #[.val (.long p1), .second, .val (.long p2), .second, .val (.int p3), .val (.int p4), .val (.int p5), .val (.int mm), .val (.int mk), .val (.ref b187), .val (.int (own_sp cs mm)), .val (.ref b189), .val (.int (0 : Int32)), .val (.int kk), .val (.int (0 : Int32)), .val (.int (0 : Int32)), .val (.int (own_g ys_194 (0 : Int32)))] []))) (fun t ht => XS.istore X195.here hx rfl (hb hby at_277) rfl (l' := #[.val (.long p1), .second, .val (.long p2), .second, .val (.int p3), .val (.int p4), .val (.int p5), .val (.int mm), .val (.int mk), .val (.ref b187), .val (.int (own_sp cs mm)), .val (.ref b189), .val (.int (0 : Int32)), .val (.int kk), .val (.int (0 : Int32)), .val (.int (0 : Int32)), .val (.int (own_g ys_194 (0 : Int32)))]) rfl ht) ?_
        refine own_step (U' := (T195.setTop (mkF m 281 #[.val (.long p1), .second, .val (.long p2), .second, .val (.int p3), .val (.int p4), .val (.int p5), .val (.int mm), .val (.int mk), .val (.ref b187), .val (.int (own_sp cs mm)), .val (.ref b189), .val (.int (0 : Int32)), .val (.int kk), .val (.int (0 : Int32)), .val (.int (0 : Int32)), .val (.int (own_g ys_194 (0 : Int32)))] [(.int (0 : Int32))]))) (fun t ht => XS.iload X195.here hx rfl (hb hby at_279) rfl ht) ?_
        refine own_step (U' := (T195.setTop (mkF m 284 #[.val (.long p1), .second, .val (.long p2), .second, .val (.int p3), .val (.int p4), .val (.int p5), .val (.int mm), .val (.int mk), .val (.ref b187), .val (.int (own_sp cs mm)), .val (.ref b189), .val (.int (0 : Int32)), .val (.int kk), .val (.int (0 : Int32)), .val (.int (0 : Int32)), .val (.int (own_g ys_194 (0 : Int32)))] []))) (fun t ht => XS.ifNo X195.here hx rfl (hb hby at_281) rfl (XT.i0_ne_f ((by decide) : (0 : Int32) = 0)) ht) ?_
        refine own_step (U' := (T195.setTop (mkF m 286 #[.val (.long p1), .second, .val (.long p2), .second, .val (.int p3), .val (.int p4), .val (.int p5), .val (.int mm), .val (.int mk), .val (.ref b187), .val (.int (own_sp cs mm)), .val (.ref b189), .val (.int (0 : Int32)), .val (.int kk), .val (.int (0 : Int32)), .val (.int (0 : Int32)), .val (.int (own_g ys_194 (0 : Int32)))] [(.int (0 : Int32))]))) (fun t ht => XS.iload X195.here hx rfl (hb hby at_284) rfl ht) ?_
        refine own_step (U' := (T195.setTop (mkF m 288 #[.val (.long p1), .second, .val (.long p2), .second, .val (.int p3), .val (.int p4), .val (.int p5), .val (.int mm), .val (.int mk), .val (.ref b187), .val (.int (own_sp cs mm)), .val (.ref b189), .val (.int (0 : Int32)), .val (.int kk), .val (.int (0 : Int32)), .val (.int (0 : Int32)), .val (.int (own_g ys_194 (0 : Int32)))] [(.int (0 : Int32)), (.int (0 : Int32))]))) (fun t ht => XS.iload X195.here hx rfl (hb hby at_286) rfl ht) ?_
        refine own_step (U' := (T195.setTop (mkF m 296 #[.val (.long p1), .second, .val (.long p2), .second, .val (.int p3), .val (.int p4), .val (.int p5), .val (.int mm), .val (.int mk), .val (.ref b187), .val (.int (own_sp cs mm)), .val (.ref b189), .val (.int (0 : Int32)), .val (.int kk), .val (.int (0 : Int32)), .val (.int (0 : Int32)), .val (.int (own_g ys_194 (0 : Int32)))] [(.int (0 : Int32))]))) (fun t ht => XS.ifYes X195.here hx rfl (pc0 := 288) (pc' := 296) rfl (hb hby at_288) rfl (XT.i0_eq_t ((by decide) : (0 : Int32) = 0)) (by decide) (by decide) ht) ?_
        refine own_step (U' := (T195.setTop (mkF m 297 #[.val (.long p1), .second, .val (.long p2), .second, .val (.int p3), .val (.int p4), .val (.int p5), .val (.int mm), .val (.int mk), .val (.ref b187), .val (.int (own_sp cs mm)), .val (.ref b189), .val (.int (0 : Int32)), .val (.int kk), .val (.int (0 : Int32)), .val (.int (0 : Int32)), .val (.int (own_g ys_194 (0 : Int32)))] [(.int (0 : Int32)), (.int (0 : Int32))]))) (fun t ht => XS.iconst X195.here hx rfl (hb hby at_296) ht) ?_
        refine own_step (U' := (T195.setTop (mkF m 300 #[.val (.long p1), .second, .val (.long p2), .second, .val (.int p3), .val (.int p4), .val (.int p5), .val (.int mm), .val (.int mk), .val (.ref b187), .val (.int (own_sp cs mm)), .val (.ref b189), .val (.int (0 : Int32)), .val (.int kk), .val (.int (0 : Int32)), .val (.int (0 : Int32)), .val (.int (own_g ys_194 (0 : Int32)))] []))) (fun t ht => XS.icmpNo X195.here hx rfl (hb hby at_297) rfl (XT.ii_ne_f ((by decide) : (0 : Int32) = (0 : Int32))) ht) ?_
        refine own_step (U' := (T195.setTop (mkF m 302 #[.val (.long p1), .second, .val (.long p2), .second, .val (.int p3), .val (.int p4), .val (.int p5), .val (.int mm), .val (.int mk), .val (.ref b187), .val (.int (own_sp cs mm)), .val (.ref b189), .val (.int (0 : Int32)), .val (.int kk), .val (.int (0 : Int32)), .val (.int (0 : Int32)), .val (.int (own_g ys_194 (0 : Int32)))] [(.int (own_g ys_194 (0 : Int32)))]))) (fun t ht => XS.iload X195.here hx rfl (hb hby at_300) rfl ht) ?_
        refine own_step (U' := (T195.setTop (mkF m 304 #[.val (.long p1), .second, .val (.long p2), .second, .val (.int p3), .val (.int p4), .val (.int p5), .val (.int mm), .val (.int mk), .val (.ref b187), .val (.int (own_sp cs mm)), .val (.ref b189), .val (.int (0 : Int32)), .val (.int kk), .val (.int (0 : Int32)), .val (.int (0 : Int32)), .val (.int (own_g ys_194 (0 : Int32)))] [(.int (own_sp cs mm)), (.int (own_g ys_194 (0 : Int32)))]))) (fun t ht => XS.iload X195.here hx rfl (hb hby at_302) rfl ht) ?_
        refine own_step (U' := (T195.setTop (mkF m 307 #[.val (.long p1), .second, .val (.long p2), .second, .val (.int p3), .val (.int p4), .val (.int p5), .val (.int mm), .val (.int mk), .val (.ref b187), .val (.int (own_sp cs mm)), .val (.ref b189), .val (.int (0 : Int32)), .val (.int kk), .val (.int (0 : Int32)), .val (.int (0 : Int32)), .val (.int (own_g ys_194 (0 : Int32)))] []))) (fun t ht => XS.icmpNo X195.here hx rfl (hb hby at_304) rfl (XT.ii_ne_f (p194_1 : (own_g ys_194 (0 : Int32)) = (own_sp cs mm))) ht) ?_
        refine own_step (U' := (T195.setTop (mkF m 308 #[.val (.long p1), .second, .val (.long p2), .second, .val (.int p3), .val (.int p4), .val (.int p5), .val (.int mm), .val (.int mk), .val (.ref b187), .val (.int (own_sp cs mm)), .val (.ref b189), .val (.int (0 : Int32)), .val (.int kk), .val (.int (0 : Int32)), .val (.int (0 : Int32)), .val (.int (own_g ys_194 (0 : Int32)))] [(.int (1 : Int32))]))) (fun t ht => XS.iconst X195.here hx rfl (hb hby at_307) ht) ?_
        refine own_step (U' := (T195.setTop (mkF m 312 #[.val (.long p1), .second, .val (.long p2), .second, .val (.int p3), .val (.int p4), .val (.int p5), .val (.int mm), .val (.int mk), .val (.ref b187), .val (.int (own_sp cs mm)), .val (.ref b189), .val (.int (0 : Int32)), .val (.int kk), .val (.int (0 : Int32)), .val (.int (0 : Int32)), .val (.int (own_g ys_194 (0 : Int32)))] [(.int (1 : Int32))]))) (fun t ht => XS.goto X195.here hx rfl (pc0 := 308) (pc' := 312) rfl (hb hby at_308) (by decide) (by decide) ht) ?_
        refine own_ret X195 (v := (some (.int (nar .boolean (1 : Int32))))) (fun h => by rw [Bd.returns] at h; cases h) Bd.notSynchronized (by decide) (by decide) ?_ (fun fs hr => retN X195 hx (t := .boolean) Bd.returns (by simp) (hb hby at_312) hr)
        show own_Q_law Z p1 p2 p3 p4 p5 h0 n0 _ T195.heap _
        rw [e195]
        exact ⟨rfl, N195⟩
      ·
        refine own_step (U' := (T191.setTop (mkF m 221 #[.val (.long p1), .second, .val (.long p2), .second, .val (.int p3), .val (.int p4), .val (.int p5), .val (.int mm), .val (.int mk), .val (.ref b187), .val (.int (own_sp cs mm)), .val (.ref b189), .val (.int (0 : Int32)), .val (.int kk), .unset, .unset, .unset] [(.ref b189)]))) (fun t ht => XS.aload X191.here hx rfl (hb hby at_219) rfl rfl ht) ?_
        refine own_step (U' := (T191.setTop (mkF m 222 #[.val (.long p1), .second, .val (.long p2), .second, .val (.int p3), .val (.int p4), .val (.int p5), .val (.int mm), .val (.int mk), .val (.ref b187), .val (.int (own_sp cs mm)), .val (.ref b189), .val (.int (0 : Int32)), .val (.int kk), .unset, .unset, .unset] [(.int (0 : Int32)), (.ref b189)]))) (fun t ht => XS.iconst X191.here hx rfl (hb hby at_221) ht) ?_
        refine own_step (U' := (T191.setTop (mkF m 224 #[.val (.long p1), .second, .val (.long p2), .second, .val (.int p3), .val (.int p4), .val (.int p5), .val (.int mm), .val (.int mk), .val (.ref b187), .val (.int (own_sp cs mm)), .val (.ref b189), .val (.int (0 : Int32)), .val (.int kk), .unset, .unset, .unset] [(.int kk), (.int (0 : Int32)), (.ref b189)]))) (fun t ht => XS.iload X191.here hx rfl (hb hby at_222) rfl ht) ?_
        refine own_step (U' := (T191.setTop (mkF m 226 #[.val (.long p1), .second, .val (.long p2), .second, .val (.int p3), .val (.int p4), .val (.int p5), .val (.int mm), .val (.int mk), .val (.ref b187), .val (.int (own_sp cs mm)), .val (.ref b189), .val (.int (0 : Int32)), .val (.int kk), .unset, .unset, .unset] [(.int kk), (.int kk), (.int (0 : Int32)), (.ref b189)]))) (fun t ht => XS.iload X191.here hx rfl (hb hby at_224) rfl ht) ?_
        refine own_step (U' := (T191.setTop (mkF m 227 #[.val (.long p1), .second, .val (.long p2), .second, .val (.int p3), .val (.int p4), .val (.int p5), .val (.int mm), .val (.int mk), .val (.ref b187), .val (.int (own_sp cs mm)), .val (.ref b189), .val (.int (0 : Int32)), .val (.int kk), .unset, .unset, .unset] [(.int (1 : Int32)), (.int kk), (.int kk), (.int (0 : Int32)), (.ref b189)]))) (fun t ht => XS.iconst X191.here hx rfl (hb hby at_226) ht) ?_
        refine own_step (U' := (T191.setTop (mkF m 228 #[.val (.long p1), .second, .val (.long p2), .second, .val (.int p3), .val (.int p4), .val (.int p5), .val (.int mm), .val (.int mk), .val (.ref b187), .val (.int (own_sp cs mm)), .val (.ref b189), .val (.int (0 : Int32)), .val (.int kk), .unset, .unset, .unset] [(.int (kk - (1 : Int32))), (.int kk), (.int (0 : Int32)), (.ref b189)]))) (fun t ht => XS.isub X191.here hx rfl (hb hby at_227) rfl ht) ?_
        refine own_step (U' := (T191.setTop (mkF m 229 #[.val (.long p1), .second, .val (.long p2), .second, .val (.int p3), .val (.int p4), .val (.int p5), .val (.int mm), .val (.int mk), .val (.ref b187), .val (.int (own_sp cs mm)), .val (.ref b189), .val (.int (0 : Int32)), .val (.int kk), .unset, .unset, .unset] [(.int (0 : Int32)), (.int (kk - (1 : Int32))), (.int kk), (.int (0 : Int32)), (.ref b189)]))) (fun t ht => XS.iconst X191.here hx rfl (hb hby at_228) ht) ?_
        obtain ⟨cq196, kq196, q196a, q196b, q196c⟩ := isOf hZ e191 Fq190_4
        obtain ⟨_, _, ⟨T196, L196, k196, n196⟩, -, X196, ⟨Lc196, hQ196, l196, y196, z196⟩, st196⟩ := X191.virtualBack hx (y := (⟨"com/example/skip2/skip2/boyermoore/BoyerMooreSearcher", "step", "(IIIC)I"⟩ : MethodName)) (z := (⟨"com/example/skip2/skip2/boyermoore/BoyerMooreSearcher", "step", "(IIIC)I"⟩ : MethodName)) hown (mvT hZ (hw _ (List.mem_of_getElem? (i := 95) rfl))) (mvT hZ (hw _ (List.mem_of_getElem? (i := 96) rfl))) (notFace_of_selects (args := #[]) (mvT hZ (hw _ (List.mem_of_getElem? (i := 98) rfl)))) (mvT hZ (hw _ (List.mem_of_getElem? (i := 98) rfl))) (mvT hZ (hw _ (List.mem_of_getElem? (i := 97) rfl))) (by decide) (own_backP (PV := fun vm => Z.WarmedH vm) (fun _ q => State.WarmedH.trans hkv q) (W := 0) (own_m_stpB l Z a0 hw [] (b189) ((0 : Int32)) (kk) ((kk - (1 : Int32))) ((0 : Int32)) (b187) ((own_bud mm)) ((0 : Int32)) (k187) (cs) (mm) (M) T190.heap n0 (Nat.le_trans Z0 K190.1) g_b189 ne_b187_b189 Fq190_0 Fq190_1 Fq190_2 Fq190_3 Fq190_4 f190_0 (own_kpre hkk (by omega)) (own_argp hm h1 h8 hkk hkM) hbf hm h1 h8 hcl hch) hZ (hw _ (List.mem_of_getElem? (i := 99) rfl)) (hw _ (List.mem_of_getElem? (i := 13) rfl)) (by decide) (by decide)) q196a q196c (g := (mkF m 229 #[.val (.long p1), .second, .val (.long p2), .second, .val (.int p3), .val (.int p4), .val (.int p5), .val (.int mm), .val (.int mk), .val (.ref b187), .val (.int (own_sp cs mm)), .val (.ref b189), .val (.int (0 : Int32)), .val (.int kk), .unset, .unset, .unset] [(.int (0 : Int32)), (.int (kk - (1 : Int32))), (.int kk), (.int (0 : Int32)), (.ref b189)])) rfl (by rw [hml]; rfl) (Steps.refl _) (argsL := [(.int (0 : Int32)), (.int kk), (.int (kk - (1 : Int32))), (.int (0 : Int32))]) (rest := []) (lenOf own_pd15 rfl) rfl (by show 2 * 0 + _ ≤ _; exact Nat.le_of_eq rfl) (hb hby at_229) (fun _ _ => ⟨rfl, e191, (by decide : 3 + 4 ≤ _), (by decide : 31 + 26 ≤ _)⟩)
        dsimp only [Pt.U, Pt.locs, Pt.cells, Pt.slots] at X196 l196 y196 z196 st196 hQ196
        subst l196 y196 z196
        obtain ⟨r_196, kr_196, ys_196, rfl, Nq196, Kq196, sq_r_196, p196_0, p196_1, Fq196_0, Fq196_1, Fq196_2, Fq196_3, Fq196_4, Fq196_5⟩ := hQ196
        have N196 := Fr.app N191 Nq196
        have ne_b187_r_196 : b187 ≠ r_196 := Nat.ne_of_lt (Nat.lt_of_lt_of_le f190_0.lt sq_r_196)
        have ne_b189_r_196 : b189 ≠ r_196 := Nat.ne_of_lt (Nat.lt_of_lt_of_le Fq190_0.lt sq_r_196)
        have g_r_196 : n0 ≤ r_196 := Nat.le_trans (Nat.le_trans Z0 K190.1) sq_r_196
        have sz_r_196 : h0.size ≤ r_196 := Nat.le_trans K190.1 sq_r_196
        have f196_0 := f190_0.keep Kq196 (ninS ne_b187_b189 nin0)
        have f196_5 := Fq190_4.keep Kq196
        have K196 : Keep h0 T196.heap [] := K190.trans Kq196 (allS (Or.inr sz_b189) all0)
        refine own_step (U' := (T196.setTop (mkF m 232 #[.val (.long p1), .second, .val (.long p2), .second, .val (.int p3), .val (.int p4), .val (.int p5), .val (.int mm), .val (.int mk), .val (.ref b187), .val (.int (own_sp cs mm)), .val (.ref b189), .val (.int (0 : Int32)), .val (.int kk), .unset, .unset, .unset] [(.int (0 : Int32))]))) (fun t ht => st196.trans ht) ?_
        refine own_step (U' := (T196.setTop (mkF m 233 #[.val (.long p1), .second, .val (.long p2), .second, .val (.int p3), .val (.int p4), .val (.int p5), .val (.int mm), .val (.int mk), .val (.ref b187), .val (.int (own_sp cs mm)), .val (.ref b189), .val (.int (0 : Int32)), .val (.int kk), .unset, .unset, .unset] []))) (fun t ht => XT.pop X196.here hx rfl (hb hby at_232) rfl rfl ht) ?_
        refine own_step (U' := (T196.setTop (mkF m 235 #[.val (.long p1), .second, .val (.long p2), .second, .val (.int p3), .val (.int p4), .val (.int p5), .val (.int mm), .val (.int mk), .val (.ref b187), .val (.int (own_sp cs mm)), .val (.ref b189), .val (.int (0 : Int32)), .val (.int kk), .unset, .unset, .unset] [(.ref b189)]))) (fun t ht => XS.aload X196.here hx rfl (hb hby at_233) rfl rfl ht) ?_
        obtain ⟨cq197, kq197, q197a, q197b, q197c⟩ := isOf hZ rfl Fq196_5
        obtain ⟨_, _, ⟨T197, L197, k197, n197⟩, -, X197, ⟨Lc197, hQ197, l197, y197, z197⟩, st197⟩ := X196.virtualBack hx (y := (⟨"com/example/skip2/skip2/boyermoore/BoyerMooreSearcher", "period", "()I"⟩ : MethodName)) (z := (⟨"com/example/skip2/skip2/boyermoore/BoyerMooreSearcher", "period", "()I"⟩ : MethodName)) hown (mvT hZ (hw _ (List.mem_of_getElem? (i := 87) rfl))) (mvT hZ (hw _ (List.mem_of_getElem? (i := 88) rfl))) (notFace_of_selects (args := #[]) (mvT hZ (hw _ (List.mem_of_getElem? (i := 90) rfl)))) (mvT hZ (hw _ (List.mem_of_getElem? (i := 90) rfl))) (mvT hZ (hw _ (List.mem_of_getElem? (i := 89) rfl))) (by decide) (backOf (W := 0) (own_m_perA l Z a0 hw [] (b189) (r_196) (kr_196) (ys_196) (mm) (M) T196.heap n0 (Nat.le_trans Z0 K196.1) Fq196_3 Fq196_0 hm h1) hZ (hw _ (List.mem_of_getElem? (i := 91) rfl)) (hw _ (List.mem_of_getElem? (i := 13) rfl)) (by decide) (by decide)) q197a q197c (g := (mkF m 235 #[.val (.long p1), .second, .val (.long p2), .second, .val (.int p3), .val (.int p4), .val (.int p5), .val (.int mm), .val (.int mk), .val (.ref b187), .val (.int (own_sp cs mm)), .val (.ref b189), .val (.int (0 : Int32)), .val (.int kk), .unset, .unset, .unset] [(.ref b189)])) rfl (by rw [hml]; rfl) (Steps.refl _) (argsL := []) (rest := []) (lenOf own_pd14 rfl) rfl (by show 2 * 0 + _ ≤ _; exact Nat.le_of_eq rfl) (hb hby at_235) (fun _ _ => ⟨rfl, rfl, (by decide : 7 + 0 ≤ _), (by decide : 57 + 0 ≤ _)⟩)
        dsimp only [Pt.U, Pt.locs, Pt.cells, Pt.slots] at X197 l197 y197 z197 st197 hQ197
        subst l197 y197 z197
        obtain ⟨rfl, Nq197, Kq197⟩ := hQ197
        have N197 := Fr.app N196 Nq197
        have e197 : T197.heap = T196.heap := Kq197
        refine own_step (U' := (T197.setTop (mkF m 238 #[.val (.long p1), .second, .val (.long p2), .second, .val (.int p3), .val (.int p4), .val (.int p5), .val (.int mm), .val (.int mk), .val (.ref b187), .val (.int (own_sp cs mm)), .val (.ref b189), .val (.int (0 : Int32)), .val (.int kk), .unset, .unset, .unset] [(.int (own_g ys_196 (0 : Int32)))]))) (fun t ht => st197.trans ht) ?_
        refine own_step (U' := (T197.setTop (mkF m 240 #[.val (.long p1), .second, .val (.long p2), .second, .val (.int p3), .val (.int p4), .val (.int p5), .val (.int mm), .val (.int mk), .val (.ref b187), .val (.int (own_sp cs mm)), .val (.ref b189), .val (.int (0 : Int32)), .val (.int kk), .val (.int (own_g ys_196 (0 : Int32))), .unset, .unset] []))) (fun t ht => XS.istore X197.here hx rfl (hb hby at_238) rfl (l' := #[.val (.long p1), .second, .val (.long p2), .second, .val (.int p3), .val (.int p4), .val (.int p5), .val (.int mm), .val (.int mk), .val (.ref b187), .val (.int (own_sp cs mm)), .val (.ref b189), .val (.int (0 : Int32)), .val (.int kk), .val (.int (own_g ys_196 (0 : Int32))), .unset, .unset]) rfl ht) ?_
        refine own_step (U' := (T197.setTop (mkF m 242 #[.val (.long p1), .second, .val (.long p2), .second, .val (.int p3), .val (.int p4), .val (.int p5), .val (.int mm), .val (.int mk), .val (.ref b187), .val (.int (own_sp cs mm)), .val (.ref b189), .val (.int (0 : Int32)), .val (.int kk), .val (.int (own_g ys_196 (0 : Int32))), .unset, .unset] [(.int (8 : Int32))]))) (fun t ht => XS.bipush X197.here hx rfl (hb hby at_240) ht) ?_
        refine own_step (U' := (T197.setTop (mkF m 244 #[.val (.long p1), .second, .val (.long p2), .second, .val (.int p3), .val (.int p4), .val (.int p5), .val (.int mm), .val (.int mk), .val (.ref b187), .val (.int (own_sp cs mm)), .val (.ref b189), .val (.int (0 : Int32)), .val (.int kk), .val (.int (own_g ys_196 (0 : Int32))), .unset, .unset] [(.int mm), (.int (8 : Int32))]))) (fun t ht => XS.iload X197.here hx rfl (hb hby at_242) rfl ht) ?_
        refine own_step (U' := (T197.setTop (mkF m 246 #[.val (.long p1), .second, .val (.long p2), .second, .val (.int p3), .val (.int p4), .val (.int p5), .val (.int mm), .val (.int mk), .val (.ref b187), .val (.int (own_sp cs mm)), .val (.ref b189), .val (.int (0 : Int32)), .val (.int kk), .val (.int (own_g ys_196 (0 : Int32))), .unset, .unset] [(.int kk), (.int mm), (.int (8 : Int32))]))) (fun t ht => XS.iload X197.here hx rfl (hb hby at_244) rfl ht) ?_
        refine own_step (U' := (T197.setTop (mkF m 247 #[.val (.long p1), .second, .val (.long p2), .second, .val (.int p3), .val (.int p4), .val (.int p5), .val (.int mm), .val (.int mk), .val (.ref b187), .val (.int (own_sp cs mm)), .val (.ref b189), .val (.int (0 : Int32)), .val (.int kk), .val (.int (own_g ys_196 (0 : Int32))), .unset, .unset] [(.int (mm - kk)), (.int (8 : Int32))]))) (fun t ht => XS.isub X197.here hx rfl (hb hby at_246) rfl ht) ?_
        refine own_step (U' := (T197.setTop (mkF m 248 #[.val (.long p1), .second, .val (.long p2), .second, .val (.int p3), .val (.int p4), .val (.int p5), .val (.int mm), .val (.int mk), .val (.ref b187), .val (.int (own_sp cs mm)), .val (.ref b189), .val (.int (0 : Int32)), .val (.int kk), .val (.int (own_g ys_196 (0 : Int32))), .unset, .unset] [(.int ((8 : Int32) + (mm - kk)))]))) (fun t ht => XS.iadd X197.here hx rfl (hb hby at_247) rfl ht) ?_
        refine own_step (U' := (T197.setTop (mkF m 249 #[.val (.long p1), .second, .val (.long p2), .second, .val (.int p3), .val (.int p4), .val (.int p5), .val (.int mm), .val (.int mk), .val (.ref b187), .val (.int (own_sp cs mm)), .val (.ref b189), .val (.int (0 : Int32)), .val (.int kk), .val (.int (own_g ys_196 (0 : Int32))), .unset, .unset] [(.int (2 : Int32)), (.int ((8 : Int32) + (mm - kk)))]))) (fun t ht => XS.iconst X197.here hx rfl (hb hby at_248) ht) ?_
        refine own_step (U' := (T197.setTop (mkF m 251 #[.val (.long p1), .second, .val (.long p2), .second, .val (.int p3), .val (.int p4), .val (.int p5), .val (.int mm), .val (.int mk), .val (.ref b187), .val (.int (own_sp cs mm)), .val (.ref b189), .val (.int (0 : Int32)), .val (.int kk), .val (.int (own_g ys_196 (0 : Int32))), .unset, .unset] [(.int mm), (.int (2 : Int32)), (.int ((8 : Int32) + (mm - kk)))]))) (fun t ht => XS.iload X197.here hx rfl (hb hby at_249) rfl ht) ?_
        refine own_step (U' := (T197.setTop (mkF m 252 #[.val (.long p1), .second, .val (.long p2), .second, .val (.int p3), .val (.int p4), .val (.int p5), .val (.int mm), .val (.int mk), .val (.ref b187), .val (.int (own_sp cs mm)), .val (.ref b189), .val (.int (0 : Int32)), .val (.int kk), .val (.int (own_g ys_196 (0 : Int32))), .unset, .unset] [(.int ((2 : Int32) * mm)), (.int ((8 : Int32) + (mm - kk)))]))) (fun t ht => XS.imul X197.here hx rfl (hb hby at_251) rfl ht) ?_
        refine own_step (U' := (T197.setTop (mkF m 255 #[.val (.long p1), .second, .val (.long p2), .second, .val (.int p3), .val (.int p4), .val (.int p5), .val (.int mm), .val (.int mk), .val (.ref b187), .val (.int (own_sp cs mm)), .val (.ref b189), .val (.int (0 : Int32)), .val (.int kk), .val (.int (own_g ys_196 (0 : Int32))), .unset, .unset] []))) (fun t ht => XS.icmpNo X197.here hx rfl (hb hby at_252) rfl (XT.ii_lt_f ((fun q => hbf ((own_first hm h1 h8 hkk hkM).mpr q)) : ¬ (((8 : Int32) + (mm - kk)) < ((2 : Int32) * mm)))) ht) ?_
        refine own_step (U' := (T197.setTop (mkF m 256 #[.val (.long p1), .second, .val (.long p2), .second, .val (.int p3), .val (.int p4), .val (.int p5), .val (.int mm), .val (.int mk), .val (.ref b187), .val (.int (own_sp cs mm)), .val (.ref b189), .val (.int (0 : Int32)), .val (.int kk), .val (.int (own_g ys_196 (0 : Int32))), .unset, .unset] [(.int (1 : Int32))]))) (fun t ht => XS.iconst X197.here hx rfl (hb hby at_255) ht) ?_
        refine own_step (U' := (T197.setTop (mkF m 260 #[.val (.long p1), .second, .val (.long p2), .second, .val (.int p3), .val (.int p4), .val (.int p5), .val (.int mm), .val (.int mk), .val (.ref b187), .val (.int (own_sp cs mm)), .val (.ref b189), .val (.int (0 : Int32)), .val (.int kk), .val (.int (own_g ys_196 (0 : Int32))), .unset, .unset] [(.int (1 : Int32))]))) (fun t ht => XS.goto X197.here hx rfl (pc0 := 256) (pc' := 260) rfl (hb hby at_256) (by decide) (by decide) ht) ?_
        refine own_step (U' := (T197.setTop (mkF m 262 #[.val (.long p1), .second, .val (.long p2), .second, .val (.int p3), .val (.int p4), .val (.int p5), .val (.int mm), .val (.int mk), .val (.ref b187), .val (.int (own_sp cs mm)), .val (.ref b189), .val (.int (0 : Int32)), .val (.int kk), .val (.int (own_g ys_196 (0 : Int32))), .val (.int (1 : Int32)), .unset] []))) (fun t ht => XS.istore X197.here hx rfl (hb hby at_260) rfl (l' := #[.val (.long p1), .second, .val (.long p2), .second, .val (.int p3), .val (.int p4), .val (.int p5), .val (.int mm), .val (.int mk), .val (.ref b187), .val (.int (own_sp cs mm)), .val (.ref b189), .val (.int (0 : Int32)), .val (.int kk), .val (.int (own_g ys_196 (0 : Int32))), .val (.int (1 : Int32)), .unset]) rfl ht) ?_
        refine own_step (U' := (T197.setTop (mkF m 264 #[.val (.long p1), .second, .val (.long p2), .second, .val (.int p3), .val (.int p4), .val (.int p5), .val (.int mm), .val (.int mk), .val (.ref b187), .val (.int (own_sp cs mm)), .val (.ref b189), .val (.int (0 : Int32)), .val (.int kk), .val (.int (own_g ys_196 (0 : Int32))), .val (.int (1 : Int32)), .unset] [(.ref b189)]))) (fun t ht => XS.aload X197.here hx rfl (hb hby at_262) rfl rfl ht) ?_
        refine own_step (U' := (T197.setTop (mkF m 265 #[.val (.long p1), .second, .val (.long p2), .second, .val (.int p3), .val (.int p4), .val (.int p5), .val (.int mm), .val (.int mk), .val (.ref b187), .val (.int (own_sp cs mm)), .val (.ref b189), .val (.int (0 : Int32)), .val (.int kk), .val (.int (own_g ys_196 (0 : Int32))), .val (.int (1 : Int32)), .unset] [(.int (0 : Int32)), (.ref b189)]))) (fun t ht => XS.iconst X197.here hx rfl (hb hby at_264) ht) ?_
        refine own_step (U' := (T197.setTop (mkF m 266 #[.val (.long p1), .second, .val (.long p2), .second, .val (.int p3), .val (.int p4), .val (.int p5), .val (.int mm), .val (.int mk), .val (.ref b187), .val (.int (own_sp cs mm)), .val (.ref b189), .val (.int (0 : Int32)), .val (.int kk), .val (.int (own_g ys_196 (0 : Int32))), .val (.int (1 : Int32)), .unset] [(.int (0 : Int32)), (.int (0 : Int32)), (.ref b189)]))) (fun t ht => XS.iconst X197.here hx rfl (hb hby at_265) ht) ?_
        refine own_step (U' := (T197.setTop (mkF m 267 #[.val (.long p1), .second, .val (.long p2), .second, .val (.int p3), .val (.int p4), .val (.int p5), .val (.int mm), .val (.int mk), .val (.ref b187), .val (.int (own_sp cs mm)), .val (.ref b189), .val (.int (0 : Int32)), .val (.int kk), .val (.int (own_g ys_196 (0 : Int32))), .val (.int (1 : Int32)), .unset] [(.int (-1 : Int32)), (.int (0 : Int32)), (.int (0 : Int32)), (.ref b189)]))) (fun t ht => XS.iconst X197.here hx rfl (hb hby at_266) ht) ?_
        refine own_step (U' := (T197.setTop (mkF m 268 #[.val (.long p1), .second, .val (.long p2), .second, .val (.int p3), .val (.int p4), .val (.int p5), .val (.int mm), .val (.int mk), .val (.ref b187), .val (.int (own_sp cs mm)), .val (.ref b189), .val (.int (0 : Int32)), .val (.int kk), .val (.int (own_g ys_196 (0 : Int32))), .val (.int (1 : Int32)), .unset] [(.int (0 : Int32)), (.int (-1 : Int32)), (.int (0 : Int32)), (.int (0 : Int32)), (.ref b189)]))) (fun t ht => XS.iconst X197.here hx rfl (hb hby at_267) ht) ?_
        obtain ⟨cq198, kq198, q198a, q198b, q198c⟩ := isOf hZ e197 Fq196_5
        obtain ⟨_, _, ⟨T198, L198, k198, n198⟩, -, X198, ⟨Lc198, hQ198, l198, y198, z198⟩, st198⟩ := X197.virtualBack hx (y := (⟨"com/example/skip2/skip2/boyermoore/BoyerMooreSearcher", "step", "(IIIC)I"⟩ : MethodName)) (z := (⟨"com/example/skip2/skip2/boyermoore/BoyerMooreSearcher", "step", "(IIIC)I"⟩ : MethodName)) hown (mvT hZ (hw _ (List.mem_of_getElem? (i := 95) rfl))) (mvT hZ (hw _ (List.mem_of_getElem? (i := 96) rfl))) (notFace_of_selects (args := #[]) (mvT hZ (hw _ (List.mem_of_getElem? (i := 98) rfl)))) (mvT hZ (hw _ (List.mem_of_getElem? (i := 98) rfl))) (mvT hZ (hw _ (List.mem_of_getElem? (i := 97) rfl))) (by decide) (backOf (W := 0) (own_m_stpA l Z a0 hw [] (b189) ((0 : Int32)) ((0 : Int32)) ((-1 : Int32)) ((0 : Int32)) (b187) (r_196) (k187) (cs) (mm) (M) T196.heap n0 (Nat.le_trans Z0 K196.1) Fq196_1 Fq196_3 Fq196_5 f196_0 (by decide)) hZ (hw _ (List.mem_of_getElem? (i := 99) rfl)) (hw _ (List.mem_of_getElem? (i := 13) rfl)) (by decide) (by decide)) q198a q198c (g := (mkF m 268 #[.val (.long p1), .second, .val (.long p2), .second, .val (.int p3), .val (.int p4), .val (.int p5), .val (.int mm), .val (.int mk), .val (.ref b187), .val (.int (own_sp cs mm)), .val (.ref b189), .val (.int (0 : Int32)), .val (.int kk), .val (.int (own_g ys_196 (0 : Int32))), .val (.int (1 : Int32)), .unset] [(.int (0 : Int32)), (.int (-1 : Int32)), (.int (0 : Int32)), (.int (0 : Int32)), (.ref b189)])) rfl (by rw [hml]; rfl) (Steps.refl _) (argsL := [(.int (0 : Int32)), (.int (0 : Int32)), (.int (-1 : Int32)), (.int (0 : Int32))]) (rest := []) (lenOf own_pd15 rfl) rfl (by show 2 * 0 + _ ≤ _; exact Nat.le_of_eq rfl) (hb hby at_268) (fun _ _ => ⟨rfl, e197, (by decide : 7 + 0 ≤ _), (by decide : 57 + 0 ≤ _)⟩)
        dsimp only [Pt.U, Pt.locs, Pt.cells, Pt.slots] at X198 l198 y198 z198 st198 hQ198
        subst l198 y198 z198
        obtain ⟨rfl, Nq198, Kq198⟩ := hQ198
        have N198 := Fr.app N197 Nq198
        have e198 : T198.heap = T196.heap := Kq198
        refine own_step (U' := (T198.setTop (mkF m 271 #[.val (.long p1), .second, .val (.long p2), .second, .val (.int p3), .val (.int p4), .val (.int p5), .val (.int mm), .val (.int mk), .val (.ref b187), .val (.int (own_sp cs mm)), .val (.ref b189), .val (.int (0 : Int32)), .val (.int kk), .val (.int (own_g ys_196 (0 : Int32))), .val (.int (1 : Int32)), .unset] [(.int (0 : Int32))]))) (fun t ht => st198.trans ht) ?_
        refine own_step (U' := (T198.setTop (mkF m 272 #[.val (.long p1), .second, .val (.long p2), .second, .val (.int p3), .val (.int p4), .val (.int p5), .val (.int mm), .val (.int mk), .val (.ref b187), .val (.int (own_sp cs mm)), .val (.ref b189), .val (.int (0 : Int32)), .val (.int kk), .val (.int (own_g ys_196 (0 : Int32))), .val (.int (1 : Int32)), .unset] []))) (fun t ht => XT.pop X198.here hx rfl (hb hby at_271) rfl rfl ht) ?_
        refine own_step (U' := (T198.setTop (mkF m 274 #[.val (.long p1), .second, .val (.long p2), .second, .val (.int p3), .val (.int p4), .val (.int p5), .val (.int mm), .val (.int mk), .val (.ref b187), .val (.int (own_sp cs mm)), .val (.ref b189), .val (.int (0 : Int32)), .val (.int kk), .val (.int (own_g ys_196 (0 : Int32))), .val (.int (1 : Int32)), .unset] [(.ref b189)]))) (fun t ht => XS.aload X198.here hx rfl (hb hby at_272) rfl rfl ht) ?_
        obtain ⟨cq199, kq199, q199a, q199b, q199c⟩ := isOf hZ e198 Fq196_5
        obtain ⟨_, _, ⟨T199, L199, k199, n199⟩, -, X199, ⟨Lc199, hQ199, l199, y199, z199⟩, st199⟩ := X198.virtualBack hx (y := (⟨"com/example/skip2/skip2/boyermoore/BoyerMooreSearcher", "period", "()I"⟩ : MethodName)) (z := (⟨"com/example/skip2/skip2/boyermoore/BoyerMooreSearcher", "period", "()I"⟩ : MethodName)) hown (mvT hZ (hw _ (List.mem_of_getElem? (i := 87) rfl))) (mvT hZ (hw _ (List.mem_of_getElem? (i := 88) rfl))) (notFace_of_selects (args := #[]) (mvT hZ (hw _ (List.mem_of_getElem? (i := 90) rfl)))) (mvT hZ (hw _ (List.mem_of_getElem? (i := 90) rfl))) (mvT hZ (hw _ (List.mem_of_getElem? (i := 89) rfl))) (by decide) (backOf (W := 0) (own_m_perA l Z a0 hw [] (b189) (r_196) (kr_196) (ys_196) (mm) (M) T196.heap n0 (Nat.le_trans Z0 K196.1) Fq196_3 Fq196_0 hm h1) hZ (hw _ (List.mem_of_getElem? (i := 91) rfl)) (hw _ (List.mem_of_getElem? (i := 13) rfl)) (by decide) (by decide)) q199a q199c (g := (mkF m 274 #[.val (.long p1), .second, .val (.long p2), .second, .val (.int p3), .val (.int p4), .val (.int p5), .val (.int mm), .val (.int mk), .val (.ref b187), .val (.int (own_sp cs mm)), .val (.ref b189), .val (.int (0 : Int32)), .val (.int kk), .val (.int (own_g ys_196 (0 : Int32))), .val (.int (1 : Int32)), .unset] [(.ref b189)])) rfl (by rw [hml]; rfl) (Steps.refl _) (argsL := []) (rest := []) (lenOf own_pd14 rfl) rfl (by show 2 * 0 + _ ≤ _; exact Nat.le_of_eq rfl) (hb hby at_274) (fun _ _ => ⟨rfl, e198, (by decide : 7 + 0 ≤ _), (by decide : 57 + 0 ≤ _)⟩)
        dsimp only [Pt.U, Pt.locs, Pt.cells, Pt.slots] at X199 l199 y199 z199 st199 hQ199
        subst l199 y199 z199
        obtain ⟨rfl, Nq199, Kq199⟩ := hQ199
        have N199 := Fr.app N198 Nq199
        have e199 : T199.heap = T196.heap := Kq199
        refine own_step (U' := (T199.setTop (mkF m 277 #[.val (.long p1), .second, .val (.long p2), .second, .val (.int p3), .val (.int p4), .val (.int p5), .val (.int mm), .val (.int mk), .val (.ref b187), .val (.int (own_sp cs mm)), .val (.ref b189), .val (.int (0 : Int32)), .val (.int kk), .val (.int (own_g ys_196 (0 : Int32))), .val (.int (1 : Int32)), .unset] [(.int (own_g ys_196 (0 : Int32)))]))) (fun t ht => st199.trans ht) ?_
        refine own_step (U' := (T199.setTop (mkF m 279 #[.val (.long p1), .second, .val (.long p2), .second, .val (.int p3), .val (.int p4), .val (.int p5), .val (.int mm), .val (.int mk), .val (.ref b187), .val (.int (own_sp cs mm)), .val (.ref b189), .val (.int (0 : Int32)), .val (.int kk), .val (.int (own_g ys_196 (0 : Int32))), .val (.int (1 : Int32)), .val (.int (own_g ys_196 (0 : Int32)))] []))) (fun t ht => XS.istore X199.here hx rfl (hb hby at_277) rfl (l' := #[.val (.long p1), .second, .val (.long p2), .second, .val (.int p3), .val (.int p4), .val (.int p5), .val (.int mm), .val (.int mk), .val (.ref b187), .val (.int (own_sp cs mm)), .val (.ref b189), .val (.int (0 : Int32)), .val (.int kk), .val (.int (own_g ys_196 (0 : Int32))), .val (.int (1 : Int32)), .val (.int (own_g ys_196 (0 : Int32)))]) rfl ht) ?_
        refine own_step (U' := (T199.setTop (mkF m 281 #[.val (.long p1), .second, .val (.long p2), .second, .val (.int p3), .val (.int p4), .val (.int p5), .val (.int mm), .val (.int mk), .val (.ref b187), .val (.int (own_sp cs mm)), .val (.ref b189), .val (.int (0 : Int32)), .val (.int kk), .val (.int (own_g ys_196 (0 : Int32))), .val (.int (1 : Int32)), .val (.int (own_g ys_196 (0 : Int32)))] [(.int (0 : Int32))]))) (fun t ht => XS.iload X199.here hx rfl (hb hby at_279) rfl ht) ?_
        refine own_step (U' := (T199.setTop (mkF m 284 #[.val (.long p1), .second, .val (.long p2), .second, .val (.int p3), .val (.int p4), .val (.int p5), .val (.int mm), .val (.int mk), .val (.ref b187), .val (.int (own_sp cs mm)), .val (.ref b189), .val (.int (0 : Int32)), .val (.int kk), .val (.int (own_g ys_196 (0 : Int32))), .val (.int (1 : Int32)), .val (.int (own_g ys_196 (0 : Int32)))] []))) (fun t ht => XS.ifNo X199.here hx rfl (hb hby at_281) rfl (XT.i0_ne_f ((by decide) : (0 : Int32) = 0)) ht) ?_
        refine own_step (U' := (T199.setTop (mkF m 286 #[.val (.long p1), .second, .val (.long p2), .second, .val (.int p3), .val (.int p4), .val (.int p5), .val (.int mm), .val (.int mk), .val (.ref b187), .val (.int (own_sp cs mm)), .val (.ref b189), .val (.int (0 : Int32)), .val (.int kk), .val (.int (own_g ys_196 (0 : Int32))), .val (.int (1 : Int32)), .val (.int (own_g ys_196 (0 : Int32)))] [(.int (own_g ys_196 (0 : Int32)))]))) (fun t ht => XS.iload X199.here hx rfl (hb hby at_284) rfl ht) ?_
        refine own_step (U' := (T199.setTop (mkF m 288 #[.val (.long p1), .second, .val (.long p2), .second, .val (.int p3), .val (.int p4), .val (.int p5), .val (.int mm), .val (.int mk), .val (.ref b187), .val (.int (own_sp cs mm)), .val (.ref b189), .val (.int (0 : Int32)), .val (.int kk), .val (.int (own_g ys_196 (0 : Int32))), .val (.int (1 : Int32)), .val (.int (own_g ys_196 (0 : Int32)))] [(.int (1 : Int32)), (.int (own_g ys_196 (0 : Int32)))]))) (fun t ht => XS.iload X199.here hx rfl (hb hby at_286) rfl ht) ?_
        refine own_step (U' := (T199.setTop (mkF m 291 #[.val (.long p1), .second, .val (.long p2), .second, .val (.int p3), .val (.int p4), .val (.int p5), .val (.int mm), .val (.int mk), .val (.ref b187), .val (.int (own_sp cs mm)), .val (.ref b189), .val (.int (0 : Int32)), .val (.int kk), .val (.int (own_g ys_196 (0 : Int32))), .val (.int (1 : Int32)), .val (.int (own_g ys_196 (0 : Int32)))] [(.int (own_g ys_196 (0 : Int32)))]))) (fun t ht => XS.ifNo X199.here hx rfl (hb hby at_288) rfl (XT.i0_eq_f ((by decide) : ¬ ((1 : Int32) = 0))) ht) ?_
        refine own_step (U' := (T199.setTop (mkF m 293 #[.val (.long p1), .second, .val (.long p2), .second, .val (.int p3), .val (.int p4), .val (.int p5), .val (.int mm), .val (.int mk), .val (.ref b187), .val (.int (own_sp cs mm)), .val (.ref b189), .val (.int (0 : Int32)), .val (.int kk), .val (.int (own_g ys_196 (0 : Int32))), .val (.int (1 : Int32)), .val (.int (own_g ys_196 (0 : Int32)))] [(.int (own_sp cs mm)), (.int (own_g ys_196 (0 : Int32)))]))) (fun t ht => XS.iload X199.here hx rfl (hb hby at_291) rfl ht) ?_
        refine own_step (U' := (T199.setTop (mkF m 297 #[.val (.long p1), .second, .val (.long p2), .second, .val (.int p3), .val (.int p4), .val (.int p5), .val (.int mm), .val (.int mk), .val (.ref b187), .val (.int (own_sp cs mm)), .val (.ref b189), .val (.int (0 : Int32)), .val (.int kk), .val (.int (own_g ys_196 (0 : Int32))), .val (.int (1 : Int32)), .val (.int (own_g ys_196 (0 : Int32)))] [(.int (own_sp cs mm)), (.int (own_g ys_196 (0 : Int32)))]))) (fun t ht => XS.goto X199.here hx rfl (pc0 := 293) (pc' := 297) rfl (hb hby at_293) (by decide) (by decide) ht) ?_
        refine own_step (U' := (T199.setTop (mkF m 300 #[.val (.long p1), .second, .val (.long p2), .second, .val (.int p3), .val (.int p4), .val (.int p5), .val (.int mm), .val (.int mk), .val (.ref b187), .val (.int (own_sp cs mm)), .val (.ref b189), .val (.int (0 : Int32)), .val (.int kk), .val (.int (own_g ys_196 (0 : Int32))), .val (.int (1 : Int32)), .val (.int (own_g ys_196 (0 : Int32)))] []))) (fun t ht => XS.icmpNo X199.here hx rfl (hb hby at_297) rfl (XT.ii_ne_f (p196_1 : (own_g ys_196 (0 : Int32)) = (own_sp cs mm))) ht) ?_
        refine own_step (U' := (T199.setTop (mkF m 302 #[.val (.long p1), .second, .val (.long p2), .second, .val (.int p3), .val (.int p4), .val (.int p5), .val (.int mm), .val (.int mk), .val (.ref b187), .val (.int (own_sp cs mm)), .val (.ref b189), .val (.int (0 : Int32)), .val (.int kk), .val (.int (own_g ys_196 (0 : Int32))), .val (.int (1 : Int32)), .val (.int (own_g ys_196 (0 : Int32)))] [(.int (own_g ys_196 (0 : Int32)))]))) (fun t ht => XS.iload X199.here hx rfl (hb hby at_300) rfl ht) ?_
        refine own_step (U' := (T199.setTop (mkF m 304 #[.val (.long p1), .second, .val (.long p2), .second, .val (.int p3), .val (.int p4), .val (.int p5), .val (.int mm), .val (.int mk), .val (.ref b187), .val (.int (own_sp cs mm)), .val (.ref b189), .val (.int (0 : Int32)), .val (.int kk), .val (.int (own_g ys_196 (0 : Int32))), .val (.int (1 : Int32)), .val (.int (own_g ys_196 (0 : Int32)))] [(.int (own_sp cs mm)), (.int (own_g ys_196 (0 : Int32)))]))) (fun t ht => XS.iload X199.here hx rfl (hb hby at_302) rfl ht) ?_
        refine own_step (U' := (T199.setTop (mkF m 307 #[.val (.long p1), .second, .val (.long p2), .second, .val (.int p3), .val (.int p4), .val (.int p5), .val (.int mm), .val (.int mk), .val (.ref b187), .val (.int (own_sp cs mm)), .val (.ref b189), .val (.int (0 : Int32)), .val (.int kk), .val (.int (own_g ys_196 (0 : Int32))), .val (.int (1 : Int32)), .val (.int (own_g ys_196 (0 : Int32)))] []))) (fun t ht => XS.icmpNo X199.here hx rfl (hb hby at_304) rfl (XT.ii_ne_f (p196_1 : (own_g ys_196 (0 : Int32)) = (own_sp cs mm))) ht) ?_
        refine own_step (U' := (T199.setTop (mkF m 308 #[.val (.long p1), .second, .val (.long p2), .second, .val (.int p3), .val (.int p4), .val (.int p5), .val (.int mm), .val (.int mk), .val (.ref b187), .val (.int (own_sp cs mm)), .val (.ref b189), .val (.int (0 : Int32)), .val (.int kk), .val (.int (own_g ys_196 (0 : Int32))), .val (.int (1 : Int32)), .val (.int (own_g ys_196 (0 : Int32)))] [(.int (1 : Int32))]))) (fun t ht => XS.iconst X199.here hx rfl (hb hby at_307) ht) ?_
        refine own_step (U' := (T199.setTop (mkF m 312 #[.val (.long p1), .second, .val (.long p2), .second, .val (.int p3), .val (.int p4), .val (.int p5), .val (.int mm), .val (.int mk), .val (.ref b187), .val (.int (own_sp cs mm)), .val (.ref b189), .val (.int (0 : Int32)), .val (.int kk), .val (.int (own_g ys_196 (0 : Int32))), .val (.int (1 : Int32)), .val (.int (own_g ys_196 (0 : Int32)))] [(.int (1 : Int32))]))) (fun t ht => XS.goto X199.here hx rfl (pc0 := 308) (pc' := 312) rfl (hb hby at_308) (by decide) (by decide) ht) ?_
        refine own_ret X199 (v := (some (.int (nar .boolean (1 : Int32))))) (fun h => by rw [Bd.returns] at h; cases h) Bd.notSynchronized (by decide) (by decide) ?_ (fun fs hr => retN X199 hx (t := .boolean) Bd.returns (by simp) (hb hby at_312) hr)
        show own_Q_law Z p1 p2 p3 p4 p5 h0 n0 _ T199.heap _
        rw [e199]
        exact ⟨rfl, N199⟩
    have gen160 : ∀ (cs : List Int32) (Tw160 : State) (Lw160 : List Loc) (Xw160 : Stand p l e room_1 s m #[(.long p1), (.long p2), (.int p3), (.int p4), (.int p5)] below meth c Tw160 Lw160 1 8) (Nw160 : Fr n0 Lw160) (Kw160 : Keep h0 Tw160.heap []) (fw1600 : Arv Z Tw160.heap b187 k187 .char mm (cs.map Value.int) (.int (0 : Int32))) (hcl : cs.length = M) (hch : ∀ c ∈ cs, own_ch c = c), own_Go p e below s 7 57 (own_Q_law Z p1 p2 p3 p4 p5 h0 n0) (Tw160.setTop (mkF m 160 #[.val (.long p1), .second, .val (.long p2), .second, .val (.int p3), .val (.int p4), .val (.int p5), .val (.int mm), .val (.int mk), .val (.ref b187), .unset, .unset, .unset, .unset, .unset, .unset, .unset] [])) := by
      intro cs Tw160 Lw160 Xw160 Nw160 Kw160 fw1600 hcl hch
      refine own_step (U' := (Tw160.setTop (mkF m 162 #[.val (.long p1), .second, .val (.long p2), .second, .val (.int p3), .val (.int p4), .val (.int p5), .val (.int mm), .val (.int mk), .val (.ref b187), .unset, .unset, .unset, .unset, .unset, .unset, .unset] [(.int mm)]))) (fun t ht => XS.iload Xw160.here hx rfl (hb hby at_160) rfl ht) ?_
      refine own_step (U' := (Tw160.setTop (mkF m 164 #[.val (.long p1), .second, .val (.long p2), .second, .val (.int p3), .val (.int p4), .val (.int p5), .val (.int mm), .val (.int mk), .val (.ref b187), .unset, .unset, .unset, .unset, .unset, .unset, .unset] [(.int (7 : Int32)), (.int mm)]))) (fun t ht => XS.bipush Xw160.here hx rfl (hb hby at_162) ht) ?_
      by_cases hc164_200 : (7 : Int32) < mm
      ·
        refine own_step (U' := (Tw160.setTop (mkF m 167 #[.val (.long p1), .second, .val (.long p2), .second, .val (.int p3), .val (.int p4), .val (.int p5), .val (.int mm), .val (.int mk), .val (.ref b187), .unset, .unset, .unset, .unset, .unset, .unset, .unset] []))) (fun t ht => XS.icmpNo Xw160.here hx rfl (hb hby at_164) rfl (XT.ii_le_f hc164_200) ht) ?_
        refine own_step (U' := (Tw160.setTop (mkF m 169 #[.val (.long p1), .second, .val (.long p2), .second, .val (.int p3), .val (.int p4), .val (.int p5), .val (.int mm), .val (.int mk), .val (.ref b187), .unset, .unset, .unset, .unset, .unset, .unset, .unset] [(.ref b187)]))) (fun t ht => XS.aload Xw160.here hx rfl (hb hby at_167) rfl rfl ht) ?_
        refine own_step (U' := (Tw160.setTop (mkF m 171 #[.val (.long p1), .second, .val (.long p2), .second, .val (.int p3), .val (.int p4), .val (.int p5), .val (.int mm), .val (.int mk), .val (.ref b187), .unset, .unset, .unset, .unset, .unset, .unset, .unset] [(.int (7 : Int32)), (.ref b187)]))) (fun t ht => XS.bipush Xw160.here hx rfl (hb hby at_169) ht) ?_
        refine own_step (U' := (Tw160.setTop (mkF m 172 #[.val (.long p1), .second, .val (.long p2), .second, .val (.int p3), .val (.int p4), .val (.int p5), .val (.int mm), .val (.int mk), .val (.ref b187), .unset, .unset, .unset, .unset, .unset, .unset, .unset] [(.long p2), (.int (7 : Int32)), (.ref b187)]))) (fun t ht => XT.lloadN Xw160.here hx rfl (hb hby at_171) rfl ht) ?_
        refine own_step (U' := (Tw160.setTop (mkF m 174 #[.val (.long p1), .second, .val (.long p2), .second, .val (.int p3), .val (.int p4), .val (.int p5), .val (.int mm), .val (.int mk), .val (.ref b187), .unset, .unset, .unset, .unset, .unset, .unset, .unset] [(.int (48 : Int32)), (.long p2), (.int (7 : Int32)), (.ref b187)]))) (fun t ht => XS.bipush Xw160.here hx rfl (hb hby at_172) ht) ?_
        refine own_step (U' := (Tw160.setTop (mkF m 175 #[.val (.long p1), .second, .val (.long p2), .second, .val (.int p3), .val (.int p4), .val (.int p5), .val (.int mm), .val (.int mk), .val (.ref b187), .unset, .unset, .unset, .unset, .unset, .unset, .unset] [(.long (XT.ushrL p2 (48 : Int32))), (.int (7 : Int32)), (.ref b187)]))) (fun t ht => XT.lushr Xw160.here hx rfl (hb hby at_174) rfl ht) ?_
        refine own_step (U' := (Tw160.setTop (mkF m 177 #[.val (.long p1), .second, .val (.long p2), .second, .val (.int p3), .val (.int p4), .val (.int p5), .val (.int mm), .val (.int mk), .val (.ref b187), .unset, .unset, .unset, .unset, .unset, .unset, .unset] [(.int mk), (.long (XT.ushrL p2 (48 : Int32))), (.int (7 : Int32)), (.ref b187)]))) (fun t ht => XS.iload Xw160.here hx rfl (hb hby at_175) rfl ht) ?_
        refine own_step (U' := (Tw160.setTop (mkF m 178 #[.val (.long p1), .second, .val (.long p2), .second, .val (.int p3), .val (.int p4), .val (.int p5), .val (.int mm), .val (.int mk), .val (.ref b187), .unset, .unset, .unset, .unset, .unset, .unset, .unset] [(.long (mk.toInt64)), (.long (XT.ushrL p2 (48 : Int32))), (.int (7 : Int32)), (.ref b187)]))) (fun t ht => XT.i2l Xw160.here hx rfl (hb hby at_177) rfl ht) ?_
        refine own_step (U' := (Tw160.setTop (mkF m 179 #[.val (.long p1), .second, .val (.long p2), .second, .val (.int p3), .val (.int p4), .val (.int p5), .val (.int mm), .val (.int mk), .val (.ref b187), .unset, .unset, .unset, .unset, .unset, .unset, .unset] [(.long ((XT.ushrL p2 (48 : Int32)) &&& (mk.toInt64))), (.int (7 : Int32)), (.ref b187)]))) (fun t ht => XT.land Xw160.here hx rfl (hb hby at_178) rfl ht) ?_
        refine own_step (U' := (Tw160.setTop (mkF m 180 #[.val (.long p1), .second, .val (.long p2), .second, .val (.int p3), .val (.int p4), .val (.int p5), .val (.int mm), .val (.int mk), .val (.ref b187), .unset, .unset, .unset, .unset, .unset, .unset, .unset] [(.int (((XT.ushrL p2 (48 : Int32)) &&& (mk.toInt64)).toInt32)), (.int (7 : Int32)), (.ref b187)]))) (fun t ht => XT.l2i Xw160.here hx rfl (hb hby at_179) rfl ht) ?_
        refine own_step (U' := (Tw160.setTop (mkF m 181 #[.val (.long p1), .second, .val (.long p2), .second, .val (.int p3), .val (.int p4), .val (.int p5), .val (.int mm), .val (.int mk), .val (.ref b187), .unset, .unset, .unset, .unset, .unset, .unset, .unset] [(.int ((((XT.ushrL p2 (48 : Int32)) &&& (mk.toInt64)).toInt32).toUInt32.toUInt16.toUInt32.toInt32)), (.int (7 : Int32)), (.ref b187)]))) (fun t ht => XT.i2c Xw160.here hx rfl (hb hby at_180) rfl ht) ?_
        obtain ⟨cl201, Ar201, q201, S201, N201_, H201, G201⟩ := (id fw1600)
        have hin201 : ¬ ((7 : Int32) < 0 ∨ cl201.slots.size ≤ ((7 : Int32)).toNatClampNeg) := inb_of S201 (own_inN (i := 7) rfl hm ((own_lti (i := 7) rfl hm).mp hc164_200))
        obtain ⟨T201, h201, X201, e201, W201, st201⟩ := stC Xw160 hx hZ rfl Ar201 (j := (7 : Int32)) hin201 (g := (mkF m 181 #[.val (.long p1), .second, .val (.long p2), .second, .val (.int p3), .val (.int p4), .val (.int p5), .val (.int mm), .val (.int mk), .val (.ref b187), .unset, .unset, .unset, .unset, .unset, .unset, .unset] [(.int ((((XT.ushrL p2 (48 : Int32)) &&& (mk.toInt64)).toInt32).toUInt32.toUInt16.toUInt32.toInt32)), (.int (7 : Int32)), (.ref b187)])) rfl rfl (hb hby at_181)
        have V201 : Arv Z h201 b187 k187 .char mm ((cs.set 7 (((((XT.ushrL p2 (48 : Int32)) &&& (mk.toInt64)).toInt32).toUInt32.toUInt16.toUInt32.toInt32).toUInt32.toUInt16.toUInt32.toInt32)).map Value.int) (.int (0 : Int32)) := own_setV Ar201 q201 S201 N201_ H201 G201 (fits_nar_char _) W201 (i := 7) rfl (by rw [hcl]; exact (own_lti (i := 7) rfl hm).mp hc164_200)
        have N201 := Fr.snoc X201 Nw160 g_b187
        have K201 : Keep h0 h201 [] := Kw160.wr W201 (Or.inr sz_b187)
        refine own_step (U' := (T201.setTop (mkF m 182 #[.val (.long p1), .second, .val (.long p2), .second, .val (.int p3), .val (.int p4), .val (.int p5), .val (.int mm), .val (.int mk), .val (.ref b187), .unset, .unset, .unset, .unset, .unset, .unset, .unset] []))) (fun t ht => st201 _ ht) ?_
        exact gen182 _ _ _ X201 N201 (by rw [e201]; exact K201) (by rw [e201]; exact V201) (by rw [List.length_set]; exact hcl) (own_chset hch (own_ch2 _))
      ·
        refine own_step (U' := (Tw160.setTop (mkF m 182 #[.val (.long p1), .second, .val (.long p2), .second, .val (.int p3), .val (.int p4), .val (.int p5), .val (.int mm), .val (.int mk), .val (.ref b187), .unset, .unset, .unset, .unset, .unset, .unset, .unset] []))) (fun t ht => XS.icmpYes Xw160.here hx rfl (pc0 := 164) (pc' := 182) rfl (hb hby at_164) rfl (XT.ii_le_t hc164_200) (by decide) (by decide) ht) ?_
        exact gen182 _ _ _ Xw160 Nw160 Kw160 fw1600 hcl hch
    have gen138 : ∀ (cs : List Int32) (Tw138 : State) (Lw138 : List Loc) (Xw138 : Stand p l e room_1 s m #[(.long p1), (.long p2), (.int p3), (.int p4), (.int p5)] below meth c Tw138 Lw138 1 8) (Nw138 : Fr n0 Lw138) (Kw138 : Keep h0 Tw138.heap []) (fw1380 : Arv Z Tw138.heap b187 k187 .char mm (cs.map Value.int) (.int (0 : Int32))) (hcl : cs.length = M) (hch : ∀ c ∈ cs, own_ch c = c), own_Go p e below s 7 57 (own_Q_law Z p1 p2 p3 p4 p5 h0 n0) (Tw138.setTop (mkF m 138 #[.val (.long p1), .second, .val (.long p2), .second, .val (.int p3), .val (.int p4), .val (.int p5), .val (.int mm), .val (.int mk), .val (.ref b187), .unset, .unset, .unset, .unset, .unset, .unset, .unset] [])) := by
      intro cs Tw138 Lw138 Xw138 Nw138 Kw138 fw1380 hcl hch
      refine own_step (U' := (Tw138.setTop (mkF m 140 #[.val (.long p1), .second, .val (.long p2), .second, .val (.int p3), .val (.int p4), .val (.int p5), .val (.int mm), .val (.int mk), .val (.ref b187), .unset, .unset, .unset, .unset, .unset, .unset, .unset] [(.int mm)]))) (fun t ht => XS.iload Xw138.here hx rfl (hb hby at_138) rfl ht) ?_
      refine own_step (U' := (Tw138.setTop (mkF m 142 #[.val (.long p1), .second, .val (.long p2), .second, .val (.int p3), .val (.int p4), .val (.int p5), .val (.int mm), .val (.int mk), .val (.ref b187), .unset, .unset, .unset, .unset, .unset, .unset, .unset] [(.int (6 : Int32)), (.int mm)]))) (fun t ht => XS.bipush Xw138.here hx rfl (hb hby at_140) ht) ?_
      by_cases hc142_202 : (6 : Int32) < mm
      ·
        refine own_step (U' := (Tw138.setTop (mkF m 145 #[.val (.long p1), .second, .val (.long p2), .second, .val (.int p3), .val (.int p4), .val (.int p5), .val (.int mm), .val (.int mk), .val (.ref b187), .unset, .unset, .unset, .unset, .unset, .unset, .unset] []))) (fun t ht => XS.icmpNo Xw138.here hx rfl (hb hby at_142) rfl (XT.ii_le_f hc142_202) ht) ?_
        refine own_step (U' := (Tw138.setTop (mkF m 147 #[.val (.long p1), .second, .val (.long p2), .second, .val (.int p3), .val (.int p4), .val (.int p5), .val (.int mm), .val (.int mk), .val (.ref b187), .unset, .unset, .unset, .unset, .unset, .unset, .unset] [(.ref b187)]))) (fun t ht => XS.aload Xw138.here hx rfl (hb hby at_145) rfl rfl ht) ?_
        refine own_step (U' := (Tw138.setTop (mkF m 149 #[.val (.long p1), .second, .val (.long p2), .second, .val (.int p3), .val (.int p4), .val (.int p5), .val (.int mm), .val (.int mk), .val (.ref b187), .unset, .unset, .unset, .unset, .unset, .unset, .unset] [(.int (6 : Int32)), (.ref b187)]))) (fun t ht => XS.bipush Xw138.here hx rfl (hb hby at_147) ht) ?_
        refine own_step (U' := (Tw138.setTop (mkF m 150 #[.val (.long p1), .second, .val (.long p2), .second, .val (.int p3), .val (.int p4), .val (.int p5), .val (.int mm), .val (.int mk), .val (.ref b187), .unset, .unset, .unset, .unset, .unset, .unset, .unset] [(.long p2), (.int (6 : Int32)), (.ref b187)]))) (fun t ht => XT.lloadN Xw138.here hx rfl (hb hby at_149) rfl ht) ?_
        refine own_step (U' := (Tw138.setTop (mkF m 152 #[.val (.long p1), .second, .val (.long p2), .second, .val (.int p3), .val (.int p4), .val (.int p5), .val (.int mm), .val (.int mk), .val (.ref b187), .unset, .unset, .unset, .unset, .unset, .unset, .unset] [(.int (32 : Int32)), (.long p2), (.int (6 : Int32)), (.ref b187)]))) (fun t ht => XS.bipush Xw138.here hx rfl (hb hby at_150) ht) ?_
        refine own_step (U' := (Tw138.setTop (mkF m 153 #[.val (.long p1), .second, .val (.long p2), .second, .val (.int p3), .val (.int p4), .val (.int p5), .val (.int mm), .val (.int mk), .val (.ref b187), .unset, .unset, .unset, .unset, .unset, .unset, .unset] [(.long (XT.ushrL p2 (32 : Int32))), (.int (6 : Int32)), (.ref b187)]))) (fun t ht => XT.lushr Xw138.here hx rfl (hb hby at_152) rfl ht) ?_
        refine own_step (U' := (Tw138.setTop (mkF m 155 #[.val (.long p1), .second, .val (.long p2), .second, .val (.int p3), .val (.int p4), .val (.int p5), .val (.int mm), .val (.int mk), .val (.ref b187), .unset, .unset, .unset, .unset, .unset, .unset, .unset] [(.int mk), (.long (XT.ushrL p2 (32 : Int32))), (.int (6 : Int32)), (.ref b187)]))) (fun t ht => XS.iload Xw138.here hx rfl (hb hby at_153) rfl ht) ?_
        refine own_step (U' := (Tw138.setTop (mkF m 156 #[.val (.long p1), .second, .val (.long p2), .second, .val (.int p3), .val (.int p4), .val (.int p5), .val (.int mm), .val (.int mk), .val (.ref b187), .unset, .unset, .unset, .unset, .unset, .unset, .unset] [(.long (mk.toInt64)), (.long (XT.ushrL p2 (32 : Int32))), (.int (6 : Int32)), (.ref b187)]))) (fun t ht => XT.i2l Xw138.here hx rfl (hb hby at_155) rfl ht) ?_
        refine own_step (U' := (Tw138.setTop (mkF m 157 #[.val (.long p1), .second, .val (.long p2), .second, .val (.int p3), .val (.int p4), .val (.int p5), .val (.int mm), .val (.int mk), .val (.ref b187), .unset, .unset, .unset, .unset, .unset, .unset, .unset] [(.long ((XT.ushrL p2 (32 : Int32)) &&& (mk.toInt64))), (.int (6 : Int32)), (.ref b187)]))) (fun t ht => XT.land Xw138.here hx rfl (hb hby at_156) rfl ht) ?_
        refine own_step (U' := (Tw138.setTop (mkF m 158 #[.val (.long p1), .second, .val (.long p2), .second, .val (.int p3), .val (.int p4), .val (.int p5), .val (.int mm), .val (.int mk), .val (.ref b187), .unset, .unset, .unset, .unset, .unset, .unset, .unset] [(.int (((XT.ushrL p2 (32 : Int32)) &&& (mk.toInt64)).toInt32)), (.int (6 : Int32)), (.ref b187)]))) (fun t ht => XT.l2i Xw138.here hx rfl (hb hby at_157) rfl ht) ?_
        refine own_step (U' := (Tw138.setTop (mkF m 159 #[.val (.long p1), .second, .val (.long p2), .second, .val (.int p3), .val (.int p4), .val (.int p5), .val (.int mm), .val (.int mk), .val (.ref b187), .unset, .unset, .unset, .unset, .unset, .unset, .unset] [(.int ((((XT.ushrL p2 (32 : Int32)) &&& (mk.toInt64)).toInt32).toUInt32.toUInt16.toUInt32.toInt32)), (.int (6 : Int32)), (.ref b187)]))) (fun t ht => XT.i2c Xw138.here hx rfl (hb hby at_158) rfl ht) ?_
        obtain ⟨cl203, Ar203, q203, S203, N203_, H203, G203⟩ := (id fw1380)
        have hin203 : ¬ ((6 : Int32) < 0 ∨ cl203.slots.size ≤ ((6 : Int32)).toNatClampNeg) := inb_of S203 (own_inN (i := 6) rfl hm ((own_lti (i := 6) rfl hm).mp hc142_202))
        obtain ⟨T203, h203, X203, e203, W203, st203⟩ := stC Xw138 hx hZ rfl Ar203 (j := (6 : Int32)) hin203 (g := (mkF m 159 #[.val (.long p1), .second, .val (.long p2), .second, .val (.int p3), .val (.int p4), .val (.int p5), .val (.int mm), .val (.int mk), .val (.ref b187), .unset, .unset, .unset, .unset, .unset, .unset, .unset] [(.int ((((XT.ushrL p2 (32 : Int32)) &&& (mk.toInt64)).toInt32).toUInt32.toUInt16.toUInt32.toInt32)), (.int (6 : Int32)), (.ref b187)])) rfl rfl (hb hby at_159)
        have V203 : Arv Z h203 b187 k187 .char mm ((cs.set 6 (((((XT.ushrL p2 (32 : Int32)) &&& (mk.toInt64)).toInt32).toUInt32.toUInt16.toUInt32.toInt32).toUInt32.toUInt16.toUInt32.toInt32)).map Value.int) (.int (0 : Int32)) := own_setV Ar203 q203 S203 N203_ H203 G203 (fits_nar_char _) W203 (i := 6) rfl (by rw [hcl]; exact (own_lti (i := 6) rfl hm).mp hc142_202)
        have N203 := Fr.snoc X203 Nw138 g_b187
        have K203 : Keep h0 h203 [] := Kw138.wr W203 (Or.inr sz_b187)
        refine own_step (U' := (T203.setTop (mkF m 160 #[.val (.long p1), .second, .val (.long p2), .second, .val (.int p3), .val (.int p4), .val (.int p5), .val (.int mm), .val (.int mk), .val (.ref b187), .unset, .unset, .unset, .unset, .unset, .unset, .unset] []))) (fun t ht => st203 _ ht) ?_
        exact gen160 _ _ _ X203 N203 (by rw [e203]; exact K203) (by rw [e203]; exact V203) (by rw [List.length_set]; exact hcl) (own_chset hch (own_ch2 _))
      ·
        refine own_step (U' := (Tw138.setTop (mkF m 160 #[.val (.long p1), .second, .val (.long p2), .second, .val (.int p3), .val (.int p4), .val (.int p5), .val (.int mm), .val (.int mk), .val (.ref b187), .unset, .unset, .unset, .unset, .unset, .unset, .unset] []))) (fun t ht => XS.icmpYes Xw138.here hx rfl (pc0 := 142) (pc' := 160) rfl (hb hby at_142) rfl (XT.ii_le_t hc142_202) (by decide) (by decide) ht) ?_
        exact gen160 _ _ _ Xw138 Nw138 Kw138 fw1380 hcl hch
    have gen118 : ∀ (cs : List Int32) (Tw118 : State) (Lw118 : List Loc) (Xw118 : Stand p l e room_1 s m #[(.long p1), (.long p2), (.int p3), (.int p4), (.int p5)] below meth c Tw118 Lw118 1 8) (Nw118 : Fr n0 Lw118) (Kw118 : Keep h0 Tw118.heap []) (fw1180 : Arv Z Tw118.heap b187 k187 .char mm (cs.map Value.int) (.int (0 : Int32))) (hcl : cs.length = M) (hch : ∀ c ∈ cs, own_ch c = c), own_Go p e below s 7 57 (own_Q_law Z p1 p2 p3 p4 p5 h0 n0) (Tw118.setTop (mkF m 118 #[.val (.long p1), .second, .val (.long p2), .second, .val (.int p3), .val (.int p4), .val (.int p5), .val (.int mm), .val (.int mk), .val (.ref b187), .unset, .unset, .unset, .unset, .unset, .unset, .unset] [])) := by
      intro cs Tw118 Lw118 Xw118 Nw118 Kw118 fw1180 hcl hch
      refine own_step (U' := (Tw118.setTop (mkF m 120 #[.val (.long p1), .second, .val (.long p2), .second, .val (.int p3), .val (.int p4), .val (.int p5), .val (.int mm), .val (.int mk), .val (.ref b187), .unset, .unset, .unset, .unset, .unset, .unset, .unset] [(.int mm)]))) (fun t ht => XS.iload Xw118.here hx rfl (hb hby at_118) rfl ht) ?_
      refine own_step (U' := (Tw118.setTop (mkF m 121 #[.val (.long p1), .second, .val (.long p2), .second, .val (.int p3), .val (.int p4), .val (.int p5), .val (.int mm), .val (.int mk), .val (.ref b187), .unset, .unset, .unset, .unset, .unset, .unset, .unset] [(.int (5 : Int32)), (.int mm)]))) (fun t ht => XS.iconst Xw118.here hx rfl (hb hby at_120) ht) ?_
      by_cases hc121_204 : (5 : Int32) < mm
      ·
        refine own_step (U' := (Tw118.setTop (mkF m 124 #[.val (.long p1), .second, .val (.long p2), .second, .val (.int p3), .val (.int p4), .val (.int p5), .val (.int mm), .val (.int mk), .val (.ref b187), .unset, .unset, .unset, .unset, .unset, .unset, .unset] []))) (fun t ht => XS.icmpNo Xw118.here hx rfl (hb hby at_121) rfl (XT.ii_le_f hc121_204) ht) ?_
        refine own_step (U' := (Tw118.setTop (mkF m 126 #[.val (.long p1), .second, .val (.long p2), .second, .val (.int p3), .val (.int p4), .val (.int p5), .val (.int mm), .val (.int mk), .val (.ref b187), .unset, .unset, .unset, .unset, .unset, .unset, .unset] [(.ref b187)]))) (fun t ht => XS.aload Xw118.here hx rfl (hb hby at_124) rfl rfl ht) ?_
        refine own_step (U' := (Tw118.setTop (mkF m 127 #[.val (.long p1), .second, .val (.long p2), .second, .val (.int p3), .val (.int p4), .val (.int p5), .val (.int mm), .val (.int mk), .val (.ref b187), .unset, .unset, .unset, .unset, .unset, .unset, .unset] [(.int (5 : Int32)), (.ref b187)]))) (fun t ht => XS.iconst Xw118.here hx rfl (hb hby at_126) ht) ?_
        refine own_step (U' := (Tw118.setTop (mkF m 128 #[.val (.long p1), .second, .val (.long p2), .second, .val (.int p3), .val (.int p4), .val (.int p5), .val (.int mm), .val (.int mk), .val (.ref b187), .unset, .unset, .unset, .unset, .unset, .unset, .unset] [(.long p2), (.int (5 : Int32)), (.ref b187)]))) (fun t ht => XT.lloadN Xw118.here hx rfl (hb hby at_127) rfl ht) ?_
        refine own_step (U' := (Tw118.setTop (mkF m 130 #[.val (.long p1), .second, .val (.long p2), .second, .val (.int p3), .val (.int p4), .val (.int p5), .val (.int mm), .val (.int mk), .val (.ref b187), .unset, .unset, .unset, .unset, .unset, .unset, .unset] [(.int (16 : Int32)), (.long p2), (.int (5 : Int32)), (.ref b187)]))) (fun t ht => XS.bipush Xw118.here hx rfl (hb hby at_128) ht) ?_
        refine own_step (U' := (Tw118.setTop (mkF m 131 #[.val (.long p1), .second, .val (.long p2), .second, .val (.int p3), .val (.int p4), .val (.int p5), .val (.int mm), .val (.int mk), .val (.ref b187), .unset, .unset, .unset, .unset, .unset, .unset, .unset] [(.long (XT.ushrL p2 (16 : Int32))), (.int (5 : Int32)), (.ref b187)]))) (fun t ht => XT.lushr Xw118.here hx rfl (hb hby at_130) rfl ht) ?_
        refine own_step (U' := (Tw118.setTop (mkF m 133 #[.val (.long p1), .second, .val (.long p2), .second, .val (.int p3), .val (.int p4), .val (.int p5), .val (.int mm), .val (.int mk), .val (.ref b187), .unset, .unset, .unset, .unset, .unset, .unset, .unset] [(.int mk), (.long (XT.ushrL p2 (16 : Int32))), (.int (5 : Int32)), (.ref b187)]))) (fun t ht => XS.iload Xw118.here hx rfl (hb hby at_131) rfl ht) ?_
        refine own_step (U' := (Tw118.setTop (mkF m 134 #[.val (.long p1), .second, .val (.long p2), .second, .val (.int p3), .val (.int p4), .val (.int p5), .val (.int mm), .val (.int mk), .val (.ref b187), .unset, .unset, .unset, .unset, .unset, .unset, .unset] [(.long (mk.toInt64)), (.long (XT.ushrL p2 (16 : Int32))), (.int (5 : Int32)), (.ref b187)]))) (fun t ht => XT.i2l Xw118.here hx rfl (hb hby at_133) rfl ht) ?_
        refine own_step (U' := (Tw118.setTop (mkF m 135 #[.val (.long p1), .second, .val (.long p2), .second, .val (.int p3), .val (.int p4), .val (.int p5), .val (.int mm), .val (.int mk), .val (.ref b187), .unset, .unset, .unset, .unset, .unset, .unset, .unset] [(.long ((XT.ushrL p2 (16 : Int32)) &&& (mk.toInt64))), (.int (5 : Int32)), (.ref b187)]))) (fun t ht => XT.land Xw118.here hx rfl (hb hby at_134) rfl ht) ?_
        refine own_step (U' := (Tw118.setTop (mkF m 136 #[.val (.long p1), .second, .val (.long p2), .second, .val (.int p3), .val (.int p4), .val (.int p5), .val (.int mm), .val (.int mk), .val (.ref b187), .unset, .unset, .unset, .unset, .unset, .unset, .unset] [(.int (((XT.ushrL p2 (16 : Int32)) &&& (mk.toInt64)).toInt32)), (.int (5 : Int32)), (.ref b187)]))) (fun t ht => XT.l2i Xw118.here hx rfl (hb hby at_135) rfl ht) ?_
        refine own_step (U' := (Tw118.setTop (mkF m 137 #[.val (.long p1), .second, .val (.long p2), .second, .val (.int p3), .val (.int p4), .val (.int p5), .val (.int mm), .val (.int mk), .val (.ref b187), .unset, .unset, .unset, .unset, .unset, .unset, .unset] [(.int ((((XT.ushrL p2 (16 : Int32)) &&& (mk.toInt64)).toInt32).toUInt32.toUInt16.toUInt32.toInt32)), (.int (5 : Int32)), (.ref b187)]))) (fun t ht => XT.i2c Xw118.here hx rfl (hb hby at_136) rfl ht) ?_
        obtain ⟨cl205, Ar205, q205, S205, N205_, H205, G205⟩ := (id fw1180)
        have hin205 : ¬ ((5 : Int32) < 0 ∨ cl205.slots.size ≤ ((5 : Int32)).toNatClampNeg) := inb_of S205 (own_inN (i := 5) rfl hm ((own_lti (i := 5) rfl hm).mp hc121_204))
        obtain ⟨T205, h205, X205, e205, W205, st205⟩ := stC Xw118 hx hZ rfl Ar205 (j := (5 : Int32)) hin205 (g := (mkF m 137 #[.val (.long p1), .second, .val (.long p2), .second, .val (.int p3), .val (.int p4), .val (.int p5), .val (.int mm), .val (.int mk), .val (.ref b187), .unset, .unset, .unset, .unset, .unset, .unset, .unset] [(.int ((((XT.ushrL p2 (16 : Int32)) &&& (mk.toInt64)).toInt32).toUInt32.toUInt16.toUInt32.toInt32)), (.int (5 : Int32)), (.ref b187)])) rfl rfl (hb hby at_137)
        have V205 : Arv Z h205 b187 k187 .char mm ((cs.set 5 (((((XT.ushrL p2 (16 : Int32)) &&& (mk.toInt64)).toInt32).toUInt32.toUInt16.toUInt32.toInt32).toUInt32.toUInt16.toUInt32.toInt32)).map Value.int) (.int (0 : Int32)) := own_setV Ar205 q205 S205 N205_ H205 G205 (fits_nar_char _) W205 (i := 5) rfl (by rw [hcl]; exact (own_lti (i := 5) rfl hm).mp hc121_204)
        have N205 := Fr.snoc X205 Nw118 g_b187
        have K205 : Keep h0 h205 [] := Kw118.wr W205 (Or.inr sz_b187)
        refine own_step (U' := (T205.setTop (mkF m 138 #[.val (.long p1), .second, .val (.long p2), .second, .val (.int p3), .val (.int p4), .val (.int p5), .val (.int mm), .val (.int mk), .val (.ref b187), .unset, .unset, .unset, .unset, .unset, .unset, .unset] []))) (fun t ht => st205 _ ht) ?_
        exact gen138 _ _ _ X205 N205 (by rw [e205]; exact K205) (by rw [e205]; exact V205) (by rw [List.length_set]; exact hcl) (own_chset hch (own_ch2 _))
      ·
        refine own_step (U' := (Tw118.setTop (mkF m 138 #[.val (.long p1), .second, .val (.long p2), .second, .val (.int p3), .val (.int p4), .val (.int p5), .val (.int mm), .val (.int mk), .val (.ref b187), .unset, .unset, .unset, .unset, .unset, .unset, .unset] []))) (fun t ht => XS.icmpYes Xw118.here hx rfl (pc0 := 121) (pc' := 138) rfl (hb hby at_121) rfl (XT.ii_le_t hc121_204) (by decide) (by decide) ht) ?_
        exact gen138 _ _ _ Xw118 Nw118 Kw118 fw1180 hcl hch
    have gen101 : ∀ (cs : List Int32) (Tw101 : State) (Lw101 : List Loc) (Xw101 : Stand p l e room_1 s m #[(.long p1), (.long p2), (.int p3), (.int p4), (.int p5)] below meth c Tw101 Lw101 1 8) (Nw101 : Fr n0 Lw101) (Kw101 : Keep h0 Tw101.heap []) (fw1010 : Arv Z Tw101.heap b187 k187 .char mm (cs.map Value.int) (.int (0 : Int32))) (hcl : cs.length = M) (hch : ∀ c ∈ cs, own_ch c = c), own_Go p e below s 7 57 (own_Q_law Z p1 p2 p3 p4 p5 h0 n0) (Tw101.setTop (mkF m 101 #[.val (.long p1), .second, .val (.long p2), .second, .val (.int p3), .val (.int p4), .val (.int p5), .val (.int mm), .val (.int mk), .val (.ref b187), .unset, .unset, .unset, .unset, .unset, .unset, .unset] [])) := by
      intro cs Tw101 Lw101 Xw101 Nw101 Kw101 fw1010 hcl hch
      refine own_step (U' := (Tw101.setTop (mkF m 103 #[.val (.long p1), .second, .val (.long p2), .second, .val (.int p3), .val (.int p4), .val (.int p5), .val (.int mm), .val (.int mk), .val (.ref b187), .unset, .unset, .unset, .unset, .unset, .unset, .unset] [(.int mm)]))) (fun t ht => XS.iload Xw101.here hx rfl (hb hby at_101) rfl ht) ?_
      refine own_step (U' := (Tw101.setTop (mkF m 104 #[.val (.long p1), .second, .val (.long p2), .second, .val (.int p3), .val (.int p4), .val (.int p5), .val (.int mm), .val (.int mk), .val (.ref b187), .unset, .unset, .unset, .unset, .unset, .unset, .unset] [(.int (4 : Int32)), (.int mm)]))) (fun t ht => XS.iconst Xw101.here hx rfl (hb hby at_103) ht) ?_
      by_cases hc104_206 : (4 : Int32) < mm
      ·
        refine own_step (U' := (Tw101.setTop (mkF m 107 #[.val (.long p1), .second, .val (.long p2), .second, .val (.int p3), .val (.int p4), .val (.int p5), .val (.int mm), .val (.int mk), .val (.ref b187), .unset, .unset, .unset, .unset, .unset, .unset, .unset] []))) (fun t ht => XS.icmpNo Xw101.here hx rfl (hb hby at_104) rfl (XT.ii_le_f hc104_206) ht) ?_
        refine own_step (U' := (Tw101.setTop (mkF m 109 #[.val (.long p1), .second, .val (.long p2), .second, .val (.int p3), .val (.int p4), .val (.int p5), .val (.int mm), .val (.int mk), .val (.ref b187), .unset, .unset, .unset, .unset, .unset, .unset, .unset] [(.ref b187)]))) (fun t ht => XS.aload Xw101.here hx rfl (hb hby at_107) rfl rfl ht) ?_
        refine own_step (U' := (Tw101.setTop (mkF m 110 #[.val (.long p1), .second, .val (.long p2), .second, .val (.int p3), .val (.int p4), .val (.int p5), .val (.int mm), .val (.int mk), .val (.ref b187), .unset, .unset, .unset, .unset, .unset, .unset, .unset] [(.int (4 : Int32)), (.ref b187)]))) (fun t ht => XS.iconst Xw101.here hx rfl (hb hby at_109) ht) ?_
        refine own_step (U' := (Tw101.setTop (mkF m 111 #[.val (.long p1), .second, .val (.long p2), .second, .val (.int p3), .val (.int p4), .val (.int p5), .val (.int mm), .val (.int mk), .val (.ref b187), .unset, .unset, .unset, .unset, .unset, .unset, .unset] [(.long p2), (.int (4 : Int32)), (.ref b187)]))) (fun t ht => XT.lloadN Xw101.here hx rfl (hb hby at_110) rfl ht) ?_
        refine own_step (U' := (Tw101.setTop (mkF m 113 #[.val (.long p1), .second, .val (.long p2), .second, .val (.int p3), .val (.int p4), .val (.int p5), .val (.int mm), .val (.int mk), .val (.ref b187), .unset, .unset, .unset, .unset, .unset, .unset, .unset] [(.int mk), (.long p2), (.int (4 : Int32)), (.ref b187)]))) (fun t ht => XS.iload Xw101.here hx rfl (hb hby at_111) rfl ht) ?_
        refine own_step (U' := (Tw101.setTop (mkF m 114 #[.val (.long p1), .second, .val (.long p2), .second, .val (.int p3), .val (.int p4), .val (.int p5), .val (.int mm), .val (.int mk), .val (.ref b187), .unset, .unset, .unset, .unset, .unset, .unset, .unset] [(.long (mk.toInt64)), (.long p2), (.int (4 : Int32)), (.ref b187)]))) (fun t ht => XT.i2l Xw101.here hx rfl (hb hby at_113) rfl ht) ?_
        refine own_step (U' := (Tw101.setTop (mkF m 115 #[.val (.long p1), .second, .val (.long p2), .second, .val (.int p3), .val (.int p4), .val (.int p5), .val (.int mm), .val (.int mk), .val (.ref b187), .unset, .unset, .unset, .unset, .unset, .unset, .unset] [(.long (p2 &&& (mk.toInt64))), (.int (4 : Int32)), (.ref b187)]))) (fun t ht => XT.land Xw101.here hx rfl (hb hby at_114) rfl ht) ?_
        refine own_step (U' := (Tw101.setTop (mkF m 116 #[.val (.long p1), .second, .val (.long p2), .second, .val (.int p3), .val (.int p4), .val (.int p5), .val (.int mm), .val (.int mk), .val (.ref b187), .unset, .unset, .unset, .unset, .unset, .unset, .unset] [(.int ((p2 &&& (mk.toInt64)).toInt32)), (.int (4 : Int32)), (.ref b187)]))) (fun t ht => XT.l2i Xw101.here hx rfl (hb hby at_115) rfl ht) ?_
        refine own_step (U' := (Tw101.setTop (mkF m 117 #[.val (.long p1), .second, .val (.long p2), .second, .val (.int p3), .val (.int p4), .val (.int p5), .val (.int mm), .val (.int mk), .val (.ref b187), .unset, .unset, .unset, .unset, .unset, .unset, .unset] [(.int (((p2 &&& (mk.toInt64)).toInt32).toUInt32.toUInt16.toUInt32.toInt32)), (.int (4 : Int32)), (.ref b187)]))) (fun t ht => XT.i2c Xw101.here hx rfl (hb hby at_116) rfl ht) ?_
        obtain ⟨cl207, Ar207, q207, S207, N207_, H207, G207⟩ := (id fw1010)
        have hin207 : ¬ ((4 : Int32) < 0 ∨ cl207.slots.size ≤ ((4 : Int32)).toNatClampNeg) := inb_of S207 (own_inN (i := 4) rfl hm ((own_lti (i := 4) rfl hm).mp hc104_206))
        obtain ⟨T207, h207, X207, e207, W207, st207⟩ := stC Xw101 hx hZ rfl Ar207 (j := (4 : Int32)) hin207 (g := (mkF m 117 #[.val (.long p1), .second, .val (.long p2), .second, .val (.int p3), .val (.int p4), .val (.int p5), .val (.int mm), .val (.int mk), .val (.ref b187), .unset, .unset, .unset, .unset, .unset, .unset, .unset] [(.int (((p2 &&& (mk.toInt64)).toInt32).toUInt32.toUInt16.toUInt32.toInt32)), (.int (4 : Int32)), (.ref b187)])) rfl rfl (hb hby at_117)
        have V207 : Arv Z h207 b187 k187 .char mm ((cs.set 4 ((((p2 &&& (mk.toInt64)).toInt32).toUInt32.toUInt16.toUInt32.toInt32).toUInt32.toUInt16.toUInt32.toInt32)).map Value.int) (.int (0 : Int32)) := own_setV Ar207 q207 S207 N207_ H207 G207 (fits_nar_char _) W207 (i := 4) rfl (by rw [hcl]; exact (own_lti (i := 4) rfl hm).mp hc104_206)
        have N207 := Fr.snoc X207 Nw101 g_b187
        have K207 : Keep h0 h207 [] := Kw101.wr W207 (Or.inr sz_b187)
        refine own_step (U' := (T207.setTop (mkF m 118 #[.val (.long p1), .second, .val (.long p2), .second, .val (.int p3), .val (.int p4), .val (.int p5), .val (.int mm), .val (.int mk), .val (.ref b187), .unset, .unset, .unset, .unset, .unset, .unset, .unset] []))) (fun t ht => st207 _ ht) ?_
        exact gen118 _ _ _ X207 N207 (by rw [e207]; exact K207) (by rw [e207]; exact V207) (by rw [List.length_set]; exact hcl) (own_chset hch (own_ch2 _))
      ·
        refine own_step (U' := (Tw101.setTop (mkF m 118 #[.val (.long p1), .second, .val (.long p2), .second, .val (.int p3), .val (.int p4), .val (.int p5), .val (.int mm), .val (.int mk), .val (.ref b187), .unset, .unset, .unset, .unset, .unset, .unset, .unset] []))) (fun t ht => XS.icmpYes Xw101.here hx rfl (pc0 := 104) (pc' := 118) rfl (hb hby at_104) rfl (XT.ii_le_t hc104_206) (by decide) (by decide) ht) ?_
        exact gen118 _ _ _ Xw101 Nw101 Kw101 fw1010 hcl hch
    have gen81 : ∀ (cs : List Int32) (Tw81 : State) (Lw81 : List Loc) (Xw81 : Stand p l e room_1 s m #[(.long p1), (.long p2), (.int p3), (.int p4), (.int p5)] below meth c Tw81 Lw81 1 8) (Nw81 : Fr n0 Lw81) (Kw81 : Keep h0 Tw81.heap []) (fw810 : Arv Z Tw81.heap b187 k187 .char mm (cs.map Value.int) (.int (0 : Int32))) (hcl : cs.length = M) (hch : ∀ c ∈ cs, own_ch c = c), own_Go p e below s 7 57 (own_Q_law Z p1 p2 p3 p4 p5 h0 n0) (Tw81.setTop (mkF m 81 #[.val (.long p1), .second, .val (.long p2), .second, .val (.int p3), .val (.int p4), .val (.int p5), .val (.int mm), .val (.int mk), .val (.ref b187), .unset, .unset, .unset, .unset, .unset, .unset, .unset] [])) := by
      intro cs Tw81 Lw81 Xw81 Nw81 Kw81 fw810 hcl hch
      refine own_step (U' := (Tw81.setTop (mkF m 83 #[.val (.long p1), .second, .val (.long p2), .second, .val (.int p3), .val (.int p4), .val (.int p5), .val (.int mm), .val (.int mk), .val (.ref b187), .unset, .unset, .unset, .unset, .unset, .unset, .unset] [(.int mm)]))) (fun t ht => XS.iload Xw81.here hx rfl (hb hby at_81) rfl ht) ?_
      refine own_step (U' := (Tw81.setTop (mkF m 84 #[.val (.long p1), .second, .val (.long p2), .second, .val (.int p3), .val (.int p4), .val (.int p5), .val (.int mm), .val (.int mk), .val (.ref b187), .unset, .unset, .unset, .unset, .unset, .unset, .unset] [(.int (3 : Int32)), (.int mm)]))) (fun t ht => XS.iconst Xw81.here hx rfl (hb hby at_83) ht) ?_
      by_cases hc84_208 : (3 : Int32) < mm
      ·
        refine own_step (U' := (Tw81.setTop (mkF m 87 #[.val (.long p1), .second, .val (.long p2), .second, .val (.int p3), .val (.int p4), .val (.int p5), .val (.int mm), .val (.int mk), .val (.ref b187), .unset, .unset, .unset, .unset, .unset, .unset, .unset] []))) (fun t ht => XS.icmpNo Xw81.here hx rfl (hb hby at_84) rfl (XT.ii_le_f hc84_208) ht) ?_
        refine own_step (U' := (Tw81.setTop (mkF m 89 #[.val (.long p1), .second, .val (.long p2), .second, .val (.int p3), .val (.int p4), .val (.int p5), .val (.int mm), .val (.int mk), .val (.ref b187), .unset, .unset, .unset, .unset, .unset, .unset, .unset] [(.ref b187)]))) (fun t ht => XS.aload Xw81.here hx rfl (hb hby at_87) rfl rfl ht) ?_
        refine own_step (U' := (Tw81.setTop (mkF m 90 #[.val (.long p1), .second, .val (.long p2), .second, .val (.int p3), .val (.int p4), .val (.int p5), .val (.int mm), .val (.int mk), .val (.ref b187), .unset, .unset, .unset, .unset, .unset, .unset, .unset] [(.int (3 : Int32)), (.ref b187)]))) (fun t ht => XS.iconst Xw81.here hx rfl (hb hby at_89) ht) ?_
        refine own_step (U' := (Tw81.setTop (mkF m 91 #[.val (.long p1), .second, .val (.long p2), .second, .val (.int p3), .val (.int p4), .val (.int p5), .val (.int mm), .val (.int mk), .val (.ref b187), .unset, .unset, .unset, .unset, .unset, .unset, .unset] [(.long p1), (.int (3 : Int32)), (.ref b187)]))) (fun t ht => XT.lloadN Xw81.here hx rfl (hb hby at_90) rfl ht) ?_
        refine own_step (U' := (Tw81.setTop (mkF m 93 #[.val (.long p1), .second, .val (.long p2), .second, .val (.int p3), .val (.int p4), .val (.int p5), .val (.int mm), .val (.int mk), .val (.ref b187), .unset, .unset, .unset, .unset, .unset, .unset, .unset] [(.int (48 : Int32)), (.long p1), (.int (3 : Int32)), (.ref b187)]))) (fun t ht => XS.bipush Xw81.here hx rfl (hb hby at_91) ht) ?_
        refine own_step (U' := (Tw81.setTop (mkF m 94 #[.val (.long p1), .second, .val (.long p2), .second, .val (.int p3), .val (.int p4), .val (.int p5), .val (.int mm), .val (.int mk), .val (.ref b187), .unset, .unset, .unset, .unset, .unset, .unset, .unset] [(.long (XT.ushrL p1 (48 : Int32))), (.int (3 : Int32)), (.ref b187)]))) (fun t ht => XT.lushr Xw81.here hx rfl (hb hby at_93) rfl ht) ?_
        refine own_step (U' := (Tw81.setTop (mkF m 96 #[.val (.long p1), .second, .val (.long p2), .second, .val (.int p3), .val (.int p4), .val (.int p5), .val (.int mm), .val (.int mk), .val (.ref b187), .unset, .unset, .unset, .unset, .unset, .unset, .unset] [(.int mk), (.long (XT.ushrL p1 (48 : Int32))), (.int (3 : Int32)), (.ref b187)]))) (fun t ht => XS.iload Xw81.here hx rfl (hb hby at_94) rfl ht) ?_
        refine own_step (U' := (Tw81.setTop (mkF m 97 #[.val (.long p1), .second, .val (.long p2), .second, .val (.int p3), .val (.int p4), .val (.int p5), .val (.int mm), .val (.int mk), .val (.ref b187), .unset, .unset, .unset, .unset, .unset, .unset, .unset] [(.long (mk.toInt64)), (.long (XT.ushrL p1 (48 : Int32))), (.int (3 : Int32)), (.ref b187)]))) (fun t ht => XT.i2l Xw81.here hx rfl (hb hby at_96) rfl ht) ?_
        refine own_step (U' := (Tw81.setTop (mkF m 98 #[.val (.long p1), .second, .val (.long p2), .second, .val (.int p3), .val (.int p4), .val (.int p5), .val (.int mm), .val (.int mk), .val (.ref b187), .unset, .unset, .unset, .unset, .unset, .unset, .unset] [(.long ((XT.ushrL p1 (48 : Int32)) &&& (mk.toInt64))), (.int (3 : Int32)), (.ref b187)]))) (fun t ht => XT.land Xw81.here hx rfl (hb hby at_97) rfl ht) ?_
        refine own_step (U' := (Tw81.setTop (mkF m 99 #[.val (.long p1), .second, .val (.long p2), .second, .val (.int p3), .val (.int p4), .val (.int p5), .val (.int mm), .val (.int mk), .val (.ref b187), .unset, .unset, .unset, .unset, .unset, .unset, .unset] [(.int (((XT.ushrL p1 (48 : Int32)) &&& (mk.toInt64)).toInt32)), (.int (3 : Int32)), (.ref b187)]))) (fun t ht => XT.l2i Xw81.here hx rfl (hb hby at_98) rfl ht) ?_
        refine own_step (U' := (Tw81.setTop (mkF m 100 #[.val (.long p1), .second, .val (.long p2), .second, .val (.int p3), .val (.int p4), .val (.int p5), .val (.int mm), .val (.int mk), .val (.ref b187), .unset, .unset, .unset, .unset, .unset, .unset, .unset] [(.int ((((XT.ushrL p1 (48 : Int32)) &&& (mk.toInt64)).toInt32).toUInt32.toUInt16.toUInt32.toInt32)), (.int (3 : Int32)), (.ref b187)]))) (fun t ht => XT.i2c Xw81.here hx rfl (hb hby at_99) rfl ht) ?_
        obtain ⟨cl209, Ar209, q209, S209, N209_, H209, G209⟩ := (id fw810)
        have hin209 : ¬ ((3 : Int32) < 0 ∨ cl209.slots.size ≤ ((3 : Int32)).toNatClampNeg) := inb_of S209 (own_inN (i := 3) rfl hm ((own_lti (i := 3) rfl hm).mp hc84_208))
        obtain ⟨T209, h209, X209, e209, W209, st209⟩ := stC Xw81 hx hZ rfl Ar209 (j := (3 : Int32)) hin209 (g := (mkF m 100 #[.val (.long p1), .second, .val (.long p2), .second, .val (.int p3), .val (.int p4), .val (.int p5), .val (.int mm), .val (.int mk), .val (.ref b187), .unset, .unset, .unset, .unset, .unset, .unset, .unset] [(.int ((((XT.ushrL p1 (48 : Int32)) &&& (mk.toInt64)).toInt32).toUInt32.toUInt16.toUInt32.toInt32)), (.int (3 : Int32)), (.ref b187)])) rfl rfl (hb hby at_100)
        have V209 : Arv Z h209 b187 k187 .char mm ((cs.set 3 (((((XT.ushrL p1 (48 : Int32)) &&& (mk.toInt64)).toInt32).toUInt32.toUInt16.toUInt32.toInt32).toUInt32.toUInt16.toUInt32.toInt32)).map Value.int) (.int (0 : Int32)) := own_setV Ar209 q209 S209 N209_ H209 G209 (fits_nar_char _) W209 (i := 3) rfl (by rw [hcl]; exact (own_lti (i := 3) rfl hm).mp hc84_208)
        have N209 := Fr.snoc X209 Nw81 g_b187
        have K209 : Keep h0 h209 [] := Kw81.wr W209 (Or.inr sz_b187)
        refine own_step (U' := (T209.setTop (mkF m 101 #[.val (.long p1), .second, .val (.long p2), .second, .val (.int p3), .val (.int p4), .val (.int p5), .val (.int mm), .val (.int mk), .val (.ref b187), .unset, .unset, .unset, .unset, .unset, .unset, .unset] []))) (fun t ht => st209 _ ht) ?_
        exact gen101 _ _ _ X209 N209 (by rw [e209]; exact K209) (by rw [e209]; exact V209) (by rw [List.length_set]; exact hcl) (own_chset hch (own_ch2 _))
      ·
        refine own_step (U' := (Tw81.setTop (mkF m 101 #[.val (.long p1), .second, .val (.long p2), .second, .val (.int p3), .val (.int p4), .val (.int p5), .val (.int mm), .val (.int mk), .val (.ref b187), .unset, .unset, .unset, .unset, .unset, .unset, .unset] []))) (fun t ht => XS.icmpYes Xw81.here hx rfl (pc0 := 84) (pc' := 101) rfl (hb hby at_84) rfl (XT.ii_le_t hc84_208) (by decide) (by decide) ht) ?_
        exact gen101 _ _ _ Xw81 Nw81 Kw81 fw810 hcl hch
    have gen61 : ∀ (cs : List Int32) (Tw61 : State) (Lw61 : List Loc) (Xw61 : Stand p l e room_1 s m #[(.long p1), (.long p2), (.int p3), (.int p4), (.int p5)] below meth c Tw61 Lw61 1 8) (Nw61 : Fr n0 Lw61) (Kw61 : Keep h0 Tw61.heap []) (fw610 : Arv Z Tw61.heap b187 k187 .char mm (cs.map Value.int) (.int (0 : Int32))) (hcl : cs.length = M) (hch : ∀ c ∈ cs, own_ch c = c), own_Go p e below s 7 57 (own_Q_law Z p1 p2 p3 p4 p5 h0 n0) (Tw61.setTop (mkF m 61 #[.val (.long p1), .second, .val (.long p2), .second, .val (.int p3), .val (.int p4), .val (.int p5), .val (.int mm), .val (.int mk), .val (.ref b187), .unset, .unset, .unset, .unset, .unset, .unset, .unset] [])) := by
      intro cs Tw61 Lw61 Xw61 Nw61 Kw61 fw610 hcl hch
      refine own_step (U' := (Tw61.setTop (mkF m 63 #[.val (.long p1), .second, .val (.long p2), .second, .val (.int p3), .val (.int p4), .val (.int p5), .val (.int mm), .val (.int mk), .val (.ref b187), .unset, .unset, .unset, .unset, .unset, .unset, .unset] [(.int mm)]))) (fun t ht => XS.iload Xw61.here hx rfl (hb hby at_61) rfl ht) ?_
      refine own_step (U' := (Tw61.setTop (mkF m 64 #[.val (.long p1), .second, .val (.long p2), .second, .val (.int p3), .val (.int p4), .val (.int p5), .val (.int mm), .val (.int mk), .val (.ref b187), .unset, .unset, .unset, .unset, .unset, .unset, .unset] [(.int (2 : Int32)), (.int mm)]))) (fun t ht => XS.iconst Xw61.here hx rfl (hb hby at_63) ht) ?_
      by_cases hc64_210 : (2 : Int32) < mm
      ·
        refine own_step (U' := (Tw61.setTop (mkF m 67 #[.val (.long p1), .second, .val (.long p2), .second, .val (.int p3), .val (.int p4), .val (.int p5), .val (.int mm), .val (.int mk), .val (.ref b187), .unset, .unset, .unset, .unset, .unset, .unset, .unset] []))) (fun t ht => XS.icmpNo Xw61.here hx rfl (hb hby at_64) rfl (XT.ii_le_f hc64_210) ht) ?_
        refine own_step (U' := (Tw61.setTop (mkF m 69 #[.val (.long p1), .second, .val (.long p2), .second, .val (.int p3), .val (.int p4), .val (.int p5), .val (.int mm), .val (.int mk), .val (.ref b187), .unset, .unset, .unset, .unset, .unset, .unset, .unset] [(.ref b187)]))) (fun t ht => XS.aload Xw61.here hx rfl (hb hby at_67) rfl rfl ht) ?_
        refine own_step (U' := (Tw61.setTop (mkF m 70 #[.val (.long p1), .second, .val (.long p2), .second, .val (.int p3), .val (.int p4), .val (.int p5), .val (.int mm), .val (.int mk), .val (.ref b187), .unset, .unset, .unset, .unset, .unset, .unset, .unset] [(.int (2 : Int32)), (.ref b187)]))) (fun t ht => XS.iconst Xw61.here hx rfl (hb hby at_69) ht) ?_
        refine own_step (U' := (Tw61.setTop (mkF m 71 #[.val (.long p1), .second, .val (.long p2), .second, .val (.int p3), .val (.int p4), .val (.int p5), .val (.int mm), .val (.int mk), .val (.ref b187), .unset, .unset, .unset, .unset, .unset, .unset, .unset] [(.long p1), (.int (2 : Int32)), (.ref b187)]))) (fun t ht => XT.lloadN Xw61.here hx rfl (hb hby at_70) rfl ht) ?_
        refine own_step (U' := (Tw61.setTop (mkF m 73 #[.val (.long p1), .second, .val (.long p2), .second, .val (.int p3), .val (.int p4), .val (.int p5), .val (.int mm), .val (.int mk), .val (.ref b187), .unset, .unset, .unset, .unset, .unset, .unset, .unset] [(.int (32 : Int32)), (.long p1), (.int (2 : Int32)), (.ref b187)]))) (fun t ht => XS.bipush Xw61.here hx rfl (hb hby at_71) ht) ?_
        refine own_step (U' := (Tw61.setTop (mkF m 74 #[.val (.long p1), .second, .val (.long p2), .second, .val (.int p3), .val (.int p4), .val (.int p5), .val (.int mm), .val (.int mk), .val (.ref b187), .unset, .unset, .unset, .unset, .unset, .unset, .unset] [(.long (XT.ushrL p1 (32 : Int32))), (.int (2 : Int32)), (.ref b187)]))) (fun t ht => XT.lushr Xw61.here hx rfl (hb hby at_73) rfl ht) ?_
        refine own_step (U' := (Tw61.setTop (mkF m 76 #[.val (.long p1), .second, .val (.long p2), .second, .val (.int p3), .val (.int p4), .val (.int p5), .val (.int mm), .val (.int mk), .val (.ref b187), .unset, .unset, .unset, .unset, .unset, .unset, .unset] [(.int mk), (.long (XT.ushrL p1 (32 : Int32))), (.int (2 : Int32)), (.ref b187)]))) (fun t ht => XS.iload Xw61.here hx rfl (hb hby at_74) rfl ht) ?_
        refine own_step (U' := (Tw61.setTop (mkF m 77 #[.val (.long p1), .second, .val (.long p2), .second, .val (.int p3), .val (.int p4), .val (.int p5), .val (.int mm), .val (.int mk), .val (.ref b187), .unset, .unset, .unset, .unset, .unset, .unset, .unset] [(.long (mk.toInt64)), (.long (XT.ushrL p1 (32 : Int32))), (.int (2 : Int32)), (.ref b187)]))) (fun t ht => XT.i2l Xw61.here hx rfl (hb hby at_76) rfl ht) ?_
        refine own_step (U' := (Tw61.setTop (mkF m 78 #[.val (.long p1), .second, .val (.long p2), .second, .val (.int p3), .val (.int p4), .val (.int p5), .val (.int mm), .val (.int mk), .val (.ref b187), .unset, .unset, .unset, .unset, .unset, .unset, .unset] [(.long ((XT.ushrL p1 (32 : Int32)) &&& (mk.toInt64))), (.int (2 : Int32)), (.ref b187)]))) (fun t ht => XT.land Xw61.here hx rfl (hb hby at_77) rfl ht) ?_
        refine own_step (U' := (Tw61.setTop (mkF m 79 #[.val (.long p1), .second, .val (.long p2), .second, .val (.int p3), .val (.int p4), .val (.int p5), .val (.int mm), .val (.int mk), .val (.ref b187), .unset, .unset, .unset, .unset, .unset, .unset, .unset] [(.int (((XT.ushrL p1 (32 : Int32)) &&& (mk.toInt64)).toInt32)), (.int (2 : Int32)), (.ref b187)]))) (fun t ht => XT.l2i Xw61.here hx rfl (hb hby at_78) rfl ht) ?_
        refine own_step (U' := (Tw61.setTop (mkF m 80 #[.val (.long p1), .second, .val (.long p2), .second, .val (.int p3), .val (.int p4), .val (.int p5), .val (.int mm), .val (.int mk), .val (.ref b187), .unset, .unset, .unset, .unset, .unset, .unset, .unset] [(.int ((((XT.ushrL p1 (32 : Int32)) &&& (mk.toInt64)).toInt32).toUInt32.toUInt16.toUInt32.toInt32)), (.int (2 : Int32)), (.ref b187)]))) (fun t ht => XT.i2c Xw61.here hx rfl (hb hby at_79) rfl ht) ?_
        obtain ⟨cl211, Ar211, q211, S211, N211_, H211, G211⟩ := (id fw610)
        have hin211 : ¬ ((2 : Int32) < 0 ∨ cl211.slots.size ≤ ((2 : Int32)).toNatClampNeg) := inb_of S211 (own_inN (i := 2) rfl hm ((own_lti (i := 2) rfl hm).mp hc64_210))
        obtain ⟨T211, h211, X211, e211, W211, st211⟩ := stC Xw61 hx hZ rfl Ar211 (j := (2 : Int32)) hin211 (g := (mkF m 80 #[.val (.long p1), .second, .val (.long p2), .second, .val (.int p3), .val (.int p4), .val (.int p5), .val (.int mm), .val (.int mk), .val (.ref b187), .unset, .unset, .unset, .unset, .unset, .unset, .unset] [(.int ((((XT.ushrL p1 (32 : Int32)) &&& (mk.toInt64)).toInt32).toUInt32.toUInt16.toUInt32.toInt32)), (.int (2 : Int32)), (.ref b187)])) rfl rfl (hb hby at_80)
        have V211 : Arv Z h211 b187 k187 .char mm ((cs.set 2 (((((XT.ushrL p1 (32 : Int32)) &&& (mk.toInt64)).toInt32).toUInt32.toUInt16.toUInt32.toInt32).toUInt32.toUInt16.toUInt32.toInt32)).map Value.int) (.int (0 : Int32)) := own_setV Ar211 q211 S211 N211_ H211 G211 (fits_nar_char _) W211 (i := 2) rfl (by rw [hcl]; exact (own_lti (i := 2) rfl hm).mp hc64_210)
        have N211 := Fr.snoc X211 Nw61 g_b187
        have K211 : Keep h0 h211 [] := Kw61.wr W211 (Or.inr sz_b187)
        refine own_step (U' := (T211.setTop (mkF m 81 #[.val (.long p1), .second, .val (.long p2), .second, .val (.int p3), .val (.int p4), .val (.int p5), .val (.int mm), .val (.int mk), .val (.ref b187), .unset, .unset, .unset, .unset, .unset, .unset, .unset] []))) (fun t ht => st211 _ ht) ?_
        exact gen81 _ _ _ X211 N211 (by rw [e211]; exact K211) (by rw [e211]; exact V211) (by rw [List.length_set]; exact hcl) (own_chset hch (own_ch2 _))
      ·
        refine own_step (U' := (Tw61.setTop (mkF m 81 #[.val (.long p1), .second, .val (.long p2), .second, .val (.int p3), .val (.int p4), .val (.int p5), .val (.int mm), .val (.int mk), .val (.ref b187), .unset, .unset, .unset, .unset, .unset, .unset, .unset] []))) (fun t ht => XS.icmpYes Xw61.here hx rfl (pc0 := 64) (pc' := 81) rfl (hb hby at_64) rfl (XT.ii_le_t hc64_210) (by decide) (by decide) ht) ?_
        exact gen81 _ _ _ Xw61 Nw61 Kw61 fw610 hcl hch
    have gen41 : ∀ (cs : List Int32) (Tw41 : State) (Lw41 : List Loc) (Xw41 : Stand p l e room_1 s m #[(.long p1), (.long p2), (.int p3), (.int p4), (.int p5)] below meth c Tw41 Lw41 1 8) (Nw41 : Fr n0 Lw41) (Kw41 : Keep h0 Tw41.heap []) (fw410 : Arv Z Tw41.heap b187 k187 .char mm (cs.map Value.int) (.int (0 : Int32))) (hcl : cs.length = M) (hch : ∀ c ∈ cs, own_ch c = c), own_Go p e below s 7 57 (own_Q_law Z p1 p2 p3 p4 p5 h0 n0) (Tw41.setTop (mkF m 41 #[.val (.long p1), .second, .val (.long p2), .second, .val (.int p3), .val (.int p4), .val (.int p5), .val (.int mm), .val (.int mk), .val (.ref b187), .unset, .unset, .unset, .unset, .unset, .unset, .unset] [])) := by
      intro cs Tw41 Lw41 Xw41 Nw41 Kw41 fw410 hcl hch
      refine own_step (U' := (Tw41.setTop (mkF m 43 #[.val (.long p1), .second, .val (.long p2), .second, .val (.int p3), .val (.int p4), .val (.int p5), .val (.int mm), .val (.int mk), .val (.ref b187), .unset, .unset, .unset, .unset, .unset, .unset, .unset] [(.int mm)]))) (fun t ht => XS.iload Xw41.here hx rfl (hb hby at_41) rfl ht) ?_
      refine own_step (U' := (Tw41.setTop (mkF m 44 #[.val (.long p1), .second, .val (.long p2), .second, .val (.int p3), .val (.int p4), .val (.int p5), .val (.int mm), .val (.int mk), .val (.ref b187), .unset, .unset, .unset, .unset, .unset, .unset, .unset] [(.int (1 : Int32)), (.int mm)]))) (fun t ht => XS.iconst Xw41.here hx rfl (hb hby at_43) ht) ?_
      by_cases hc44_212 : (1 : Int32) < mm
      ·
        refine own_step (U' := (Tw41.setTop (mkF m 47 #[.val (.long p1), .second, .val (.long p2), .second, .val (.int p3), .val (.int p4), .val (.int p5), .val (.int mm), .val (.int mk), .val (.ref b187), .unset, .unset, .unset, .unset, .unset, .unset, .unset] []))) (fun t ht => XS.icmpNo Xw41.here hx rfl (hb hby at_44) rfl (XT.ii_le_f hc44_212) ht) ?_
        refine own_step (U' := (Tw41.setTop (mkF m 49 #[.val (.long p1), .second, .val (.long p2), .second, .val (.int p3), .val (.int p4), .val (.int p5), .val (.int mm), .val (.int mk), .val (.ref b187), .unset, .unset, .unset, .unset, .unset, .unset, .unset] [(.ref b187)]))) (fun t ht => XS.aload Xw41.here hx rfl (hb hby at_47) rfl rfl ht) ?_
        refine own_step (U' := (Tw41.setTop (mkF m 50 #[.val (.long p1), .second, .val (.long p2), .second, .val (.int p3), .val (.int p4), .val (.int p5), .val (.int mm), .val (.int mk), .val (.ref b187), .unset, .unset, .unset, .unset, .unset, .unset, .unset] [(.int (1 : Int32)), (.ref b187)]))) (fun t ht => XS.iconst Xw41.here hx rfl (hb hby at_49) ht) ?_
        refine own_step (U' := (Tw41.setTop (mkF m 51 #[.val (.long p1), .second, .val (.long p2), .second, .val (.int p3), .val (.int p4), .val (.int p5), .val (.int mm), .val (.int mk), .val (.ref b187), .unset, .unset, .unset, .unset, .unset, .unset, .unset] [(.long p1), (.int (1 : Int32)), (.ref b187)]))) (fun t ht => XT.lloadN Xw41.here hx rfl (hb hby at_50) rfl ht) ?_
        refine own_step (U' := (Tw41.setTop (mkF m 53 #[.val (.long p1), .second, .val (.long p2), .second, .val (.int p3), .val (.int p4), .val (.int p5), .val (.int mm), .val (.int mk), .val (.ref b187), .unset, .unset, .unset, .unset, .unset, .unset, .unset] [(.int (16 : Int32)), (.long p1), (.int (1 : Int32)), (.ref b187)]))) (fun t ht => XS.bipush Xw41.here hx rfl (hb hby at_51) ht) ?_
        refine own_step (U' := (Tw41.setTop (mkF m 54 #[.val (.long p1), .second, .val (.long p2), .second, .val (.int p3), .val (.int p4), .val (.int p5), .val (.int mm), .val (.int mk), .val (.ref b187), .unset, .unset, .unset, .unset, .unset, .unset, .unset] [(.long (XT.ushrL p1 (16 : Int32))), (.int (1 : Int32)), (.ref b187)]))) (fun t ht => XT.lushr Xw41.here hx rfl (hb hby at_53) rfl ht) ?_
        refine own_step (U' := (Tw41.setTop (mkF m 56 #[.val (.long p1), .second, .val (.long p2), .second, .val (.int p3), .val (.int p4), .val (.int p5), .val (.int mm), .val (.int mk), .val (.ref b187), .unset, .unset, .unset, .unset, .unset, .unset, .unset] [(.int mk), (.long (XT.ushrL p1 (16 : Int32))), (.int (1 : Int32)), (.ref b187)]))) (fun t ht => XS.iload Xw41.here hx rfl (hb hby at_54) rfl ht) ?_
        refine own_step (U' := (Tw41.setTop (mkF m 57 #[.val (.long p1), .second, .val (.long p2), .second, .val (.int p3), .val (.int p4), .val (.int p5), .val (.int mm), .val (.int mk), .val (.ref b187), .unset, .unset, .unset, .unset, .unset, .unset, .unset] [(.long (mk.toInt64)), (.long (XT.ushrL p1 (16 : Int32))), (.int (1 : Int32)), (.ref b187)]))) (fun t ht => XT.i2l Xw41.here hx rfl (hb hby at_56) rfl ht) ?_
        refine own_step (U' := (Tw41.setTop (mkF m 58 #[.val (.long p1), .second, .val (.long p2), .second, .val (.int p3), .val (.int p4), .val (.int p5), .val (.int mm), .val (.int mk), .val (.ref b187), .unset, .unset, .unset, .unset, .unset, .unset, .unset] [(.long ((XT.ushrL p1 (16 : Int32)) &&& (mk.toInt64))), (.int (1 : Int32)), (.ref b187)]))) (fun t ht => XT.land Xw41.here hx rfl (hb hby at_57) rfl ht) ?_
        refine own_step (U' := (Tw41.setTop (mkF m 59 #[.val (.long p1), .second, .val (.long p2), .second, .val (.int p3), .val (.int p4), .val (.int p5), .val (.int mm), .val (.int mk), .val (.ref b187), .unset, .unset, .unset, .unset, .unset, .unset, .unset] [(.int (((XT.ushrL p1 (16 : Int32)) &&& (mk.toInt64)).toInt32)), (.int (1 : Int32)), (.ref b187)]))) (fun t ht => XT.l2i Xw41.here hx rfl (hb hby at_58) rfl ht) ?_
        refine own_step (U' := (Tw41.setTop (mkF m 60 #[.val (.long p1), .second, .val (.long p2), .second, .val (.int p3), .val (.int p4), .val (.int p5), .val (.int mm), .val (.int mk), .val (.ref b187), .unset, .unset, .unset, .unset, .unset, .unset, .unset] [(.int ((((XT.ushrL p1 (16 : Int32)) &&& (mk.toInt64)).toInt32).toUInt32.toUInt16.toUInt32.toInt32)), (.int (1 : Int32)), (.ref b187)]))) (fun t ht => XT.i2c Xw41.here hx rfl (hb hby at_59) rfl ht) ?_
        obtain ⟨cl213, Ar213, q213, S213, N213_, H213, G213⟩ := (id fw410)
        have hin213 : ¬ ((1 : Int32) < 0 ∨ cl213.slots.size ≤ ((1 : Int32)).toNatClampNeg) := inb_of S213 (own_inN (i := 1) rfl hm ((own_lti (i := 1) rfl hm).mp hc44_212))
        obtain ⟨T213, h213, X213, e213, W213, st213⟩ := stC Xw41 hx hZ rfl Ar213 (j := (1 : Int32)) hin213 (g := (mkF m 60 #[.val (.long p1), .second, .val (.long p2), .second, .val (.int p3), .val (.int p4), .val (.int p5), .val (.int mm), .val (.int mk), .val (.ref b187), .unset, .unset, .unset, .unset, .unset, .unset, .unset] [(.int ((((XT.ushrL p1 (16 : Int32)) &&& (mk.toInt64)).toInt32).toUInt32.toUInt16.toUInt32.toInt32)), (.int (1 : Int32)), (.ref b187)])) rfl rfl (hb hby at_60)
        have V213 : Arv Z h213 b187 k187 .char mm ((cs.set 1 (((((XT.ushrL p1 (16 : Int32)) &&& (mk.toInt64)).toInt32).toUInt32.toUInt16.toUInt32.toInt32).toUInt32.toUInt16.toUInt32.toInt32)).map Value.int) (.int (0 : Int32)) := own_setV Ar213 q213 S213 N213_ H213 G213 (fits_nar_char _) W213 (i := 1) rfl (by rw [hcl]; exact (own_lti (i := 1) rfl hm).mp hc44_212)
        have N213 := Fr.snoc X213 Nw41 g_b187
        have K213 : Keep h0 h213 [] := Kw41.wr W213 (Or.inr sz_b187)
        refine own_step (U' := (T213.setTop (mkF m 61 #[.val (.long p1), .second, .val (.long p2), .second, .val (.int p3), .val (.int p4), .val (.int p5), .val (.int mm), .val (.int mk), .val (.ref b187), .unset, .unset, .unset, .unset, .unset, .unset, .unset] []))) (fun t ht => st213 _ ht) ?_
        exact gen61 _ _ _ X213 N213 (by rw [e213]; exact K213) (by rw [e213]; exact V213) (by rw [List.length_set]; exact hcl) (own_chset hch (own_ch2 _))
      ·
        refine own_step (U' := (Tw41.setTop (mkF m 61 #[.val (.long p1), .second, .val (.long p2), .second, .val (.int p3), .val (.int p4), .val (.int p5), .val (.int mm), .val (.int mk), .val (.ref b187), .unset, .unset, .unset, .unset, .unset, .unset, .unset] []))) (fun t ht => XS.icmpYes Xw41.here hx rfl (pc0 := 44) (pc' := 61) rfl (hb hby at_44) rfl (XT.ii_le_t hc44_212) (by decide) (by decide) ht) ?_
        exact gen61 _ _ _ Xw41 Nw41 Kw41 fw410 hcl hch
    refine own_step (U' := (T187.setTop (mkF m 32 #[.val (.long p1), .second, .val (.long p2), .second, .val (.int p3), .val (.int p4), .val (.int p5), .val (.int mm), .val (.int mk), .val (.ref b187), .unset, .unset, .unset, .unset, .unset, .unset, .unset] [(.ref b187)]))) (fun t ht => XS.aload X187.here hx rfl (hb hby at_30) rfl rfl ht) ?_
    refine own_step (U' := (T187.setTop (mkF m 33 #[.val (.long p1), .second, .val (.long p2), .second, .val (.int p3), .val (.int p4), .val (.int p5), .val (.int mm), .val (.int mk), .val (.ref b187), .unset, .unset, .unset, .unset, .unset, .unset, .unset] [(.int (0 : Int32)), (.ref b187)]))) (fun t ht => XS.iconst X187.here hx rfl (hb hby at_32) ht) ?_
    refine own_step (U' := (T187.setTop (mkF m 34 #[.val (.long p1), .second, .val (.long p2), .second, .val (.int p3), .val (.int p4), .val (.int p5), .val (.int mm), .val (.int mk), .val (.ref b187), .unset, .unset, .unset, .unset, .unset, .unset, .unset] [(.long p1), (.int (0 : Int32)), (.ref b187)]))) (fun t ht => XT.lloadN X187.here hx rfl (hb hby at_33) rfl ht) ?_
    refine own_step (U' := (T187.setTop (mkF m 36 #[.val (.long p1), .second, .val (.long p2), .second, .val (.int p3), .val (.int p4), .val (.int p5), .val (.int mm), .val (.int mk), .val (.ref b187), .unset, .unset, .unset, .unset, .unset, .unset, .unset] [(.int mk), (.long p1), (.int (0 : Int32)), (.ref b187)]))) (fun t ht => XS.iload X187.here hx rfl (hb hby at_34) rfl ht) ?_
    refine own_step (U' := (T187.setTop (mkF m 37 #[.val (.long p1), .second, .val (.long p2), .second, .val (.int p3), .val (.int p4), .val (.int p5), .val (.int mm), .val (.int mk), .val (.ref b187), .unset, .unset, .unset, .unset, .unset, .unset, .unset] [(.long (mk.toInt64)), (.long p1), (.int (0 : Int32)), (.ref b187)]))) (fun t ht => XT.i2l X187.here hx rfl (hb hby at_36) rfl ht) ?_
    refine own_step (U' := (T187.setTop (mkF m 38 #[.val (.long p1), .second, .val (.long p2), .second, .val (.int p3), .val (.int p4), .val (.int p5), .val (.int mm), .val (.int mk), .val (.ref b187), .unset, .unset, .unset, .unset, .unset, .unset, .unset] [(.long (p1 &&& (mk.toInt64))), (.int (0 : Int32)), (.ref b187)]))) (fun t ht => XT.land X187.here hx rfl (hb hby at_37) rfl ht) ?_
    refine own_step (U' := (T187.setTop (mkF m 39 #[.val (.long p1), .second, .val (.long p2), .second, .val (.int p3), .val (.int p4), .val (.int p5), .val (.int mm), .val (.int mk), .val (.ref b187), .unset, .unset, .unset, .unset, .unset, .unset, .unset] [(.int ((p1 &&& (mk.toInt64)).toInt32)), (.int (0 : Int32)), (.ref b187)]))) (fun t ht => XT.l2i X187.here hx rfl (hb hby at_38) rfl ht) ?_
    refine own_step (U' := (T187.setTop (mkF m 40 #[.val (.long p1), .second, .val (.long p2), .second, .val (.int p3), .val (.int p4), .val (.int p5), .val (.int mm), .val (.int mk), .val (.ref b187), .unset, .unset, .unset, .unset, .unset, .unset, .unset] [(.int (((p1 &&& (mk.toInt64)).toInt32).toUInt32.toUInt16.toUInt32.toInt32)), (.int (0 : Int32)), (.ref b187)]))) (fun t ht => XT.i2c X187.here hx rfl (hb hby at_39) rfl ht) ?_
    obtain ⟨cl214, Ar214, q214, S214, N214_, H214, G214⟩ := (id V187)
    have hin214 : ¬ ((0 : Int32) < 0 ∨ cl214.slots.size ≤ ((0 : Int32)).toNatClampNeg) := inb_of S214 (own_inN (i := 0) rfl hm (by omega))
    obtain ⟨T214, h214, X214, e214, W214, st214⟩ := stC X187 hx hZ e187 Ar214 (j := (0 : Int32)) hin214 (g := (mkF m 40 #[.val (.long p1), .second, .val (.long p2), .second, .val (.int p3), .val (.int p4), .val (.int p5), .val (.int mm), .val (.int mk), .val (.ref b187), .unset, .unset, .unset, .unset, .unset, .unset, .unset] [(.int (((p1 &&& (mk.toInt64)).toInt32).toUInt32.toUInt16.toUInt32.toInt32)), (.int (0 : Int32)), (.ref b187)])) rfl rfl (hb hby at_40)
    have V214 : Arv Z h214 b187 k187 .char mm (((List.replicate M (0 : Int32)).set 0 ((((p1 &&& (mk.toInt64)).toInt32).toUInt32.toUInt16.toUInt32.toInt32).toUInt32.toUInt16.toUInt32.toInt32)).map Value.int) (.int (0 : Int32)) := own_setV Ar214 q214 S214 N214_ H214 G214 (fits_nar_char _) W214 (i := 0) rfl (by rw [List.length_replicate]; omega)
    have N214 := Fr.snoc X214 N0 g_b187
    have K214 : Keep h0 h214 [] := K187.wr W214 (Or.inr sz_b187)
    refine own_step (U' := (T214.setTop (mkF m 41 #[.val (.long p1), .second, .val (.long p2), .second, .val (.int p3), .val (.int p4), .val (.int p5), .val (.int mm), .val (.int mk), .val (.ref b187), .unset, .unset, .unset, .unset, .unset, .unset, .unset] []))) (fun t ht => st214 _ ht) ?_
    exact gen41 _ _ _ X214 N214 (by rw [e214]; exact K214) (by rw [e214]; exact V214) (by rw [List.length_set, List.length_replicate]) (own_chset own_chrep (own_ch2 _))
  refine own_step (U' := (s₁.setTop (mkF m 11 #[.val (.long p1), .second, .val (.long p2), .second, .val (.int p3), .val (.int p4), .val (.int p5), .val (.int mm), .unset, .unset, .unset, .unset, .unset, .unset, .unset, .unset, .unset] [(.int p4)]))) (fun t ht => XS.iload X0.here hx rfl (hb hby at_9) rfl ht) ?_
  refine own_step (U' := (s₁.setTop (mkF m 12 #[.val (.long p1), .second, .val (.long p2), .second, .val (.int p3), .val (.int p4), .val (.int p5), .val (.int mm), .unset, .unset, .unset, .unset, .unset, .unset, .unset, .unset, .unset] [(.int (1 : Int32)), (.int p4)]))) (fun t ht => XS.iconst X0.here hx rfl (hb hby at_11) ht) ?_
  refine own_step (U' := (s₁.setTop (mkF m 13 #[.val (.long p1), .second, .val (.long p2), .second, .val (.int p3), .val (.int p4), .val (.int p5), .val (.int mm), .unset, .unset, .unset, .unset, .unset, .unset, .unset, .unset, .unset] [(.int (p4 &&& (1 : Int32)))]))) (fun t ht => XS.iand X0.here hx rfl (hb hby at_12) rfl ht) ?_
  by_cases hc13_215 : (p4 &&& (1 : Int32)) = 0
  ·
    refine own_step (U' := (s₁.setTop (mkF m 20 #[.val (.long p1), .second, .val (.long p2), .second, .val (.int p3), .val (.int p4), .val (.int p5), .val (.int mm), .unset, .unset, .unset, .unset, .unset, .unset, .unset, .unset, .unset] []))) (fun t ht => XS.ifYes X0.here hx rfl (pc0 := 13) (pc' := 20) rfl (hb hby at_13) rfl (XT.i0_eq_t hc13_215) (by decide) (by decide) ht) ?_
    refine own_step (U' := (s₁.setTop (mkF m 22 #[.val (.long p1), .second, .val (.long p2), .second, .val (.int p3), .val (.int p4), .val (.int p5), .val (.int mm), .unset, .unset, .unset, .unset, .unset, .unset, .unset, .unset, .unset] [(.int (65535 : Int32))]))) (fun t ht => X0.ldcInt hx hown (mvT hZ (hw _ (List.mem_of_getElem? (i := 125) rfl))) (g := (mkF m 20 #[.val (.long p1), .second, .val (.long p2), .second, .val (.int p3), .val (.int p4), .val (.int p5), .val (.int mm), .unset, .unset, .unset, .unset, .unset, .unset, .unset, .unset, .unset] [])) rfl (hb hby at_20) _ ht) ?_
    exact tail22 ((65535 : Int32)) 
  ·
    refine own_step (U' := (s₁.setTop (mkF m 16 #[.val (.long p1), .second, .val (.long p2), .second, .val (.int p3), .val (.int p4), .val (.int p5), .val (.int mm), .unset, .unset, .unset, .unset, .unset, .unset, .unset, .unset, .unset] []))) (fun t ht => XS.ifNo X0.here hx rfl (hb hby at_13) rfl (XT.i0_eq_f hc13_215) ht) ?_
    refine own_step (U' := (s₁.setTop (mkF m 17 #[.val (.long p1), .second, .val (.long p2), .second, .val (.int p3), .val (.int p4), .val (.int p5), .val (.int mm), .unset, .unset, .unset, .unset, .unset, .unset, .unset, .unset, .unset] [(.int (3 : Int32))]))) (fun t ht => XS.iconst X0.here hx rfl (hb hby at_16) ht) ?_
    refine own_step (U' := (s₁.setTop (mkF m 22 #[.val (.long p1), .second, .val (.long p2), .second, .val (.int p3), .val (.int p4), .val (.int p5), .val (.int mm), .unset, .unset, .unset, .unset, .unset, .unset, .unset, .unset, .unset] [(.int (3 : Int32))]))) (fun t ht => XS.goto X0.here hx rfl (pc0 := 17) (pc' := 22) rfl (hb hby at_17) (by decide) (by decide) ht) ?_
    exact tail22 ((3 : Int32)) 
set_option maxRecDepth 65536 in
set_option maxHeartbeats 40000000 in
theorem own_comes {Post : Tables → Env → Array Value → State → Outcome → State → Prop} (hpost : ∀ tb e args s v u, (limb_1_1.after args s (.returned v) u = true ∧ limb_1_2.after args s (.returned v) u = true ∧ True) → FrameEnd s (.returned v) u (Jvm.fieldLocs frame_1_writes args s ++ Jvm.arrayLocs frame_1_arrays args s ++ Jvm.staticLocs frame_1_statics s) 24 192 → Post tb e args s (.returned v) u) :
    ArmFor flags0 classFile x code maxLocals ret World_1 tables_1 room_1 Calls_1 rest_1 Pre_1 Post := by
  intro l hfl _ _ p e ha hc hk s m args below hf hA hF happ hP
  obtain ⟨hcalls, hrest, hpre⟩ := hP
  obtain ⟨-, -, -, hnamed, -, -, -, hat⟩ := (Spec.applies_iff hf).mp happ
  obtain ⟨hg, hn⟩ := and_e (Cond.before_iff.mp (show (Jvm.Cond.and given_1 narrow_1).before args s = true from hpre))
  obtain ⟨hcount, q0⟩ := and_e hg
  obtain ⟨a0, q1⟩ := and_e q0
  obtain ⟨a1, q2⟩ := and_e q1
  obtain ⟨a2, q3⟩ := and_e q2
  obtain ⟨a3, q4⟩ := and_e q3
  have a4 := q4
  obtain ⟨w0, w1, w2, w3, w4, rfl⟩ : ∃ w0 w1 w2 w3 w4 : Value, args = #[w0, w1, w2, w3, w4] := by
    have hs : args.size = 5 := by simpa [Cond.value, given_1] using hcount
    obtain ⟨L⟩ := args
    match L, hs with
    | [w0, w1, w2, w3, w4], _ => exact ⟨w0, w1, w2, w3, w4, rfl⟩
  obtain ⟨i0, e0⟩ := isL_v a0
  obtain rfl : w0 = (.long i0) := Option.some.inj e0
  obtain ⟨i1, e1⟩ := isL_v a1
  obtain rfl : w1 = (.long i1) := Option.some.inj e1
  obtain ⟨i2, e2⟩ := is_v a2
  obtain rfl : w2 = (.int i2) := Option.some.inj e2
  obtain ⟨i3, e3⟩ := is_v a3
  obtain rfl : w3 = (.int i3) := Option.some.inj e3
  obtain ⟨i4, e4⟩ := is_v a4
  obtain rfl : w4 = (.int i4) := Option.some.inj e4
  have hw := fun d (hd : d ∈ tables_1) => atoms_spec (ws := Jvm.Cond.code x code maxLocals ret :: tables_1) hat d (List.mem_cons_of_mem _ hd)
  have hfit : Fit s := fun {y c} hc i hi => by
    obtain ⟨ha, rfl⟩ := Array.getElem?_eq_some_iff.mp hc
    have q := List.all_eq_true.mp ((Array.all_eq_true_iff_forall_mem.mp hF) _ (Array.getElem_mem ha)) i (List.mem_range.mpr hi)
    simpa [Array.getElem?_eq_getElem hi] using q

  obtain ⟨n, o, h1, h2, h3, _, L, rfl, ⟨rfl, N⟩, hq⟩ := own_m_law l s _ hw tables_1 i0 i1 i2 i3 i4  s.heap s.heap.size (Nat.le_refl _)  p e ha hc hk s m _ below hf ((Spec.applies_iff_loose hf).mp happ).1 ⟨rfl, State.Warmed39.refl s, rfl, State.WarmedH.refl s⟩ trivial
  refine ⟨n, _, h1, h2, h3, hpost _ _ _ _ _ _ ⟨Cond.after_iff.mpr rfl, Cond.after_iff.mpr (eq_i res_at (Term.int_eval (1)) rfl), trivial⟩ ⟨hq.1, hq.2.1, (hq.2.2.sift fun y hy => Or.inr (N y hy)).mono (by decide) (by decide)⟩⟩
theorem main_1_1 : Claimed_1_1 := own_comes fun _ _ _ _ _ _ h hF => ⟨h.1, Jvm.LamKit.wideOf hF⟩
theorem main_1_2 : Claimed_1_2 := own_comes fun _ _ _ _ _ _ h hF => ⟨h.2.1, Jvm.LamKit.wideOf hF⟩
end Jvm.Pilot.@@N@@
namespace Jvm.Pilot.@@N@@
open Jvm Jvm.ClassFile Sem Op Lib Jvm.Free Jvm.Stand Jvm.Pilot.@@N@@.Jvm.D
/-! MADE BY PROGRAM (witnessworld.py) out of the Statement's table words and the real class files: 20 classes; the members and pool entries that the words name. The judged class is class 1, her method 1. -/
namespace start1
open Jvm.ClassFile
def u (s : String) : CpInfo := .utf8 (stringToUtf16 s)
/-- a pool by its gaps: so many unusable entries, then the entry; so many at the end -/
def gap : Nat → List CpInfo → List CpInfo
  | 0, r => r
  | n + 1, r => .unusable :: gap n r
def poolList (es : List (Nat × CpInfo)) (last : Nat) : List CpInfo := es.foldr (fun e r => gap e.1 (e.2 :: r)) (gap last [])
def pool (es : List (Nat × CpInfo)) (last : Nat) : Array CpInfo := ⟨poolList es last⟩
def fileOf (pool : Array CpInfo) (this : Nat) (attrs : Array Attribute := #[]) (ms : Array MethodInfo := #[]) (fl : Nat := 33) (sup : Nat := 0) (ifs : Array Nat := #[]) (fds : Array FieldInfo := #[]) : ClassFile where
  minorVersion := 0
  majorVersion := 65
  constantPool := pool
  accessFlags := fl
  thisClass := this
  superClass := sup
  interfaces := ifs
  fields := fds
  methods := ms
  attributes := attrs
def plain (name : String) (sup : Option ClassId) : Class where
  name := name
  kind := .ordinary
  loader := none
  accessFlags := 33
  super := sup
  interfaces := #[]
  cf := none
  fields := #[]
  methods := #[]
  instanceTypes := #[]
  staticTypes := #[]
  resolved := #[]
  callSites := []
  init := .initialized
  statics := none
  mirror := none

def pool0 : Array CpInfo := pool [(5, u "<init>"), (0, u "()V"), (1, .class_ 10), (1, u "java/lang/Object")] 113

def k0c0 : Code := { maxStack := 0, maxLocals := 1, code := object_method_1_code, exceptionTable := #[], attributes := #[] }
def k0m0 : Method := { name := "<init>", desc := "()V", sig := { parameters := [], returnType := none }, accessFlags := 1, code := some k0c0 }
/-- java/lang/Object -/
def k0 : Class := { plain "java/lang/Object" none with
  accessFlags := 33
  interfaces := #[]
  cf := some (fileOf pool0 8 #[] #[{ accessFlags := 1, nameIndex := 5, descriptorIndex := 6, attributes := #[] }] 33 0 #[] #[])
  fields := #[]
  methods := #[k0m0]
  instanceTypes := #[]
  staticTypes := #[]
  resolved := Array.replicate 124 none
  statics := none }

def pool1 : Array CpInfo := pool [(2, .class_ 4), (1, u "java/lang/Object"), (0, u "<init>"), (0, u "()V"), (0, .integer 65535), (0, .methodref 9 10), (0, .class_ 11), (0, .nameAndType 12 13), (0, u "com/example/skip2/skip2/boyermoore/BoyerMooreSearcherPeriodPinLaw"), (0, u "smallestPeriod"), (0, u "([CI)I"), (0, .class_ 15), (0, u "com/example/skip2/skip2/boyermoore/BoyerMooreSearcher"), (0, .methodref 14 17), (0, .nameAndType 5 18), (0, u "([C)V"), (0, .methodref 14 20), (0, .nameAndType 21 22), (0, u "period"), (0, u "()I"), (0, .integer 2147483647), (0, .methodref 14 25), (0, .nameAndType 26 27), (0, u "step"), (0, u "(IIIC)I"), (0, .methodref 9 29), (0, .nameAndType 30 31), (0, u "agree"), (0, u "([CIII)Z"), (0, .methodref 9 33), (0, .nameAndType 34 35), (0, u "isPeriod"), (0, u "([CII)Z"), (2, u "law"), (0, u "(JJIII)Z")] 5

def k1m0 : Method := { name := "<init>", desc := "()V", sig := { parameters := [], returnType := none }, accessFlags := 1, code := none }
def k1c1 : Code := { maxStack := 6, maxLocals := 17, code := code, exceptionTable := #[], attributes := #[] }
def k1m1 : Method := { name := "law", desc := "(JJIII)Z", sig := { parameters := [.long, .long, .int, .int, .int], returnType := some .boolean }, accessFlags := 9, code := some k1c1 }
def k1c2 : Code := { maxStack := 4, maxLocals := 4, code := method_3_code, exceptionTable := #[], attributes := #[] }
def k1m2 : Method := { name := "agree", desc := "([CIII)Z", sig := { parameters := [(.array .char), .int, .int, .int], returnType := some .boolean }, accessFlags := 10, code := some k1c2 }
def k1c3 : Code := { maxStack := 4, maxLocals := 3, code := method_4_code, exceptionTable := #[], attributes := #[] }
def k1m3 : Method := { name := "isPeriod", desc := "([CII)Z", sig := { parameters := [(.array .char), .int, .int], returnType := some .boolean }, accessFlags := 10, code := some k1c3 }
def k1c4 : Code := { maxStack := 3, maxLocals := 2, code := method_5_code, exceptionTable := #[], attributes := #[] }
def k1m4 : Method := { name := "smallestPeriod", desc := "([CI)I", sig := { parameters := [(.array .char), .int], returnType := some .int }, accessFlags := 10, code := some k1c4 }
/-- com/example/skip2/skip2/boyermoore/BoyerMooreSearcherPeriodPinLaw -/
def k1 : Class := { plain "com/example/skip2/skip2/boyermoore/BoyerMooreSearcherPeriodPinLaw" (some 0) with
  accessFlags := 49
  interfaces := #[]
  cf := some (fileOf pool1 9 #[] #[{ accessFlags := 1, nameIndex := 5, descriptorIndex := 6, attributes := #[] }, { accessFlags := 9, nameIndex := 38, descriptorIndex := 39, attributes := #[] }, { accessFlags := 10, nameIndex := 30, descriptorIndex := 31, attributes := #[] }, { accessFlags := 10, nameIndex := 34, descriptorIndex := 35, attributes := #[] }, { accessFlags := 10, nameIndex := 12, descriptorIndex := 13, attributes := #[] }] 49 2 #[] #[])
  fields := #[]
  methods := #[k1m0, k1m1, k1m2, k1m3, k1m4]
  instanceTypes := #[]
  staticTypes := #[]
  resolved := Array.replicate 45 none
  statics := none }

def pool2 : Array CpInfo := pool [(2, .class_ 4), (1, u "com/example/skip2/skip2/charsearch/Searcher"), (33, .class_ 39), (0, u "java/lang/Object")] 8

/-- com/example/skip2/skip2/charsearch/Searcher -/
def k2 : Class := { plain "com/example/skip2/skip2/charsearch/Searcher" (some 0) with
  accessFlags := 1537
  interfaces := #[]
  cf := some (fileOf pool2 2 #[] #[] 1537 38 #[] #[])
  fields := #[]
  methods := #[]
  instanceTypes := #[]
  staticTypes := #[]
  resolved := Array.replicate 48 none
  statics := none }

def pool3 : Array CpInfo := pool [(1, .methodref 2 3), (0, .class_ 4), (0, .nameAndType 5 6), (0, u "java/lang/Object"), (0, u "<init>"), (0, u "()V"), (0, .fieldref 8 9), (0, .class_ 10), (0, .nameAndType 11 12), (0, u "com/example/skip2/skip2/windowsearch/WindowSearcher"), (0, u "length"), (0, u "I"), (61, u "(I)V"), (47, .class_ 123), (0, u "com/example/skip2/skip2/charsearch/Searcher")] 19

def k3c0 : Code := { maxStack := 2, maxLocals := 2, code := prog_43_method_1_code, exceptionTable := #[], attributes := #[] }
def k3m0 : Method := { name := "<init>", desc := "(I)V", sig := { parameters := [.int], returnType := none }, accessFlags := 4, code := some k3c0 }
/-- com/example/skip2/skip2/windowsearch/WindowSearcher -/
def k3 : Class := { plain "com/example/skip2/skip2/windowsearch/WindowSearcher" (some 0) with
  accessFlags := 1057
  interfaces := #[2]
  cf := some (fileOf pool3 8 #[] #[{ accessFlags := 4, nameIndex := 5, descriptorIndex := 74, attributes := #[] }] 1057 2 #[122] #[{ accessFlags := 18, nameIndex := 11, descriptorIndex := 12, attributes := #[] }])
  fields := #[{ name := "length", type := .int, accessFlags := 18, slot := 0, constantValue := 0 }]
  methods := #[k3m0]
  instanceTypes := #[.int]
  staticTypes := #[]
  resolved := Array.replicate 143 none
  statics := none }

def pool4 : Array CpInfo := pool [(1, .class_ 2), (0, u "com/example/skip2/skip2/windowsearch/FlagSearch"), (0, .class_ 4), (0, u "com/example/skip2/skip2/windowsearch/SkipSearcher"), (0, .methodref 6 7), (0, .class_ 8), (0, .nameAndType 9 10), (0, u "com/example/skip2/skip2/windowsearch/WindowSearcher"), (0, u "<init>"), (0, u "(I)V"), (0, .fieldref 3 12), (0, .nameAndType 13 14), (0, u "pattern"), (0, u "[C"), (0, .fieldref 3 16), (0, .nameAndType 17 18), (0, u "length"), (0, u "I"), (0, .methodref 1 20), (0, .nameAndType 9 21), (0, u "([C)V"), (0, .fieldref 3 23), (0, .nameAndType 24 25), (0, u "flagSearch"), (0, u "Lcom/example/skip2/skip2/windowsearch/FlagSearch;"), (0, .fieldref 3 27), (0, .nameAndType 28 29), (0, u "byPairs"), (0, u "Z"), (2, u "tables"), (9, u "lastShift"), (13, u "stepping"), (12, u "Ljava/lang/ref/WeakReference;"), (25, u "Lcom/example/skip2/skip2/windowsearch/SkipTables;"), (5, u "searched"), (0, u "J"), (95, u "flaggedFirst"), (14, u "LANES"), (2, u "STRETCH"), (1, u "MOST_STRETCH"), (0, u "FIRST_REACH"), (1, u "WHOLE_AFTER"), (1, u "STOPPED"), (1, u "BEFORE_FLAGS"), (1, u "FLAGGED_FIRST"), (1, u "FLAGGED_PER_UNIT"), (1, u "FLAGGED_UNITS_WEIGHED"), (1, u "STORAGE_ASKED"), (3, u "([CZ)V")] 13

def k4c0 : Code := { maxStack := 4, maxLocals := 3, code := prog_39_method_1_code, exceptionTable := #[], attributes := #[] }
def k4m0 : Method := { name := "<init>", desc := "([CZ)V", sig := { parameters := [(.array .char), .boolean], returnType := none }, accessFlags := 4, code := some k4c0 }
/-- com/example/skip2/skip2/windowsearch/SkipSearcher -/
def k4 : Class := { plain "com/example/skip2/skip2/windowsearch/SkipSearcher" (some 3) with
  accessFlags := 1057
  interfaces := #[]
  cf := some (fileOf pool4 3 #[] #[{ accessFlags := 4, nameIndex := 9, descriptorIndex := 237, attributes := #[] }] 1057 6 #[] #[{ accessFlags := 26, nameIndex := 213, descriptorIndex := 18, attributes := #[] }, { accessFlags := 26, nameIndex := 216, descriptorIndex := 18, attributes := #[] }, { accessFlags := 26, nameIndex := 218, descriptorIndex := 18, attributes := #[] }, { accessFlags := 24, nameIndex := 219, descriptorIndex := 18, attributes := #[] }, { accessFlags := 24, nameIndex := 221, descriptorIndex := 18, attributes := #[] }, { accessFlags := 26, nameIndex := 223, descriptorIndex := 18, attributes := #[] }, { accessFlags := 24, nameIndex := 225, descriptorIndex := 18, attributes := #[] }, { accessFlags := 24, nameIndex := 227, descriptorIndex := 18, attributes := #[] }, { accessFlags := 24, nameIndex := 229, descriptorIndex := 18, attributes := #[] }, { accessFlags := 26, nameIndex := 231, descriptorIndex := 18, attributes := #[] }, { accessFlags := 26, nameIndex := 233, descriptorIndex := 18, attributes := #[] }, { accessFlags := 16, nameIndex := 13, descriptorIndex := 14, attributes := #[] }, { accessFlags := 16, nameIndex := 17, descriptorIndex := 18, attributes := #[] }, { accessFlags := 16, nameIndex := 24, descriptorIndex := 25, attributes := #[] }, { accessFlags := 18, nameIndex := 28, descriptorIndex := 29, attributes := #[] }, { accessFlags := 0, nameIndex := 32, descriptorIndex := 95, attributes := #[] }, { accessFlags := 2, nameIndex := 101, descriptorIndex := 102, attributes := #[] }, { accessFlags := 2, nameIndex := 198, descriptorIndex := 18, attributes := #[] }, { accessFlags := 2, nameIndex := 42, descriptorIndex := 18, attributes := #[] }, { accessFlags := 2, nameIndex := 56, descriptorIndex := 69, attributes := #[] }])
  fields := #[{ name := "LANES", type := .int, accessFlags := 26, slot := 0, constantValue := 0 }, { name := "STRETCH", type := .int, accessFlags := 26, slot := 1, constantValue := 0 }, { name := "MOST_STRETCH", type := .int, accessFlags := 26, slot := 2, constantValue := 0 }, { name := "FIRST_REACH", type := .int, accessFlags := 24, slot := 3, constantValue := 0 }, { name := "WHOLE_AFTER", type := .int, accessFlags := 24, slot := 4, constantValue := 0 }, { name := "STOPPED", type := .int, accessFlags := 26, slot := 5, constantValue := 0 }, { name := "BEFORE_FLAGS", type := .int, accessFlags := 24, slot := 6, constantValue := 0 }, { name := "FLAGGED_FIRST", type := .int, accessFlags := 24, slot := 7, constantValue := 0 }, { name := "FLAGGED_PER_UNIT", type := .int, accessFlags := 24, slot := 8, constantValue := 0 }, { name := "FLAGGED_UNITS_WEIGHED", type := .int, accessFlags := 26, slot := 9, constantValue := 0 }, { name := "STORAGE_ASKED", type := .int, accessFlags := 26, slot := 10, constantValue := 0 }, { name := "pattern", type := (.array .char), accessFlags := 16, slot := 1, constantValue := 0 }, { name := "length", type := .int, accessFlags := 16, slot := 2, constantValue := 0 }, { name := "flagSearch", type := (.object "com/example/skip2/skip2/windowsearch/FlagSearch"), accessFlags := 16, slot := 3, constantValue := 0 }, { name := "byPairs", type := .boolean, accessFlags := 18, slot := 4, constantValue := 0 }, { name := "tables", type := (.object "com/example/skip2/skip2/windowsearch/SkipTables"), accessFlags := 0, slot := 5, constantValue := 0 }, { name := "searched", type := .long, accessFlags := 2, slot := 6, constantValue := 0 }, { name := "flaggedFirst", type := .int, accessFlags := 2, slot := 7, constantValue := 0 }, { name := "lastShift", type := .int, accessFlags := 2, slot := 8, constantValue := 0 }, { name := "stepping", type := (.object "java/lang/ref/WeakReference"), accessFlags := 2, slot := 9, constantValue := 0 }]
  methods := #[k4m0]
  instanceTypes := #[.int, (.array .char), .int, (.object "com/example/skip2/skip2/windowsearch/FlagSearch"), .boolean, (.object "com/example/skip2/skip2/windowsearch/SkipTables"), .long, .int, .int, (.object "java/lang/ref/WeakReference")]
  staticTypes := #[.int, .int, .int, .int, .int, .int, .int, .int, .int, .int, .int]
  resolved := Array.replicate 251 none
  statics := none }

def pool5 : Array CpInfo := pool [(1, .methodref 2 3), (0, .class_ 4), (0, .nameAndType 5 6), (0, u "com/example/skip2/skip2/windowsearch/SkipSearcher"), (0, u "<init>"), (0, u "([CZ)V"), (0, .fieldref 8 9), (0, .class_ 10), (0, .nameAndType 11 12), (0, u "com/example/skip2/skip2/boyermoore/BoyerMooreSearcher"), (0, u "pattern"), (0, u "[C"), (0, .long 2), (3, .long 2147483647), (1, .methodref 20 21), (0, .class_ 22), (0, .nameAndType 23 24), (0, u "java/lang/Math"), (0, u "min"), (0, u "(JJ)J"), (0, .fieldref 8 26), (0, .nameAndType 27 28), (0, u "budget"), (0, u "I"), (6, .fieldref 8 36), (0, .nameAndType 37 38), (0, u "goodSuffixShift"), (0, u "[I"), (0, .methodref 8 40), (0, .nameAndType 41 42), (0, u "table"), (0, u "(I)[I"), (7, u "()I"), (0, .methodref 20 52), (0, .nameAndType 53 54), (0, u "max"), (0, u "(II)I"), (0, .fieldref 8 56), (0, .nameAndType 57 28), (0, u "spent"), (0, .long 8), (1, .methodref 61 62), (0, .class_ 63), (0, .nameAndType 64 65), (0, u "com/example/skip2/skip2/boyermoore/GoodSuffixShift"), (0, u "of"), (0, u "([C)[I"), (0, u "WINDOW"), (2, u "([C)V"), (4, u "period"), (2, u "step"), (0, u "(IIIC)I")] 2

def k5c0 : Code := { maxStack := 5, maxLocals := 2, code := prog_5_method_1_code, exceptionTable := #[], attributes := #[] }
def k5m0 : Method := { name := "<init>", desc := "([C)V", sig := { parameters := [(.array .char)], returnType := none }, accessFlags := 1, code := some k5c0 }
def k5c1 : Code := { maxStack := 2, maxLocals := 2, code := prog_5_method_3_code, exceptionTable := #[], attributes := #[] }
def k5m1 : Method := { name := "period", desc := "()I", sig := { parameters := [], returnType := some .int }, accessFlags := 4, code := some k5c1 }
def k5c2 : Code := { maxStack := 3, maxLocals := 8, code := prog_5_method_4_code, exceptionTable := #[], attributes := #[] }
def k5m2 : Method := { name := "step", desc := "(IIIC)I", sig := { parameters := [.int, .int, .int, .char], returnType := some .int }, accessFlags := 4, code := some k5c2 }
def k5c3 : Code := { maxStack := 5, maxLocals := 3, code := prog_5_method_5_code, exceptionTable := #[], attributes := #[] }
def k5m3 : Method := { name := "table", desc := "(I)[I", sig := { parameters := [.int], returnType := some (.array .int) }, accessFlags := 2, code := some k5c3 }
/-- com/example/skip2/skip2/boyermoore/BoyerMooreSearcher -/
def k5 : Class := { plain "com/example/skip2/skip2/boyermoore/BoyerMooreSearcher" (some 4) with
  accessFlags := 33
  interfaces := #[]
  cf := some (fileOf pool5 8 #[] #[{ accessFlags := 1, nameIndex := 5, descriptorIndex := 69, attributes := #[] }, { accessFlags := 4, nameIndex := 74, descriptorIndex := 50, attributes := #[] }, { accessFlags := 4, nameIndex := 77, descriptorIndex := 78, attributes := #[] }, { accessFlags := 2, nameIndex := 41, descriptorIndex := 42, attributes := #[] }] 33 2 #[] #[{ accessFlags := 26, nameIndex := 66, descriptorIndex := 28, attributes := #[] }, { accessFlags := 18, nameIndex := 11, descriptorIndex := 12, attributes := #[] }, { accessFlags := 18, nameIndex := 27, descriptorIndex := 28, attributes := #[] }, { accessFlags := 66, nameIndex := 37, descriptorIndex := 38, attributes := #[] }, { accessFlags := 2, nameIndex := 57, descriptorIndex := 28, attributes := #[] }])
  fields := #[{ name := "WINDOW", type := .int, accessFlags := 26, slot := 0, constantValue := 0 }, { name := "pattern", type := (.array .char), accessFlags := 18, slot := 10, constantValue := 0 }, { name := "budget", type := .int, accessFlags := 18, slot := 11, constantValue := 0 }, { name := "goodSuffixShift", type := (.array .int), accessFlags := 66, slot := 12, constantValue := 0 }, { name := "spent", type := .int, accessFlags := 2, slot := 13, constantValue := 0 }]
  methods := #[k5m0, k5m1, k5m2, k5m3]
  instanceTypes := #[.int, (.array .char), .int, (.object "com/example/skip2/skip2/windowsearch/FlagSearch"), .boolean, (.object "com/example/skip2/skip2/windowsearch/SkipTables"), .long, .int, .int, (.object "java/lang/ref/WeakReference"), (.array .char), .int, (.array .int), .int]
  staticTypes := #[.int]
  resolved := Array.replicate 81 none
  statics := none }

def pool6 : Array CpInfo := pool [(3, .methodref 4 5), (0, .class_ 6), (0, .nameAndType 7 8), (0, u "java/lang/Object"), (0, u "<init>"), (0, u "()V"), (0, .fieldref 10 11), (0, .class_ 12), (0, .nameAndType 13 14), (0, u "com/example/skip2/skip2/windowsearch/FlagSearch"), (0, u "pattern"), (0, u "[C"), (0, .fieldref 10 16), (0, .nameAndType 17 18), (0, u "length"), (0, u "I"), (0, .methodref 20 21), (0, .class_ 22), (0, .nameAndType 23 24), (0, u "java/lang/Math"), (0, u "min"), (0, u "(II)I"), (2, .fieldref 10 28), (0, .nameAndType 29 18), (0, u "lastUnlike"), (0, .methodref 10 31), (0, .nameAndType 32 33), (0, u "between"), (0, u "([CI)I"), (0, .fieldref 10 35), (0, .nameAndType 32 18), (0, .fieldref 10 37), (0, .nameAndType 38 39), (0, u "lowBytes"), (0, u "Z"), (0, .fieldref 10 41), (0, .nameAndType 42 43), (0, u "lowWord"), (0, u "J"), (0, .fieldref 10 45), (0, .nameAndType 46 43), (0, u "highWord"), (0, .methodref 10 48), (0, .nameAndType 49 50), (0, u "mask"), (0, u "(I)J"), (0, .fieldref 10 52), (0, .nameAndType 53 43), (0, u "lowMask"), (0, .methodref 20 55), (0, .nameAndType 56 24), (0, u "max"), (0, .fieldref 10 58), (0, .nameAndType 59 43), (0, u "highMask"), (0, .long 18446744073709551615), (14, .class_ 77), (1, u "com/example/skip2/skip2/windowsearch/FlagSearch$Buffers"), (154, u "LONGS"), (0, u "Ljava/lang/invoke/VarHandle;"), (37, u "FAILED_BYTES"), (0, u "[B"), (8, u "FAILED_CHARS"), (61, u "STOPPED"), (2, u "MOST_BYTES"), (1, u "MOST_CHARS"), (1, u "MOST_IN_A_BLOCK"), (1, u "MOST_TESTED"), (1, u "PAYS"), (0, u "D"), (0, u "FIRST_BLOCK"), (1, u "BYTES_BLOCK"), (1, u "CHARS_BLOCK"), (1, u "GROWTH"), (1, u "STAGGER"), (1, u "RUN_ON"), (1, u "GROUP"), (0, u "WRITTEN_AHEAD"), (0, u "FEWEST"), (0, u "MOST_SAMPLED"), (1, u "SPARSE"), (1, u "GOLDEN_FRACTION"), (0, u "RARELY_PASSED"), (0, u "TO_TOP_BYTE"), (0, u "ONE_IN_EACH_BYTE"), (0, u "LOW_BITS"), (0, u "([C)V")] 27

def k6c0 : Code := { maxStack := 4, maxLocals := 8, code := prog_28_method_1_code, exceptionTable := #[], attributes := #[] }
def k6m0 : Method := { name := "<init>", desc := "([C)V", sig := { parameters := [(.array .char)], returnType := none }, accessFlags := 0, code := some k6c0 }
def k6c1 : Code := { maxStack := 3, maxLocals := 5, code := prog_28_method_2_code, exceptionTable := #[], attributes := #[] }
def k6m1 : Method := { name := "between", desc := "([CI)I", sig := { parameters := [(.array .char), .int], returnType := some .int }, accessFlags := 10, code := some k6c1 }
def k6c2 : Code := { maxStack := 4, maxLocals := 1, code := prog_28_method_3_code, exceptionTable := #[], attributes := #[] }
def k6m2 : Method := { name := "mask", desc := "(I)J", sig := { parameters := [.int], returnType := some .long }, accessFlags := 10, code := some k6c2 }
/-- com/example/skip2/skip2/windowsearch/FlagSearch -/
def k6 : Class := { plain "com/example/skip2/skip2/windowsearch/FlagSearch" (some 0) with
  accessFlags := 32
  interfaces := #[]
  cf := some (fileOf pool6 10 #[.nestMembers #[75]] #[{ accessFlags := 0, nameIndex := 7, descriptorIndex := 380, attributes := #[] }, { accessFlags := 10, nameIndex := 32, descriptorIndex := 33, attributes := #[] }, { accessFlags := 10, nameIndex := 49, descriptorIndex := 50, attributes := #[] }] 32 4 #[] #[{ accessFlags := 24, nameIndex := 343, descriptorIndex := 18, attributes := #[] }, { accessFlags := 24, nameIndex := 346, descriptorIndex := 18, attributes := #[] }, { accessFlags := 24, nameIndex := 348, descriptorIndex := 18, attributes := #[] }, { accessFlags := 24, nameIndex := 350, descriptorIndex := 18, attributes := #[] }, { accessFlags := 24, nameIndex := 352, descriptorIndex := 18, attributes := #[] }, { accessFlags := 26, nameIndex := 354, descriptorIndex := 355, attributes := #[] }, { accessFlags := 26, nameIndex := 356, descriptorIndex := 18, attributes := #[] }, { accessFlags := 26, nameIndex := 358, descriptorIndex := 18, attributes := #[] }, { accessFlags := 26, nameIndex := 360, descriptorIndex := 18, attributes := #[] }, { accessFlags := 26, nameIndex := 362, descriptorIndex := 18, attributes := #[] }, { accessFlags := 26, nameIndex := 364, descriptorIndex := 18, attributes := #[] }, { accessFlags := 26, nameIndex := 366, descriptorIndex := 18, attributes := #[] }, { accessFlags := 26, nameIndex := 368, descriptorIndex := 18, attributes := #[] }, { accessFlags := 24, nameIndex := 369, descriptorIndex := 18, attributes := #[] }, { accessFlags := 26, nameIndex := 370, descriptorIndex := 18, attributes := #[] }, { accessFlags := 26, nameIndex := 371, descriptorIndex := 18, attributes := #[] }, { accessFlags := 26, nameIndex := 373, descriptorIndex := 18, attributes := #[] }, { accessFlags := 26, nameIndex := 375, descriptorIndex := 18, attributes := #[] }, { accessFlags := 26, nameIndex := 376, descriptorIndex := 18, attributes := #[] }, { accessFlags := 26, nameIndex := 232, descriptorIndex := 233, attributes := #[] }, { accessFlags := 26, nameIndex := 377, descriptorIndex := 43, attributes := #[] }, { accessFlags := 26, nameIndex := 378, descriptorIndex := 43, attributes := #[] }, { accessFlags := 26, nameIndex := 379, descriptorIndex := 43, attributes := #[] }, { accessFlags := 26, nameIndex := 271, descriptorIndex := 272, attributes := #[] }, { accessFlags := 26, nameIndex := 281, descriptorIndex := 14, attributes := #[] }, { accessFlags := 18, nameIndex := 13, descriptorIndex := 14, attributes := #[] }, { accessFlags := 18, nameIndex := 17, descriptorIndex := 18, attributes := #[] }, { accessFlags := 18, nameIndex := 29, descriptorIndex := 18, attributes := #[] }, { accessFlags := 18, nameIndex := 32, descriptorIndex := 18, attributes := #[] }, { accessFlags := 18, nameIndex := 38, descriptorIndex := 39, attributes := #[] }, { accessFlags := 18, nameIndex := 42, descriptorIndex := 43, attributes := #[] }, { accessFlags := 18, nameIndex := 46, descriptorIndex := 43, attributes := #[] }, { accessFlags := 18, nameIndex := 53, descriptorIndex := 43, attributes := #[] }, { accessFlags := 18, nameIndex := 59, descriptorIndex := 43, attributes := #[] }])
  fields := #[{ name := "STOPPED", type := .int, accessFlags := 24, slot := 0, constantValue := 0 }, { name := "MOST_BYTES", type := .int, accessFlags := 24, slot := 1, constantValue := 0 }, { name := "MOST_CHARS", type := .int, accessFlags := 24, slot := 2, constantValue := 0 }, { name := "MOST_IN_A_BLOCK", type := .int, accessFlags := 24, slot := 3, constantValue := 0 }, { name := "MOST_TESTED", type := .int, accessFlags := 24, slot := 4, constantValue := 0 }, { name := "PAYS", type := .double, accessFlags := 26, slot := 5, constantValue := 0 }, { name := "FIRST_BLOCK", type := .int, accessFlags := 26, slot := 6, constantValue := 0 }, { name := "BYTES_BLOCK", type := .int, accessFlags := 26, slot := 7, constantValue := 0 }, { name := "CHARS_BLOCK", type := .int, accessFlags := 26, slot := 8, constantValue := 0 }, { name := "GROWTH", type := .int, accessFlags := 26, slot := 9, constantValue := 0 }, { name := "STAGGER", type := .int, accessFlags := 26, slot := 10, constantValue := 0 }, { name := "RUN_ON", type := .int, accessFlags := 26, slot := 11, constantValue := 0 }, { name := "GROUP", type := .int, accessFlags := 26, slot := 12, constantValue := 0 }, { name := "WRITTEN_AHEAD", type := .int, accessFlags := 24, slot := 13, constantValue := 0 }, { name := "FEWEST", type := .int, accessFlags := 26, slot := 14, constantValue := 0 }, { name := "MOST_SAMPLED", type := .int, accessFlags := 26, slot := 15, constantValue := 0 }, { name := "SPARSE", type := .int, accessFlags := 26, slot := 16, constantValue := 0 }, { name := "GOLDEN_FRACTION", type := .int, accessFlags := 26, slot := 17, constantValue := 0 }, { name := "RARELY_PASSED", type := .int, accessFlags := 26, slot := 18, constantValue := 0 }, { name := "LONGS", type := (.object "java/lang/invoke/VarHandle"), accessFlags := 26, slot := 19, constantValue := 0 }, { name := "TO_TOP_BYTE", type := .long, accessFlags := 26, slot := 20, constantValue := 0 }, { name := "ONE_IN_EACH_BYTE", type := .long, accessFlags := 26, slot := 21, constantValue := 0 }, { name := "LOW_BITS", type := .long, accessFlags := 26, slot := 22, constantValue := 0 }, { name := "FAILED_BYTES", type := (.array .byte), accessFlags := 26, slot := 23, constantValue := 0 }, { name := "FAILED_CHARS", type := (.array .char), accessFlags := 26, slot := 24, constantValue := 0 }, { name := "pattern", type := (.array .char), accessFlags := 18, slot := 0, constantValue := 0 }, { name := "length", type := .int, accessFlags := 18, slot := 1, constantValue := 0 }, { name := "lastUnlike", type := .int, accessFlags := 18, slot := 2, constantValue := 0 }, { name := "between", type := .int, accessFlags := 18, slot := 3, constantValue := 0 }, { name := "lowBytes", type := .boolean, accessFlags := 18, slot := 4, constantValue := 0 }, { name := "lowWord", type := .long, accessFlags := 18, slot := 5, constantValue := 0 }, { name := "highWord", type := .long, accessFlags := 18, slot := 6, constantValue := 0 }, { name := "lowMask", type := .long, accessFlags := 18, slot := 7, constantValue := 0 }, { name := "highMask", type := .long, accessFlags := 18, slot := 8, constantValue := 0 }]
  methods := #[k6m0, k6m1, k6m2]
  instanceTypes := #[(.array .char), .int, .int, .int, .boolean, .long, .long, .long, .long]
  staticTypes := #[.int, .int, .int, .int, .int, .double, .int, .int, .int, .int, .int, .int, .int, .int, .int, .int, .int, .int, .int, (.object "java/lang/invoke/VarHandle"), .long, .long, .long, (.array .byte), (.array .char)]
  resolved := Array.replicate 408 none
  statics := none }

def pool7 : Array CpInfo := pool [(1, .class_ 2), (0, u "java/lang/Math"), (1, .class_ 6), (1, u "java/lang/Object"), (0, u "<init>"), (0, u "()V"), (89, .class_ 100), (1, u "java/lang/Math$RandomNumberGeneratorHolder"), (20, u "(JJ)J"), (50, u "negativeZeroFloatBits"), (0, u "J"), (2, u "negativeZeroDoubleBits"), (21, u "max"), (2, u "min"), (43, u "$assertionsDisabled"), (0, u "Z"), (88, u "(II)I"), (2, u "twoToTheDoubleScaleDown"), (0, u "D"), (4, u "twoToTheDoubleScaleUp"), (9, u "E"), (3, u "PI"), (2, u "TAU"), (2, u "DEGREES_TO_RADIANS"), (0, u "RADIANS_TO_DEGREES")] 94

def k7m0 : Method := { name := "<init>", desc := "()V", sig := { parameters := [], returnType := none }, accessFlags := 2, code := none }
def k7c1 : Code := { maxStack := 2, maxLocals := 2, code := jdk_29_method_65_code, exceptionTable := #[], attributes := #[] }
def k7m1 : Method := { name := "max", desc := "(II)I", sig := { parameters := [.int, .int], returnType := some .int }, accessFlags := 9, code := some k7c1 }
def k7c2 : Code := { maxStack := 2, maxLocals := 2, code := jdk_29_method_69_code, exceptionTable := #[], attributes := #[] }
def k7m2 : Method := { name := "min", desc := "(II)I", sig := { parameters := [.int, .int], returnType := some .int }, accessFlags := 9, code := some k7c2 }
def k7c3 : Code := { maxStack := 4, maxLocals := 4, code := jdk_29_method_70_code, exceptionTable := #[], attributes := #[] }
def k7m3 : Method := { name := "min", desc := "(JJ)J", sig := { parameters := [.long, .long], returnType := some .long }, accessFlags := 9, code := some k7c3 }
/-- java/lang/Math -/
def k7 : Class := { plain "java/lang/Math" (some 0) with
  accessFlags := 49
  interfaces := #[]
  cf := some (fileOf pool7 1 #[.nestMembers #[98]] #[{ accessFlags := 2, nameIndex := 7, descriptorIndex := 8, attributes := #[] }, { accessFlags := 9, nameIndex := 198, descriptorIndex := 335, attributes := #[] }, { accessFlags := 9, nameIndex := 201, descriptorIndex := 335, attributes := #[] }, { accessFlags := 9, nameIndex := 201, descriptorIndex := 121, attributes := #[] }] 49 4 #[] #[{ accessFlags := 25, nameIndex := 354, descriptorIndex := 339, attributes := #[] }, { accessFlags := 25, nameIndex := 358, descriptorIndex := 339, attributes := #[] }, { accessFlags := 25, nameIndex := 361, descriptorIndex := 339, attributes := #[] }, { accessFlags := 26, nameIndex := 364, descriptorIndex := 339, attributes := #[] }, { accessFlags := 26, nameIndex := 365, descriptorIndex := 339, attributes := #[] }, { accessFlags := 26, nameIndex := 172, descriptorIndex := 173, attributes := #[] }, { accessFlags := 26, nameIndex := 176, descriptorIndex := 173, attributes := #[] }, { accessFlags := 8, nameIndex := 344, descriptorIndex := 339, attributes := #[] }, { accessFlags := 8, nameIndex := 338, descriptorIndex := 339, attributes := #[] }, { accessFlags := 4120, nameIndex := 245, descriptorIndex := 246, attributes := #[] }])
  fields := #[{ name := "E", type := .double, accessFlags := 25, slot := 0, constantValue := 0 }, { name := "PI", type := .double, accessFlags := 25, slot := 1, constantValue := 0 }, { name := "TAU", type := .double, accessFlags := 25, slot := 2, constantValue := 0 }, { name := "DEGREES_TO_RADIANS", type := .double, accessFlags := 26, slot := 3, constantValue := 0 }, { name := "RADIANS_TO_DEGREES", type := .double, accessFlags := 26, slot := 4, constantValue := 0 }, { name := "negativeZeroFloatBits", type := .long, accessFlags := 26, slot := 5, constantValue := 0 }, { name := "negativeZeroDoubleBits", type := .long, accessFlags := 26, slot := 6, constantValue := 0 }, { name := "twoToTheDoubleScaleUp", type := .double, accessFlags := 8, slot := 7, constantValue := 0 }, { name := "twoToTheDoubleScaleDown", type := .double, accessFlags := 8, slot := 8, constantValue := 0 }, { name := "$assertionsDisabled", type := .boolean, accessFlags := 4120, slot := 9, constantValue := 0 }]
  methods := #[k7m0, k7m1, k7m2, k7m3]
  instanceTypes := #[]
  staticTypes := #[.double, .double, .double, .double, .double, .long, .long, .double, .double, .boolean]
  resolved := Array.replicate 460 none
  statics := none }

def pool8 : Array CpInfo := pool [(2, .class_ 4), (1, u "java/lang/Object"), (0, u "<init>"), (0, u "()V"), (0, .invokeDynamic 0 8), (0, .nameAndType 9 10), (0, u "border"), (0, u "([II)Lcom/example/skip2/skip2/kmp/FailureFunction$Unextended;"), (0, .methodref 12 13), (0, .class_ 14), (0, .nameAndType 15 16), (0, u "com/example/skip2/skip2/kmp/FailureFunction"), (0, u "of"), (0, u "([CLcom/example/skip2/skip2/kmp/FailureFunction$Unextended;)[I"), (0, .class_ 18), (0, u "com/example/skip2/skip2/boyermoore/GoodSuffixShift"), (2, u "([C)[I"), (5, u "lambda$of$0"), (0, u "([IIII)V"), (3, .methodType 33), (0, u "(II)V"), (0, .methodHandle 6 35), (0, .methodref 17 36), (0, .nameAndType 27 28), (0, .methodHandle 6 38), (0, .methodref 39 40), (0, .class_ 41), (0, .nameAndType 42 43), (0, u "java/lang/invoke/LambdaMetafactory"), (0, u "metafactory"), (0, u "(Ljava/lang/invoke/MethodHandles$Lookup;Ljava/lang/String;Ljava/lang/invoke/MethodType;Ljava/lang/invoke/MethodType;Ljava/lang/invoke/MethodHandle;Ljava/lang/invoke/MethodType;)Ljava/lang/invoke/CallSite;")] 9

def k8m0 : Method := { name := "<init>", desc := "()V", sig := { parameters := [], returnType := none }, accessFlags := 2, code := none }
def k8c1 : Code := { maxStack := 5, maxLocals := 7, code := prog_7_method_2_code, exceptionTable := #[], attributes := #[] }
def k8m1 : Method := { name := "of", desc := "([C)[I", sig := { parameters := [(.array .char)], returnType := some (.array .int) }, accessFlags := 8, code := some k8c1 }
def k8c2 : Code := { maxStack := 4, maxLocals := 4, code := prog_7_method_3_code, exceptionTable := #[], attributes := #[] }
def k8m2 : Method := { name := "lambda$of$0", desc := "([IIII)V", sig := { parameters := [(.array .int), .int, .int, .int], returnType := none }, accessFlags := 4106, code := some k8c2 }
/-- com/example/skip2/skip2/boyermoore/GoodSuffixShift -/
def k8 : Class := { plain "com/example/skip2/skip2/boyermoore/GoodSuffixShift" (some 0) with
  accessFlags := 32
  interfaces := #[]
  cf := some (fileOf pool8 17 #[.bootstrapMethods #[⟨37, #[32, 34, 32]⟩]] #[{ accessFlags := 2, nameIndex := 5, descriptorIndex := 6, attributes := #[] }, { accessFlags := 8, nameIndex := 15, descriptorIndex := 21, attributes := #[] }, { accessFlags := 4106, nameIndex := 27, descriptorIndex := 28, attributes := #[] }] 32 2 #[] #[])
  fields := #[]
  methods := #[k8m0, k8m1, k8m2]
  instanceTypes := #[]
  staticTypes := #[]
  resolved := Array.replicate 53 none
  callSites := [(1, 37, .makes 19)]
  statics := none }

def pool9 : Array CpInfo := pool [(1, .class_ 2), (0, u "com/example/skip2/skip2/kmp/FailureFunction$Unextended"), (0, .class_ 4), (0, u "java/lang/Object"), (0, u "border"), (0, u "(II)V"), (5, .class_ 13), (0, u "com/example/skip2/skip2/kmp/FailureFunction")] 2

def k9m0 : Method := { name := "border", desc := "(II)V", sig := { parameters := [.int, .int], returnType := none }, accessFlags := 1025, code := none }
/-- com/example/skip2/skip2/kmp/FailureFunction$Unextended -/
def k9 : Class := { plain "com/example/skip2/skip2/kmp/FailureFunction$Unextended" (some 0) with
  accessFlags := 1537
  interfaces := #[]
  cf := some (fileOf pool9 1 #[.nestHost 12] #[{ accessFlags := 1025, nameIndex := 5, descriptorIndex := 6, attributes := #[] }] 1537 3 #[] #[])
  fields := #[]
  methods := #[k9m0]
  instanceTypes := #[]
  staticTypes := #[]
  resolved := Array.replicate 16 none
  statics := none }

def pool10 : Array CpInfo := pool [(2, .class_ 4), (1, u "java/lang/Object"), (0, u "<init>"), (0, u "()V"), (1, .class_ 10), (1, u "com/example/skip2/skip2/kmp/FailureFunction"), (0, u "of"), (0, u "([CLcom/example/skip2/skip2/kmp/FailureFunction$Unextended;)[I"), (0, .interfaceMethodref 14 15), (0, .class_ 16), (0, .nameAndType 17 18), (0, u "com/example/skip2/skip2/kmp/FailureFunction$Unextended"), (0, u "border"), (0, u "(II)V")] 13

def k10m0 : Method := { name := "<init>", desc := "()V", sig := { parameters := [], returnType := none }, accessFlags := 2, code := none }
def k10c1 : Code := { maxStack := 3, maxLocals := 6, code := prog_11_method_3_code, exceptionTable := #[], attributes := #[] }
def k10m1 : Method := { name := "of", desc := "([CLcom/example/skip2/skip2/kmp/FailureFunction$Unextended;)[I", sig := { parameters := [(.array .char), (.object "com/example/skip2/skip2/kmp/FailureFunction$Unextended")], returnType := some (.array .int) }, accessFlags := 9, code := some k10c1 }
/-- com/example/skip2/skip2/kmp/FailureFunction -/
def k10 : Class := { plain "com/example/skip2/skip2/kmp/FailureFunction" (some 0) with
  accessFlags := 33
  interfaces := #[]
  cf := some (fileOf pool10 8 #[.nestMembers #[14]] #[{ accessFlags := 2, nameIndex := 5, descriptorIndex := 6, attributes := #[] }, { accessFlags := 9, nameIndex := 11, descriptorIndex := 12, attributes := #[] }] 33 2 #[] #[])
  fields := #[]
  methods := #[k10m0, k10m1]
  instanceTypes := #[]
  staticTypes := #[]
  resolved := Array.replicate 32 none
  statics := none }

def pool11 : Array CpInfo := pool [(1, u "java/lang/Cloneable"), (0, .class_ 1), (0, u "java/lang/Object"), (0, .class_ 3)] 3

/-- java/lang/Cloneable -/
def k11 : Class := { plain "java/lang/Cloneable" (some 0) with
  accessFlags := 1537
  interfaces := #[]
  cf := some (fileOf pool11 2 #[] #[] 1537 4 #[] #[])
  fields := #[]
  methods := #[]
  instanceTypes := #[]
  staticTypes := #[]
  resolved := Array.replicate 8 none
  statics := none }

def pool12 : Array CpInfo := pool [(1, u "java/io/Serializable"), (0, .class_ 1), (0, u "java/lang/Object"), (0, .class_ 3)] 3

/-- java/io/Serializable -/
def k12 : Class := { plain "java/io/Serializable" (some 0) with
  accessFlags := 1537
  interfaces := #[]
  cf := some (fileOf pool12 2 #[] #[] 1537 4 #[] #[])
  fields := #[]
  methods := #[]
  instanceTypes := #[]
  staticTypes := #[]
  resolved := Array.replicate 8 none
  statics := none }

/-- the primitive byte -/
def k13 : Class := { plain "byte" none with kind := .primitive 'B', accessFlags := 0x411 }
/-- [B -/
def k14 : Class := { plain "[B" (some 0) with kind := .array 13 .byte, interfaces := #[11, 12], accessFlags := 1041 }

/-- the primitive char -/
def k15 : Class := { plain "char" none with kind := .primitive 'C', accessFlags := 0x411 }
/-- [C -/
def k16 : Class := { plain "[C" (some 0) with kind := .array 15 .char, interfaces := #[11, 12], accessFlags := 1041 }

/-- the primitive int -/
def k17 : Class := { plain "int" none with kind := .primitive 'I', accessFlags := 0x411 }
/-- [I -/
def k18 : Class := { plain "[I" (some 0) with kind := .array 17 .int, interfaces := #[11, 12], accessFlags := 1041 }

def classes0 : Array Class := #[k0, k1, k2, k3, k4, k5, k6, k7, k8, k9, k10, k11, k12, k13, k14, k15, k16, k17, k18]
/-- the class that the rule has made for the site at 37 of com/example/skip2/skip2/boyermoore/GoodSuffixShift.of -/
def k19 : Class := Jvm.LamKit.madeRec { classes := classes0 } "com/example/skip2/skip2/boyermoore/GoodSuffixShift" (Jvm.Lambda.Shape.mk "com/example/skip2/skip2/kmp/FailureFunction$Unextended" "border" (Jvm.ClassFile.MethodDescriptor.mk ([Jvm.ClassFile.FieldType.int, Jvm.ClassFile.FieldType.int] : List Jvm.ClassFile.FieldType) (Option.none : Option Jvm.ClassFile.FieldType)) ([(Jvm.ClassFile.FieldType.array Jvm.ClassFile.FieldType.int), Jvm.ClassFile.FieldType.int] : List Jvm.ClassFile.FieldType) (6 : Nat) "com/example/skip2/skip2/boyermoore/GoodSuffixShift" "lambda$of$0" (Jvm.ClassFile.MethodDescriptor.mk ([(Jvm.ClassFile.FieldType.array Jvm.ClassFile.FieldType.int), Jvm.ClassFile.FieldType.int, Jvm.ClassFile.FieldType.int, Jvm.ClassFile.FieldType.int] : List Jvm.ClassFile.FieldType) (Option.none : Option Jvm.ClassFile.FieldType)) false (Jvm.ClassFile.MethodDescriptor.mk ([Jvm.ClassFile.FieldType.int, Jvm.ClassFile.FieldType.int] : List Jvm.ClassFile.FieldType) (Option.none : Option Jvm.ClassFile.FieldType))) 19

def heap : Heap := #[]
def classes : Array Class := #[k0, k1, k2, k3, k4, k5, k6, k7, k8, k9, k10, k11, k12, k13, k14, k15, k16, k17, k18, k19]
def interned : List (Array UInt16 × Addr) := []
def slotsUsed : Nat := 0
def theMethod : MethodId := ⟨1, 1⟩
def args0 : Array Value := #[.long 5, .long 7, .int 3, .int 1, .int 2]
def aboutOver (below : List Frame) : State where
  vm := { classes := classes, interned := interned.toArray }
  heap := heap
  slotsUsed := slotsUsed
  threads := #[{ frames := .invoking theMethod args0 :: below }]
def below0 : List Frame := [.native { method := ⟨0, 0⟩, args := #[] }]
def about1 : State := aboutOver below0
def p0 : Program := .bare "" "" ""
def e0 : Env := launch0.env 0 0 0
theorem w_frames : about1.frames = Frame.invoking theMethod args0 :: below0 := rfl
set_option maxRecDepth 65536 in
theorem w_args : argsFit about1.vm theMethod args0 = true := by decide +kernel
set_option maxRecDepth 65536 in
theorem w_heap : heapFits about1 = true := by decide +kernel
set_option maxRecDepth 65536 in
theorem w_runnable : about1.curStatus? = some .runnable := by decide +kernel
set_option maxRecDepth 65536 in
theorem w_alone : about1.alone = true := by decide +kernel
set_option maxRecDepth 65536 in
theorem w_named : about1.methodNamed? x = some theMethod := by decide +kernel
set_option maxRecDepth 65536 in
theorem w_hears : about1.hears theMethod below0 = true := by decide +kernel
set_option maxRecDepth 65536 in
theorem w_ripe : about1.ripe theMethod args0 below0 = true := by decide +kernel
theorem w_running : about1.status = .running := rfl
set_option maxRecDepth 65536 in
theorem w_room : about1.hasRoom e0.platform room_1 = true :=
  launch0.hasRoom_least _ room_1 (by decide +kernel) (by decide +kernel) (by decide +kernel) (by decide +kernel) (by decide +kernel) (by decide +kernel)
theorem allAtoms_all (ts : List Jvm.Cond) (a : Array Jvm.Value) (st : Jvm.State) : (allAtoms ts).before a st = ts.all (fun c => c.before a st) := by
  induction ts with
  | nil => rfl
  | cons c t ih =>
    show (Jvm.Cond.and c (allAtoms t)).before a st = _
    rw [Jvm.Cond.before_and, ih, List.all_cons]
def words1 : List Jvm.Cond := Jvm.Cond.code x code maxLocals ret :: tables_1
/-- a 'code' word, met by the world's own term for the bytes: nothing is compared byte by byte -/
theorem code_word {y : MethodName} {bytes : ByteArray} {mx : Nat} {rt : Option FieldType} {a : Array Value} {s : State} {m : MethodId} {meth : Method} {c : Code} (h1 : s.methodNamed? y = some m) (h2 : s.vm.method? m = some meth) (h3 : meth.code = some c) (h4 : c.code = bytes)
    (h5 : (c.maxLocals == mx && c.exceptionTable.isEmpty && decide (c.maxStack ≤ mostOperands) && decide (meth.sig.returnType = rt) && !meth.locks && decide (parseMethodDescriptor y.desc = some meth.sig)) = true) : (Jvm.Cond.code y bytes mx rt).before a s = true := by
  simp only [Bool.and_eq_true, beq_iff_eq, Bool.not_eq_true', decide_eq_true_eq] at h5
  obtain ⟨⟨⟨⟨⟨g1, g2⟩, g3⟩, g4⟩, g5⟩, g6⟩ := h5
  simp [Cond.before, Cond.holds, Cond.value, h1, h2, h3, h4, g1, g2, g3, g4, g5, g6]
def isCode : Jvm.Cond → Bool
  | .code _ _ _ _ => true
  | _ => false
theorem all_split {L : List Jvm.Cond} {P : Jvm.Cond → Bool} (h1 : L.all (fun c => isCode c || P c) = true) (h2 : ∀ c ∈ L.filter isCode, P c = true) : L.all P = true := by
  refine List.all_eq_true.mpr fun c hc => ?_
  have h := List.all_eq_true.mp h1 c hc
  rcases Bool.eq_false_or_eq_true (isCode c) with hi | hi
  · exact h2 c (List.mem_filter.mpr ⟨hc, hi⟩)
  · simpa [hi] using h
set_option maxRecDepth 65536 in
theorem w_c0 : (Jvm.Cond.code x code maxLocals ret).before args0 about1 = true := code_word (m := ⟨1, 1⟩) (meth := k1m1) (c := k1c1) (by decide +kernel) rfl rfl rfl (by decide +kernel)
set_option maxRecDepth 65536 in
theorem w_c1 : (Jvm.Cond.code ({ cls := "com/example/skip2/skip2/boyermoore/BoyerMooreSearcherPeriodPinLaw", name := "smallestPeriod", desc := "([CI)I" } : Jvm.MethodName) method_5_code (2 : Nat) (Option.some Jvm.ClassFile.FieldType.int)).before args0 about1 = true := code_word (m := ⟨1, 4⟩) (meth := k1m4) (c := k1c4) (by decide +kernel) rfl rfl rfl (by decide +kernel)
set_option maxRecDepth 65536 in
theorem w_c2 : (Jvm.Cond.code ({ cls := "com/example/skip2/skip2/boyermoore/BoyerMooreSearcherPeriodPinLaw", name := "isPeriod", desc := "([CII)Z" } : Jvm.MethodName) method_4_code (3 : Nat) (Option.some Jvm.ClassFile.FieldType.boolean)).before args0 about1 = true := code_word (m := ⟨1, 3⟩) (meth := k1m3) (c := k1c3) (by decide +kernel) rfl rfl rfl (by decide +kernel)
set_option maxRecDepth 65536 in
theorem w_c3 : (Jvm.Cond.code ({ cls := "com/example/skip2/skip2/boyermoore/BoyerMooreSearcherPeriodPinLaw", name := "agree", desc := "([CIII)Z" } : Jvm.MethodName) method_3_code (4 : Nat) (Option.some Jvm.ClassFile.FieldType.boolean)).before args0 about1 = true := code_word (m := ⟨1, 2⟩) (meth := k1m2) (c := k1c2) (by decide +kernel) rfl rfl rfl (by decide +kernel)
set_option maxRecDepth 65536 in
theorem w_c4 : (Jvm.Cond.code ({ cls := "com/example/skip2/skip2/boyermoore/BoyerMooreSearcher", name := "<init>", desc := "([C)V" } : Jvm.MethodName) prog_5_method_1_code (2 : Nat) (Option.none : Option Jvm.ClassFile.FieldType)).before args0 about1 = true := code_word (m := ⟨5, 0⟩) (meth := k5m0) (c := k5c0) (by decide +kernel) rfl rfl rfl (by decide +kernel)
set_option maxRecDepth 65536 in
theorem w_c5 : (Jvm.Cond.code ({ cls := "com/example/skip2/skip2/windowsearch/SkipSearcher", name := "<init>", desc := "([CZ)V" } : Jvm.MethodName) prog_39_method_1_code (3 : Nat) (Option.none : Option Jvm.ClassFile.FieldType)).before args0 about1 = true := code_word (m := ⟨4, 0⟩) (meth := k4m0) (c := k4c0) (by decide +kernel) rfl rfl rfl (by decide +kernel)
set_option maxRecDepth 65536 in
theorem w_c6 : (Jvm.Cond.code ({ cls := "com/example/skip2/skip2/windowsearch/WindowSearcher", name := "<init>", desc := "(I)V" } : Jvm.MethodName) prog_43_method_1_code (2 : Nat) (Option.none : Option Jvm.ClassFile.FieldType)).before args0 about1 = true := code_word (m := ⟨3, 0⟩) (meth := k3m0) (c := k3c0) (by decide +kernel) rfl rfl rfl (by decide +kernel)
set_option maxRecDepth 65536 in
theorem w_c7 : (Jvm.Cond.code ({ cls := "java/lang/Object", name := "<init>", desc := "()V" } : Jvm.MethodName) object_method_1_code (1 : Nat) (Option.none : Option Jvm.ClassFile.FieldType)).before args0 about1 = true := code_word (m := ⟨0, 0⟩) (meth := k0m0) (c := k0c0) (by decide +kernel) rfl rfl rfl (by decide +kernel)
set_option maxRecDepth 65536 in
theorem w_c8 : (Jvm.Cond.code ({ cls := "com/example/skip2/skip2/windowsearch/FlagSearch", name := "<init>", desc := "([C)V" } : Jvm.MethodName) prog_28_method_1_code (8 : Nat) (Option.none : Option Jvm.ClassFile.FieldType)).before args0 about1 = true := code_word (m := ⟨6, 0⟩) (meth := k6m0) (c := k6c0) (by decide +kernel) rfl rfl rfl (by decide +kernel)
set_option maxRecDepth 65536 in
theorem w_c9 : (Jvm.Cond.code ({ cls := "java/lang/Math", name := "min", desc := "(II)I" } : Jvm.MethodName) jdk_29_method_69_code (2 : Nat) (Option.some Jvm.ClassFile.FieldType.int)).before args0 about1 = true := code_word (m := ⟨7, 2⟩) (meth := k7m2) (c := k7c2) (by decide +kernel) rfl rfl rfl (by decide +kernel)
set_option maxRecDepth 65536 in
theorem w_c10 : (Jvm.Cond.code ({ cls := "com/example/skip2/skip2/windowsearch/FlagSearch", name := "between", desc := "([CI)I" } : Jvm.MethodName) prog_28_method_2_code (5 : Nat) (Option.some Jvm.ClassFile.FieldType.int)).before args0 about1 = true := code_word (m := ⟨6, 1⟩) (meth := k6m1) (c := k6c1) (by decide +kernel) rfl rfl rfl (by decide +kernel)
set_option maxRecDepth 65536 in
theorem w_c11 : (Jvm.Cond.code ({ cls := "com/example/skip2/skip2/windowsearch/FlagSearch", name := "mask", desc := "(I)J" } : Jvm.MethodName) prog_28_method_3_code (1 : Nat) (Option.some Jvm.ClassFile.FieldType.long)).before args0 about1 = true := code_word (m := ⟨6, 2⟩) (meth := k6m2) (c := k6c2) (by decide +kernel) rfl rfl rfl (by decide +kernel)
set_option maxRecDepth 65536 in
theorem w_c12 : (Jvm.Cond.code ({ cls := "java/lang/Math", name := "max", desc := "(II)I" } : Jvm.MethodName) jdk_29_method_65_code (2 : Nat) (Option.some Jvm.ClassFile.FieldType.int)).before args0 about1 = true := code_word (m := ⟨7, 1⟩) (meth := k7m1) (c := k7c1) (by decide +kernel) rfl rfl rfl (by decide +kernel)
set_option maxRecDepth 65536 in
theorem w_c13 : (Jvm.Cond.code ({ cls := "java/lang/Math", name := "min", desc := "(JJ)J" } : Jvm.MethodName) jdk_29_method_70_code (4 : Nat) (Option.some Jvm.ClassFile.FieldType.long)).before args0 about1 = true := code_word (m := ⟨7, 3⟩) (meth := k7m3) (c := k7c3) (by decide +kernel) rfl rfl rfl (by decide +kernel)
set_option maxRecDepth 65536 in
theorem w_c14 : (Jvm.Cond.code ({ cls := "com/example/skip2/skip2/boyermoore/BoyerMooreSearcher", name := "period", desc := "()I" } : Jvm.MethodName) prog_5_method_3_code (2 : Nat) (Option.some Jvm.ClassFile.FieldType.int)).before args0 about1 = true := code_word (m := ⟨5, 1⟩) (meth := k5m1) (c := k5c1) (by decide +kernel) rfl rfl rfl (by decide +kernel)
set_option maxRecDepth 65536 in
theorem w_c15 : (Jvm.Cond.code ({ cls := "com/example/skip2/skip2/boyermoore/BoyerMooreSearcher", name := "step", desc := "(IIIC)I" } : Jvm.MethodName) prog_5_method_4_code (8 : Nat) (Option.some Jvm.ClassFile.FieldType.int)).before args0 about1 = true := code_word (m := ⟨5, 2⟩) (meth := k5m2) (c := k5c2) (by decide +kernel) rfl rfl rfl (by decide +kernel)
set_option maxRecDepth 65536 in
theorem w_c16 : (Jvm.Cond.code ({ cls := "com/example/skip2/skip2/boyermoore/BoyerMooreSearcher", name := "table", desc := "(I)[I" } : Jvm.MethodName) prog_5_method_5_code (3 : Nat) (Option.some (Jvm.ClassFile.FieldType.array Jvm.ClassFile.FieldType.int))).before args0 about1 = true := code_word (m := ⟨5, 3⟩) (meth := k5m3) (c := k5c3) (by decide +kernel) rfl rfl rfl (by decide +kernel)
set_option maxRecDepth 65536 in
theorem w_c17 : (Jvm.Cond.code ({ cls := "com/example/skip2/skip2/boyermoore/GoodSuffixShift", name := "of", desc := "([C)[I" } : Jvm.MethodName) prog_7_method_2_code (7 : Nat) (Option.some (Jvm.ClassFile.FieldType.array Jvm.ClassFile.FieldType.int))).before args0 about1 = true := code_word (m := ⟨8, 1⟩) (meth := k8m1) (c := k8c1) (by decide +kernel) rfl rfl rfl (by decide +kernel)
set_option maxRecDepth 65536 in
theorem w_c18 : (Jvm.Cond.code ({ cls := "com/example/skip2/skip2/kmp/FailureFunction", name := "of", desc := "([CLcom/example/skip2/skip2/kmp/FailureFunction$Unextended;)[I" } : Jvm.MethodName) prog_11_method_3_code (6 : Nat) (Option.some (Jvm.ClassFile.FieldType.array Jvm.ClassFile.FieldType.int))).before args0 about1 = true := code_word (m := ⟨10, 1⟩) (meth := k10m1) (c := k10c1) (by decide +kernel) rfl rfl rfl (by decide +kernel)
set_option maxRecDepth 65536 in
theorem w_c19 : (Jvm.Cond.code ({ cls := "com/example/skip2/skip2/boyermoore/GoodSuffixShift", name := "lambda$of$0", desc := "([IIII)V" } : Jvm.MethodName) prog_7_method_3_code (4 : Nat) (Option.none : Option Jvm.ClassFile.FieldType)).before args0 about1 = true := code_word (m := ⟨8, 2⟩) (meth := k8m2) (c := k8c2) (by decide +kernel) rfl rfl rfl (by decide +kernel)
def codes1 : List Jvm.Cond := [Jvm.Cond.code x code maxLocals ret, Jvm.Cond.code ({ cls := "com/example/skip2/skip2/boyermoore/BoyerMooreSearcherPeriodPinLaw", name := "smallestPeriod", desc := "([CI)I" } : Jvm.MethodName) method_5_code (2 : Nat) (Option.some Jvm.ClassFile.FieldType.int), Jvm.Cond.code ({ cls := "com/example/skip2/skip2/boyermoore/BoyerMooreSearcherPeriodPinLaw", name := "isPeriod", desc := "([CII)Z" } : Jvm.MethodName) method_4_code (3 : Nat) (Option.some Jvm.ClassFile.FieldType.boolean), Jvm.Cond.code ({ cls := "com/example/skip2/skip2/boyermoore/BoyerMooreSearcherPeriodPinLaw", name := "agree", desc := "([CIII)Z" } : Jvm.MethodName) method_3_code (4 : Nat) (Option.some Jvm.ClassFile.FieldType.boolean), Jvm.Cond.code ({ cls := "com/example/skip2/skip2/boyermoore/BoyerMooreSearcher", name := "<init>", desc := "([C)V" } : Jvm.MethodName) prog_5_method_1_code (2 : Nat) (Option.none : Option Jvm.ClassFile.FieldType), Jvm.Cond.code ({ cls := "com/example/skip2/skip2/windowsearch/SkipSearcher", name := "<init>", desc := "([CZ)V" } : Jvm.MethodName) prog_39_method_1_code (3 : Nat) (Option.none : Option Jvm.ClassFile.FieldType), Jvm.Cond.code ({ cls := "com/example/skip2/skip2/windowsearch/WindowSearcher", name := "<init>", desc := "(I)V" } : Jvm.MethodName) prog_43_method_1_code (2 : Nat) (Option.none : Option Jvm.ClassFile.FieldType), Jvm.Cond.code ({ cls := "java/lang/Object", name := "<init>", desc := "()V" } : Jvm.MethodName) object_method_1_code (1 : Nat) (Option.none : Option Jvm.ClassFile.FieldType), Jvm.Cond.code ({ cls := "com/example/skip2/skip2/windowsearch/FlagSearch", name := "<init>", desc := "([C)V" } : Jvm.MethodName) prog_28_method_1_code (8 : Nat) (Option.none : Option Jvm.ClassFile.FieldType), Jvm.Cond.code ({ cls := "java/lang/Math", name := "min", desc := "(II)I" } : Jvm.MethodName) jdk_29_method_69_code (2 : Nat) (Option.some Jvm.ClassFile.FieldType.int), Jvm.Cond.code ({ cls := "com/example/skip2/skip2/windowsearch/FlagSearch", name := "between", desc := "([CI)I" } : Jvm.MethodName) prog_28_method_2_code (5 : Nat) (Option.some Jvm.ClassFile.FieldType.int), Jvm.Cond.code ({ cls := "com/example/skip2/skip2/windowsearch/FlagSearch", name := "mask", desc := "(I)J" } : Jvm.MethodName) prog_28_method_3_code (1 : Nat) (Option.some Jvm.ClassFile.FieldType.long), Jvm.Cond.code ({ cls := "java/lang/Math", name := "max", desc := "(II)I" } : Jvm.MethodName) jdk_29_method_65_code (2 : Nat) (Option.some Jvm.ClassFile.FieldType.int), Jvm.Cond.code ({ cls := "java/lang/Math", name := "min", desc := "(JJ)J" } : Jvm.MethodName) jdk_29_method_70_code (4 : Nat) (Option.some Jvm.ClassFile.FieldType.long), Jvm.Cond.code ({ cls := "com/example/skip2/skip2/boyermoore/BoyerMooreSearcher", name := "period", desc := "()I" } : Jvm.MethodName) prog_5_method_3_code (2 : Nat) (Option.some Jvm.ClassFile.FieldType.int), Jvm.Cond.code ({ cls := "com/example/skip2/skip2/boyermoore/BoyerMooreSearcher", name := "step", desc := "(IIIC)I" } : Jvm.MethodName) prog_5_method_4_code (8 : Nat) (Option.some Jvm.ClassFile.FieldType.int), Jvm.Cond.code ({ cls := "com/example/skip2/skip2/boyermoore/BoyerMooreSearcher", name := "table", desc := "(I)[I" } : Jvm.MethodName) prog_5_method_5_code (3 : Nat) (Option.some (Jvm.ClassFile.FieldType.array Jvm.ClassFile.FieldType.int)), Jvm.Cond.code ({ cls := "com/example/skip2/skip2/boyermoore/GoodSuffixShift", name := "of", desc := "([C)[I" } : Jvm.MethodName) prog_7_method_2_code (7 : Nat) (Option.some (Jvm.ClassFile.FieldType.array Jvm.ClassFile.FieldType.int)), Jvm.Cond.code ({ cls := "com/example/skip2/skip2/kmp/FailureFunction", name := "of", desc := "([CLcom/example/skip2/skip2/kmp/FailureFunction$Unextended;)[I" } : Jvm.MethodName) prog_11_method_3_code (6 : Nat) (Option.some (Jvm.ClassFile.FieldType.array Jvm.ClassFile.FieldType.int)), Jvm.Cond.code ({ cls := "com/example/skip2/skip2/boyermoore/GoodSuffixShift", name := "lambda$of$0", desc := "([IIII)V" } : Jvm.MethodName) prog_7_method_3_code (4 : Nat) (Option.none : Option Jvm.ClassFile.FieldType)]
set_option maxRecDepth 65536 in
theorem codes_eq : words1.filter isCode = codes1 := rfl
theorem w_codes : ∀ c ∈ words1.filter isCode, c.before args0 about1 = true := by
  rw [codes_eq]
  intro c hc
  simp only [codes1, List.mem_cons, List.not_mem_nil, or_false] at hc
  rcases hc with rfl | rfl | rfl | rfl | rfl | rfl | rfl | rfl | rfl | rfl | rfl | rfl | rfl | rfl | rfl | rfl | rfl | rfl | rfl | rfl
  · exact w_c0
  · exact w_c1
  · exact w_c2
  · exact w_c3
  · exact w_c4
  · exact w_c5
  · exact w_c6
  · exact w_c7
  · exact w_c8
  · exact w_c9
  · exact w_c10
  · exact w_c11
  · exact w_c12
  · exact w_c13
  · exact w_c14
  · exact w_c15
  · exact w_c16
  · exact w_c17
  · exact w_c18
  · exact w_c19
set_option maxRecDepth 65536 in
theorem w_t1 : (words1.take 24).all (fun c => isCode c || c.before args0 about1) = true := by decide +kernel
set_option maxRecDepth 65536 in
theorem w_t2 : ((words1.drop 24).take 24).all (fun c => isCode c || c.before args0 about1) = true := by decide +kernel
set_option maxRecDepth 65536 in
theorem w_t3 : (((words1.drop 24).drop 24).take 24).all (fun c => isCode c || c.before args0 about1) = true := by decide +kernel
set_option maxRecDepth 65536 in
theorem w_t4 : ((((words1.drop 24).drop 24).drop 24).take 24).all (fun c => isCode c || c.before args0 about1) = true := by decide +kernel
set_option maxRecDepth 65536 in
theorem w_t5 : (((((words1.drop 24).drop 24).drop 24).drop 24).take 24).all (fun c => isCode c || c.before args0 about1) = true := by decide +kernel
set_option maxRecDepth 65536 in
theorem w_t6 : (((((words1.drop 24).drop 24).drop 24).drop 24).drop 24).all (fun c => isCode c || c.before args0 about1) = true := by decide +kernel
theorem w_tables : (allAtoms (Jvm.Cond.code x code maxLocals ret :: tables_1)).before args0 about1 = true := by
  rw [allAtoms_all]
  show words1.all (fun c => c.before args0 about1) = true
  refine all_split ?_ w_codes
  rw [← List.take_append_drop 24 words1, List.all_append, w_t1, ← List.take_append_drop 24 (words1.drop 24), List.all_append, w_t2, ← List.take_append_drop 24 ((words1.drop 24).drop 24), List.all_append, w_t3, ← List.take_append_drop 24 (((words1.drop 24).drop 24).drop 24), List.all_append, w_t4, ← List.take_append_drop 24 ((((words1.drop 24).drop 24).drop 24).drop 24), List.all_append, w_t5, w_t6]
  rfl
set_option maxRecDepth 65536 in
theorem w_case : (Jvm.Cond.and given_1 narrow_1).before args0 about1 = true := by decide +kernel
theorem w_applies : (headSpec (Jvm.Cond.code x code maxLocals ret :: tables_1) room_1).applies x e0.platform about1 = true :=
  (Spec.applies_iff w_frames).mpr ⟨w_running, w_runnable, w_alone, w_named, w_hears, w_ripe, w_room, w_tables⟩
theorem atStart : AtStart classFile x code maxLocals ret World_1 tables_1 room_1 Calls_1 rest_1 Pre_1 launch0 p0 e0 about1 theMethod args0 below0 :=
  ⟨lists_1, trivial, launch0.admits_env _ _ _, launch0.least_env, fairChoices_fair.cas, fairChoices_fair.clock, w_frames, w_args, w_heap, w_applies, trivial, trivial, w_case⟩
end start1
theorem witness_1 : WitnessClaimed_1 := ⟨start1.p0, start1.e0, start1.about1, start1.theMethod, start1.args0, start1.below0, start1.atStart⟩
end Jvm.Pilot.@@N@@
