import JvmDerived
import JvmDerived.Pilot.@@N@@Statement
import JvmDerived.Pilot.@@N@@Code
set_option linter.unusedVariables false
set_option linter.unusedSimpArgs false
@@BLOCK:NumsL.lean.txt@@
namespace Jvm.RoadKit
open Sem ClassFile Op Lib Jvm.Stand Jvm.Free Jvm.LawKit
section New
variable {p : Program} {l : Launch} {e : Env} {R : Room} {s : State} {m : MethodId} {args : Array Value} {below : List Frame} {meth : Method} {c : Code} {T : State} {locs : List Loc} {cells slots : Nat}
theorem retI (X : Stand p l e R s m args below meth c T locs cells slots) (hx : p.tables.exec = Jvm.exec) {pc : Nat} {Ls : Array Slot} {z : Int32} {rest : List Value} (hret : meth.sig.returnType = some .int) (hd : decode c.code pc = .ok (.ireturn, 1)) {fs : List Frame}
    (hl : ∀ (f : JFrame) (acts : List Action), f.method = m → f.locked = none → f.entered = [] → (doReturn e (T.setTop f) acts (some (.int z))).1 = T.setFrames fs) : Steps p.tables e below (T.setTop (mkF m pc Ls (.int z :: rest))) (T.setFrames fs) := by
  have hm' : T.vm.method? m = some meth := X.method'
  have hn : narrow .int (.int z) = .int z := rfl
  show Steps p.tables e below (T.setTop { method := m, pc := pc, locals := Ls, stack := _ :: rest, locked := none }) _
  jvm_step X.here [X.here.top, hx, hd, hm', hret, hn]
  first | (intro acts; rw [hl _ acts rfl rfl rfl]) | rw [hl _ _ rfl rfl rfl]
  exact Steps.refl _
end New
end Jvm.RoadKit
namespace Jvm.Pilot.@@N@@
open Jvm Jvm.ClassFile Sem Op Lib Jvm.Free Jvm.Stand Jvm.LawKit Jvm.RoadKit Bundle Jvm.Pilot.@@N@@.Jvm.D
section Own
variable {p : Program} {l : Launch} {e : Env} {R : Room} {s : State} {m : MethodId} {args : Array Value} {below : List Frame} {meth : Method} {c : Code} {T : State} {locs : List Loc} {cells slots : Nat}
/-- from U the run comes to an end that Q allows -/
def own_Go (p : Program) (e : Env) (below : List Frame) (s : State) (kc ks : Nat) (Q : Option Value → Heap → List Loc → Prop) (U : State) : Prop :=
  ∃ s₂ o, Steps p.tables e below U s₂ ∧ s₂.status = .running ∧ Ended s₂ below o ∧ ∃ v L, o = .returned v ∧ Q v s₂.heap L ∧ FrameEnd s o s₂ L kc ks
theorem own_step {kc ks : Nat} {Q : Option Value → Heap → List Loc → Prop} {U U' : State} (k : ∀ t, Steps p.tables e below U' t → Steps p.tables e below U t) (g : own_Go p e below s kc ks Q U') : own_Go p e below s kc ks Q U := by
  obtain ⟨s₂, o, h, r⟩ := g
  exact ⟨s₂, o, k _ h, r⟩
theorem own_ret {kc ks : Nat} {Q : Option Value → Heap → List Loc → Prop} {U : State} (X : Stand p l e R s m args below meth c T locs cells slots) {v : Option Value} (hv : meth.sig.returnType = none → v = none) (hlocks : meth.locks = false) (hk : cells ≤ kc) (hs : slots ≤ ks) (hq : Q v T.heap locs)
    (k : ∀ fs, (∀ (f : JFrame) (acts : List Action), f.method = m → f.locked = none → f.entered = [] → (doReturn e (T.setTop f) acts v).1 = T.setFrames fs) → Steps p.tables e below U (T.setFrames fs)) : own_Go p e below s kc ks Q U := by
  obtain ⟨fs, hr, hrun, hended, hW, hsame⟩ := X.leave (v := v) hv hlocks
  exact ⟨_, _, k fs hr, hrun, hended, v, locs, rfl, hq, ⟨_, rfl⟩, hW, hsame.mono hk hs⟩
theorem own_narR {t : FieldType} {v : Value} (h : v.isRef = true) : narrow t v = v := by cases v <;> first | (cases h; done) | (cases t <;> rfl)
theorem own_fitR {t : String} {v : Value} (h : v.isRef = true) : fits (.object t) v = true := by cases v <;> first | (cases h; done) | rfl
theorem own_at {h : Heap} {a : Addr} {k : Cell} (e : T.heap = h) (q : h[a]? = some k) : T.heap[a]? = some k := e ▸ q
theorem own_pl0 {h : Heap} : ∀ a ∈ ([] : List Addr), ∀ c : Cell, h[a]? = some c → c.vm.isStatics = false := fun _ q => nomatch q
theorem own_plE {Z : State} {h : Heap} {a : Addr} {C : String} {ws : List Addr} (E : Exa Z h a C) (r : ∀ x ∈ ws, ∀ c : Cell, h[x]? = some c → c.vm.isStatics = false) : ∀ x ∈ a :: ws, ∀ c : Cell, h[x]? = some c → c.vm.isStatics = false := fun x hx c hc => by
  rcases List.mem_cons.mp hx with rfl | q
  · obtain ⟨cell, k, h1, -, -, h4, -⟩ := E
    cases h1.symm.trans hc; exact h4
  · exact r x q c hc
theorem own_plF {Z : State} {h : Heap} {a : Addr} {C n d : String} {v : Value} {ws : List Addr} (E : Fld Z h a C n d v) (r : ∀ x ∈ ws, ∀ c : Cell, h[x]? = some c → c.vm.isStatics = false) : ∀ x ∈ a :: ws, ∀ c : Cell, h[x]? = some c → c.vm.isStatics = false := fun x hx c hc => by
  rcases List.mem_cons.mp hx with rfl | q
  · exact old_plain E c hc
  · exact r x q c hc
theorem own_plV {Z : State} {h : Heap} {a : Addr} {k : ClassId} {ty : FieldType} {z : Int32} {vs : List Value} {d : Value} {ws : List Addr} (E : Arv Z h a k ty z vs d) (r : ∀ x ∈ ws, ∀ c : Cell, h[x]? = some c → c.vm.isStatics = false) : ∀ x ∈ a :: ws, ∀ c : Cell, h[x]? = some c → c.vm.isStatics = false := fun x hx c hc => by
  rcases List.mem_cons.mp hx with rfl | q
  · obtain ⟨cl, A, -⟩ := E
    cases A.1.symm.trans hc; exact A.plain
  · exact r x q c hc
theorem own_sta_keep {Z : State} {h h' : Heap} {C n d : String} {w : Value} {ws : List Addr} (F : Sta Z h C n d w) (K : Keep h h' ws) (r : ∀ x ∈ ws, ∀ c : Cell, h[x]? = some c → c.vm.isStatics = false) : Sta Z h' C n d w := by
  obtain ⟨cf, i, k, f, st, cell, h1, h2, h3, h4, h5, h6, h7⟩ := F
  exact ⟨cf, i, k, f, st, cell, h1, h2, h3, h4, K.2.1 st cell h5 (fun q => by rw [r st q cell h5] at h6; cases h6), h6, h7⟩
end Own
def own_mix (z : Int64) : Int64 :=
  let a := (z ^^^ XT.ushrL z 30) * (-4658895280553007687)
  let b := (a ^^^ XT.ushrL a 27) * (-7723592293110705685)
  b ^^^ XT.ushrL b 31
def own_inv (a : Int64) : Int64 :=
  let x1 := a * (2 - a * a)
  let x2 := x1 * (2 - a * x1)
  let x3 := x2 * (2 - a * x2)
  let x4 := x3 * (2 - a * x3)
  x4 * (2 - a * x4)
def own_unmix (z : Int64) : Int64 :=
  let a := ((z ^^^ XT.ushrL z 31) ^^^ XT.ushrL z 62) * own_inv (-7723592293110705685)
  let b := ((a ^^^ XT.ushrL a 27) ^^^ XT.ushrL a 54) * own_inv (-4658895280553007687)
  (b ^^^ XT.ushrL b 30) ^^^ XT.ushrL b 60
theorem own_ushr_bv (x : Int64) (k : Nat) (y : Int32) (h : (y.toInt64.toUInt64 &&& Int64.toUInt64 63).toNat = k) (hk : k < 64) : (XT.ushrL x y).toBitVec = x.toBitVec >>> k := by
  unfold XT.ushrL
  show (x.toUInt64 >>> (y.toInt64.toUInt64 &&& Int64.toUInt64 63)).toBitVec = _
  rw [UInt64.toBitVec_shiftRight]
  apply BitVec.eq_of_toNat_eq
  have e : ((y.toInt64.toUInt64 &&& Int64.toUInt64 63).toBitVec % 64).toNat = k := by
    rw [BitVec.toNat_umod]
    show (y.toInt64.toUInt64 &&& Int64.toUInt64 63).toNat % _ = _
    rw [h]; exact Nat.mod_eq_of_lt hk
  rw [BitVec.ushiftRight_eq', e]
  rfl
theorem own_xs {w : Nat} (x : BitVec w) (s : Nat) (h : w ≤ s + s + s) : ((x ^^^ x >>> s) ^^^ ((x ^^^ x >>> s) >>> s)) ^^^ ((x ^^^ x >>> s) >>> (s + s)) = x := by
  rw [BitVec.ushiftRight_xor_distrib, BitVec.ushiftRight_xor_distrib, ← BitVec.shiftRight_add, ← BitVec.shiftRight_add]
  have : x >>> (s + (s + s)) = 0#w := by
    apply BitVec.eq_of_toNat_eq
    rw [BitVec.toNat_ushiftRight, Nat.shiftRight_eq_div_pow]
    have := x.isLt
    rw [Nat.div_eq_of_lt]; rfl
    calc x.toNat < 2 ^ w := this
      _ ≤ 2 ^ (s + (s + s)) := Nat.pow_le_pow_right (by decide) (by omega)
  rw [this]
  generalize x >>> s = a
  generalize x >>> (s + s) = b
  apply BitVec.eq_of_getLsbD_eq
  intro i hi
  simp only [BitVec.getLsbD_xor, BitVec.getLsbD_zero]
  cases x.getLsbD i <;> cases a.getLsbD i <;> cases b.getLsbD i <;> rfl
theorem own_xsL (x : Int64) (y z : Int32) (s : Nat) (h1 : (y.toInt64.toUInt64 &&& Int64.toUInt64 63).toNat = s) (h2 : (z.toInt64.toUInt64 &&& Int64.toUInt64 63).toNat = s + s) (h3 : s + s < 64) (h4 : 64 ≤ s + s + s) :
    ((x ^^^ XT.ushrL x y) ^^^ XT.ushrL (x ^^^ XT.ushrL x y) y) ^^^ XT.ushrL (x ^^^ XT.ushrL x y) z = x := by
  apply Int64.toBitVec_inj.mp
  rw [Int64.toBitVec_xor, Int64.toBitVec_xor, own_ushr_bv _ _ _ h1 (by omega), own_ushr_bv _ _ _ h2 h3, Int64.toBitVec_xor, own_ushr_bv _ _ _ h1 (by omega)]
  exact own_xs _ _ h4
theorem own_mulinv1 (x : Int64) : x * (-7723592293110705685) * own_inv (-7723592293110705685) = x := by
  rw [Int64.mul_assoc]
  have : (-7723592293110705685 : Int64) * own_inv (-7723592293110705685) = 1 := by decide +kernel
  rw [this, Int64.mul_one]
theorem own_mulinv2 (x : Int64) : x * (-4658895280553007687) * own_inv (-4658895280553007687) = x := by
  rw [Int64.mul_assoc]
  have : (-4658895280553007687 : Int64) * own_inv (-4658895280553007687) = 1 := by decide +kernel
  rw [this, Int64.mul_one]
theorem own_unmix_mix (z : Int64) : own_unmix (own_mix z) = z := by
  unfold own_unmix own_mix
  simp only []
  rw [own_xsL _ 31 62 31 (by decide) (by decide) (by decide) (by decide), own_mulinv1, own_xsL _ 27 54 27 (by decide) (by decide) (by decide) (by decide), own_mulinv2, own_xsL _ 30 60 30 (by decide) (by decide) (by decide) (by decide)]
def own_lrem (x y : Int64) : Int64 := x - (x / y) * y
def own_st (s : Int64) : Nat → Int64
  | 0 => s
  | n + 1 => own_st s n + (-7046029254386353131 : Int64)
def own_dr (c : Int64) : Int64 := XT.ushrL (own_mix c) 32
def own_lim (b : Int32) : Int64 := (4294967296 : Int64) - own_lrem (4294967296 : Int64) b.toInt64
def own_reach (lim s c : Int64) : Prop := ∃ n : Nat, c = own_st s (n + 1) ∧ ∀ i, i < n → ¬ own_dr (own_st s (i + 1)) < lim
theorem own_reach_start (lim s : Int64) : own_reach lim s (s + (-7046029254386353131 : Int64)) := ⟨0, rfl, fun i h => absurd h (Nat.not_lt_zero i)⟩
theorem own_reach_next {lim s c : Int64} (h : own_reach lim s c) (q : ¬ own_dr c < lim) : own_reach lim s (c + (-7046029254386353131 : Int64)) := by
  obtain ⟨n, rfl, h⟩ := h
  refine ⟨n + 1, rfl, fun i hi => ?_⟩
  rcases Nat.lt_succ_iff_lt_or_eq.mp hi with hi | rfl
  · exact h i hi
  · exact q
theorem own_st_eq (s : Int64) : ∀ n : Nat, own_st s n = s + Int64.ofNat n * (-7046029254386353131 : Int64)
  | 0 => by show s = s + 0 * _; rw [Int64.zero_mul, Int64.add_zero]
  | n + 1 => by
    show own_st s n + _ = _
    rw [own_st_eq s n, Int64.ofNat_add, Int64.add_mul, Int64.add_assoc]
    congr 1
theorem own_hits (s : Int64) : ∃ d : Nat, own_st s d = 0 := by
  refine ⟨((-s) * own_inv (-7046029254386353131)).toBitVec.toNat, ?_⟩
  rw [own_st_eq]
  have e : Int64.ofNat ((-s) * own_inv (-7046029254386353131)).toBitVec.toNat = (-s) * own_inv (-7046029254386353131) := by
    apply Int64.toBitVec_inj.mp
    apply BitVec.eq_of_toNat_eq
    show (BitVec.ofNat 64 _).toNat = _
    rw [BitVec.toNat_ofNat]
    exact Nat.mod_eq_of_lt (BitVec.isLt _)
  rw [e, Int64.mul_assoc]
  have : own_inv (-7046029254386353131) * (-7046029254386353131 : Int64) = 1 := by decide +kernel
  rw [this, Int64.mul_one]
  exact Int64.add_right_neg s
theorem own_st_z (s : Int64) : own_st s 0 = s := rfl
theorem own_st_s (s : Int64) (n : Nat) : own_st s (n + 1) = own_st s n + (-7046029254386353131 : Int64) := rfl
theorem own_st_succ (s : Int64) (n : Nat) : own_st s (n + 1) = own_st (s + (-7046029254386353131 : Int64)) n := by
  induction n with
  | zero => rw [own_st_s, own_st_z, own_st_z]
  | succ n ih => rw [own_st_s, ih, ← own_st_s]
theorem own_dr_zero : own_dr 0 = 0 := by decide +kernel
theorem own_dr_range (c : Int64) : 0 ≤ (own_dr c).toInt ∧ (own_dr c).toInt < 4294967296 := by
  have h := own_ushr_bv (own_mix c) 32 32 (by decide) (by decide)
  have h2 : (own_dr c).toBitVec.toNat = (own_mix c).toBitVec.toNat / 4294967296 := by
    unfold own_dr
    rw [h, BitVec.toNat_ushiftRight, Nat.shiftRight_eq_div_pow]
  have h3 := (own_mix c).toBitVec.isLt
  have h4 : (own_dr c).toInt = (own_dr c).toBitVec.toNat := by
    show (own_dr c).toBitVec.toInt = _
    rw [BitVec.toInt_eq_toNat_cond]
    split <;> omega
  omega
theorem own_b64 {b : Int32} (hb : 1 ≤ b.toInt) : b.toInt64.toInt = b.toInt := Int32.toInt_toInt64 b
theorem own_lim_eq {b : Int32} (hb : 1 ≤ b.toInt) : (own_lim b).toInt = 4294967296 - 4294967296 % b.toInt := by
  have h1 := b.toInt_lt
  have e : (4294967296 : Int64).toInt = 4294967296 := rfl
  have h2 : (own_lrem (4294967296 : Int64) b.toInt64).toInt = 4294967296 % b.toInt := by
    unfold own_lrem
    rw [Jvm.Kit.i64_rem_nonneg (by rw [e]; decide), e, own_b64 hb]
  have h3 : 0 ≤ 4294967296 % b.toInt := Int.emod_nonneg _ (by omega)
  have h4 : 4294967296 % b.toInt < b.toInt := Int.emod_lt_of_pos _ (by omega)
  unfold own_lim
  rw [Jvm.Kit.i64_sub (by omega) (by omega), h2, e]
theorem own_lim_pos {b : Int32} (hb : 1 ≤ b.toInt) : own_dr 0 < own_lim b := by
  rw [own_dr_zero, Int64.lt_iff_toInt_lt, own_lim_eq hb]
  have h1 := b.toInt_lt
  have h4 : 4294967296 % b.toInt < b.toInt := Int.emod_lt_of_pos _ (by omega)
  have : (0 : Int64).toInt = 0 := rfl
  omega
theorem own_div {b : Int32} (hb : 1 ≤ b.toInt) {x : Int64} (hx : 0 ≤ x.toInt) : (x / b.toInt64).toInt = x.toInt / b.toInt := by
  rw [Jvm.Kit.i64_div (by omega), own_b64 hb, Int.tdiv_eq_ediv_of_nonneg hx]
theorem own_acc {b : Int32} (hb : 1 ≤ b.toInt) (c : Int64) : (own_dr c / b.toInt64) < ((4294967296 : Int64) / b.toInt64) ↔ own_dr c < own_lim b := by
  obtain ⟨h1, h2⟩ := own_dr_range c
  have e : (4294967296 : Int64).toInt = 4294967296 := rfl
  rw [Int64.lt_iff_toInt_lt, Int64.lt_iff_toInt_lt, own_lim_eq hb, own_div hb h1, own_div hb (by rw [e]; decide), e]
  have h3 := Int.mul_ediv_add_emod 4294967296 b.toInt
  rw [Int.ediv_lt_iff_lt_mul (by omega)]
  rw [Int.mul_comm] at h3
  constructor <;> intro h <;> omega
theorem own_c1 {lim s c : Int64} (h : own_reach lim s c) (q : own_dr (own_st s 1) < lim) : c = own_st s 1 := by
  obtain ⟨n, rfl, h⟩ := h
  rcases Nat.eq_zero_or_pos n with rfl | hn
  · rfl
  · exact absurd q (h 0 hn)
theorem own_c2 {lim s c : Int64} (h : own_reach lim s c) (a : own_dr c < lim) (q1 : ¬ own_dr (own_st s 1) < lim) (q : own_dr (own_st s 2) < lim) : c = own_st s 2 := by
  obtain ⟨n, e, h⟩ := h
  have hn : n = 0 ∨ n = 1 ∨ 1 < n := by omega
  rcases hn with rfl | rfl | hn
  · rw [e] at a; exact absurd a q1
  · exact e
  · exact absurd q (h 1 hn)
theorem own_c3 {lim s c : Int64} (h : own_reach lim s c) (a : own_dr c < lim) (q1 : ¬ own_dr (own_st s 1) < lim) (q2 : ¬ own_dr (own_st s 2) < lim) (q : own_dr (own_st s 3) < lim) : c = own_st s 3 := by
  obtain ⟨n, e, h⟩ := h
  have hn : n = 0 ∨ n = 1 ∨ n = 2 ∨ 2 < n := by omega
  rcases hn with rfl | rfl | rfl | hn
  · rw [e] at a; exact absurd a q1
  · rw [e] at a; exact absurd a q2
  · exact e
  · exact absurd q (h 2 hn)
def own_r (c : Int64) (b : Int32) : Int32 := (own_lrem (own_dr c) b.toInt64).toInt32
theorem own_r_range {b : Int32} (hb : 1 ≤ b.toInt) (c : Int64) : 0 ≤ (own_r c b).toInt ∧ (own_r c b).toInt < b.toInt := by
  obtain ⟨h1, h2⟩ := own_dr_range c
  have hb2 := b.toInt_lt
  have e : (own_lrem (own_dr c) b.toInt64).toInt = (own_dr c).toInt % b.toInt := by
    unfold own_lrem; rw [Jvm.Kit.i64_rem_nonneg h1, own_b64 hb]
  have h3 : 0 ≤ (own_dr c).toInt % b.toInt := Int.emod_nonneg _ (by omega)
  have h4 : (own_dr c).toInt % b.toInt < b.toInt := Int.emod_lt_of_pos _ (by omega)
  have e2 : (own_r c b).toInt = (own_dr c).toInt % b.toInt := by
    unfold own_r
    rw [Int64.toInt_toInt32, e, Int.bmod_eq_of_le (by omega) (by omega)]
  omega
theorem own_r0 {b : Int32} (hb : 1 ≤ b.toInt) (c : Int64) : ¬ own_r c b < 0 := by
  rw [Int32.lt_iff_toInt_lt]; have := (own_r_range hb c).1; have : (0 : Int32).toInt = 0 := rfl; omega
theorem own_rb {b : Int32} (hb : 1 ≤ b.toInt) (c : Int64) : own_r c b < b := by
  rw [Int32.lt_iff_toInt_lt]; exact (own_r_range hb c).2
theorem own_nz {b : Int32} (hb : 1 ≤ b.toInt) : b.toInt64 ≠ 0 := fun q => by
  have := own_b64 hb; rw [q] at this; have e : (0 : Int64).toInt = 0 := rfl; omega
theorem own_bd {x k b : Int32} (h : XT.ushr (x &&& 2147483647) (k &&& 31) = b) (n : ¬ b = 0) : 1 ≤ b.toInt := by
  have h1 := Jvm.Kit.i32_mask x 2147483647 (k := 31) (by decide) (by decide)
  have h0 : 0 ≤ (x &&& 2147483647) := by rw [Int32.le_iff_toInt_le]; have : (0 : Int32).toInt = 0 := rfl; omega
  have hk : ((k &&& 31) &&& 31).toUInt32.toNat < 32 := by
    have : ((k &&& 31) &&& 31).toBitVec.toNat < 32 := by
      rw [Int32.toBitVec_and, BitVec.toNat_and]
      have : (k &&& 31).toBitVec.toNat &&& (31 : Int32).toBitVec.toNat ≤ 31 := Nat.and_le_right
      omega
    exact this
  have e := Jvm.Kit.i32_iushr h0 (n := ((k &&& 31) &&& 31).toUInt32) rfl hk
  have e' : b.toInt = (x &&& 2147483647).toInt / 2 ^ ((k &&& 31) &&& 31).toUInt32.toNat := by rw [← h]; exact e
  have nn : 0 ≤ b.toInt := by rw [e']; exact Int.ediv_nonneg (by omega) (Int.le_of_lt (Int.pow_pos (by decide)))
  have nz : b.toInt ≠ 0 := fun q => n (Int32.toInt_inj.mp q)
  omega
theorem own_pn0 : plainName "com/example/eigentuple/eigentuple/io/SplitMix" = true := by first | (simp [plainName, overriddenIn]; done) | decide +kernel
theorem own_d1_0 : decode prog_4_method_1_code 0 = .ok (.aload_n 0, 1) := by decide +kernel
theorem own_d1_1 : decode prog_4_method_1_code 1 = .ok (.invokespecial 1, 3) := by decide +kernel
theorem own_d1_4 : decode prog_4_method_1_code 4 = .ok (.aload_n 0, 1) := by decide +kernel
theorem own_d1_5 : decode prog_4_method_1_code 5 = .ok (.lload_n 1, 1) := by decide +kernel
theorem own_d1_6 : decode prog_4_method_1_code 6 = .ok (.putfield 7, 3) := by decide +kernel
theorem own_d1_9 : decode prog_4_method_1_code 9 = .ok (.return_, 1) := by decide +kernel
def own_Q_ini (Z : State) (a1 : Addr) (x1 : Int64) (c1 : Int64) (h0 : Heap) (n0 : Nat) (v : Option Value) (h : Heap) (L : List Loc) : Prop := v = none ∧ Fr n0 L ∧ Keep h0 h [a1] ∧ (Fld Z h a1 "com/example/eigentuple/eigentuple/io/SplitMix" "state" "J" (.long x1)) ∧ (Exa Z h a1 "com/example/eigentuple/eigentuple/io/SplitMix")
set_option maxRecDepth 65536 in
set_option maxHeartbeats 40000000 in
theorem own_m_ini (l : Launch) (Z : State) (a0 : Array Value) (hw : ∀ d ∈ tables_1, d.before a0 Z = true) (ws : List Jvm.Cond) (a1 : Addr) (x1 : Int64) (c1 : Int64) (h0 : Heap) (n0 : Nat) (Z0 : n0 ≤ h0.size) (g_a1 : n0 ≤ a1) (F1 : Fld Z h0 a1 "com/example/eigentuple/eigentuple/io/SplitMix" "state" "J" (.long c1)) (E1 : Exa Z h0 a1 "com/example/eigentuple/eigentuple/io/SplitMix") :
    MetFree l (⟨"com/example/eigentuple/eigentuple/io/SplitMix", "<init>", "(J)V"⟩ : MethodName) (head1 (Jvm.Cond.code (⟨"com/example/eigentuple/eigentuple/io/SplitMix", "<init>", "(J)V"⟩ : MethodName) prog_4_method_1_code 3 none :: ws) ({ frames := 1, cells := 0, slots := 0, locals := 12 } : Room)) (fun a U => a = #[(.ref a1), (.long x1)] ∧ Z.Warmed39 U.vm ∧ U.heap = h0) (fun _ _ _ _ _ => True) (fun _ U o U' => ∃ v L, o = .returned v ∧ own_Q_ini Z a1 x1 c1 h0 n0 v U'.heap L ∧ FrameEnd U o U' L ({ frames := 1, cells := 0, slots := 0, locals := 12 } : Room).cells ({ frames := 1, cells := 0, slots := 0, locals := 12 } : Room).slots) := by
  refine MetFree.of_bodySF (plainFor_of_name own_pn0) hisR ?_
  intro p e s m args below meth c s₁ Bd hml0 hP hK
  obtain ⟨rfl, hZ, hh⟩ := hP
  have hx := Bd.exec
  have hby := Bd.bytes
  have hml : c.maxLocals = 3 := hml0
  have hown : s.vm.findClass "com/example/eigentuple/eigentuple/io/SplitMix" = some m.cls := findClass_of_methodNamed Bd.named
  have hnm := (name_of_methodNamed Bd.named Bd.method).1
  have X0 : Stand p l e ({ frames := 1, cells := 0, slots := 0, locals := 12 } : Room) s m #[(.ref a1), (.long x1)] below meth c s₁ [] 0 0 := Stand.of_body Bd
  have e0 : s₁.heap = h0 := by rw [← hh, Bd.state]; rfl
  have N0 := Fr.nil n0
  have K0 : Keep h0 h0 [a1] := Keep.refl _ _
  show own_Go p e below s ({ frames := 1, cells := 0, slots := 0, locals := 12 } : Room).cells ({ frames := 1, cells := 0, slots := 0, locals := 12 } : Room).slots (own_Q_ini Z a1 x1 c1 h0 n0) (s₁.setTop (entryFrame m #[(.ref a1), (.long x1)] 3))
  have ef : entryFrame m #[(.ref a1), (.long x1)] 3 = (mkF m 0 #[.val (.ref a1), .val (.long x1), .second] []) := by first | rfl | (simp [entryFrame, mkF, argsToLocals, Value.category, maxLocals]; done)
  rw [ef]
  show own_Go p e below s _ _ _ (s₁.setTop (mkF m 0 #[.val (.ref a1), .val (.long x1), .second] []))
  refine own_step (U' := (s₁.setTop (mkF m 1 #[.val (.ref a1), .val (.long x1), .second] [(.ref a1)]))) (fun t ht => XS.aloadN X0.here hx rfl (hb hby own_d1_0) rfl rfl ht) ?_
  obtain ⟨T1, X1, e1, st1⟩ := initO X0 hx hZ hown (hw _ (List.mem_of_getElem? (i := 7) rfl)) (hw _ (List.mem_of_getElem? (i := 8) rfl)) (hw _ (List.mem_of_getElem? (i := 9) rfl)) e0 (g := (mkF m 1 #[.val (.ref a1), .val (.long x1), .second] [(.ref a1)])) rfl (by rw [hml]; rfl) rfl (hb hby own_d1_1) (by decide) (W := 0) (by show 2 * 0 + _ ≤ _; exact Nat.le_of_eq rfl) (by decide)
  refine own_step (U' := (T1.setTop (mkF m 4 #[.val (.ref a1), .val (.long x1), .second] []))) (fun t ht => st1 _ ht) ?_
  refine own_step (U' := (T1.setTop (mkF m 5 #[.val (.ref a1), .val (.long x1), .second] [(.ref a1)]))) (fun t ht => XS.aloadN X1.here hx rfl (hb hby own_d1_4) rfl rfl ht) ?_
  refine own_step (U' := (T1.setTop (mkF m 6 #[.val (.ref a1), .val (.long x1), .second] [(.long x1), (.ref a1)]))) (fun t ht => XT.lloadN X1.here hx rfl (hb hby own_d1_5) rfl ht) ?_
  obtain ⟨T2, h2, X2, e2, W2, st2⟩ := putF X1 hx hZ hown (host := "") (Or.inl (hw _ (List.mem_of_getElem? (i := 10) rfl))) Via.refl e1 F1 E1 (Or.inl (hw _ (List.mem_of_getElem? (i := 11) rfl))) (hw _ (List.mem_of_getElem? (i := 2) rfl)) (ty := .long) (by decide) rfl rfl (g := (mkF m 6 #[.val (.ref a1), .val (.long x1), .second] [(.long x1), (.ref a1)])) rfl rfl (hb hby own_d1_6)
  have f2_1 : Exa Z h2 a1 "com/example/eigentuple/eigentuple/io/SplitMix" := E1.wr W2
  have F2 := F1.same W2
  have N2 := Fr.snoc X2 N0 g_a1
  have K2 : Keep h0 h2 [a1] := K0.wr W2 (Or.inl (by simp))
  refine own_step (U' := (T2.setTop (mkF m 9 #[.val (.ref a1), .val (.long x1), .second] []))) (fun t ht => st2 _ ht) ?_
  refine own_ret X2 (v := none) (fun _ => rfl) Bd.notSynchronized (by decide) (by decide) ?_ (fun fs hr => X2.returnOut hx Bd.returns (hb hby own_d1_9) hr)
  show own_Q_ini Z a1 x1 c1 h0 n0 _ T2.heap _
  rw [e2]
  exact ⟨rfl, N2, K2, F2, f2_1⟩
theorem own_d4_0 : decode prog_4_method_2_code 0 = .ok (.aload_n 0, 1) := by decide +kernel
theorem own_d4_1 : decode prog_4_method_2_code 1 = .ok (.dup, 1) := by decide +kernel
theorem own_d4_2 : decode prog_4_method_2_code 2 = .ok (.getfield 7, 3) := by decide +kernel
theorem own_d4_5 : decode prog_4_method_2_code 5 = .ok (.ldc2_w 13, 3) := by decide +kernel
theorem own_d4_8 : decode prog_4_method_2_code 8 = .ok (.ladd, 1) := by decide +kernel
theorem own_d4_9 : decode prog_4_method_2_code 9 = .ok (.putfield 7, 3) := by decide +kernel
theorem own_d4_12 : decode prog_4_method_2_code 12 = .ok (.aload_n 0, 1) := by decide +kernel
theorem own_d4_13 : decode prog_4_method_2_code 13 = .ok (.getfield 7, 3) := by decide +kernel
theorem own_d4_16 : decode prog_4_method_2_code 16 = .ok (.lstore_n 1, 1) := by decide +kernel
theorem own_d4_17 : decode prog_4_method_2_code 17 = .ok (.lload_n 1, 1) := by decide +kernel
theorem own_d4_18 : decode prog_4_method_2_code 18 = .ok (.lload_n 1, 1) := by decide +kernel
theorem own_d4_19 : decode prog_4_method_2_code 19 = .ok (.bipush 30, 2) := by decide +kernel
theorem own_d4_21 : decode prog_4_method_2_code 21 = .ok (.lushr, 1) := by decide +kernel
theorem own_d4_22 : decode prog_4_method_2_code 22 = .ok (.lxor, 1) := by decide +kernel
theorem own_d4_23 : decode prog_4_method_2_code 23 = .ok (.ldc2_w 15, 3) := by decide +kernel
theorem own_d4_26 : decode prog_4_method_2_code 26 = .ok (.lmul, 1) := by decide +kernel
theorem own_d4_27 : decode prog_4_method_2_code 27 = .ok (.lstore_n 1, 1) := by decide +kernel
theorem own_d4_28 : decode prog_4_method_2_code 28 = .ok (.lload_n 1, 1) := by decide +kernel
theorem own_d4_29 : decode prog_4_method_2_code 29 = .ok (.lload_n 1, 1) := by decide +kernel
theorem own_d4_30 : decode prog_4_method_2_code 30 = .ok (.bipush 27, 2) := by decide +kernel
theorem own_d4_32 : decode prog_4_method_2_code 32 = .ok (.lushr, 1) := by decide +kernel
theorem own_d4_33 : decode prog_4_method_2_code 33 = .ok (.lxor, 1) := by decide +kernel
theorem own_d4_34 : decode prog_4_method_2_code 34 = .ok (.ldc2_w 17, 3) := by decide +kernel
theorem own_d4_37 : decode prog_4_method_2_code 37 = .ok (.lmul, 1) := by decide +kernel
theorem own_d4_38 : decode prog_4_method_2_code 38 = .ok (.lstore_n 1, 1) := by decide +kernel
theorem own_d4_39 : decode prog_4_method_2_code 39 = .ok (.lload_n 1, 1) := by decide +kernel
theorem own_d4_40 : decode prog_4_method_2_code 40 = .ok (.lload_n 1, 1) := by decide +kernel
theorem own_d4_41 : decode prog_4_method_2_code 41 = .ok (.bipush 31, 2) := by decide +kernel
theorem own_d4_43 : decode prog_4_method_2_code 43 = .ok (.lushr, 1) := by decide +kernel
theorem own_d4_44 : decode prog_4_method_2_code 44 = .ok (.lxor, 1) := by decide +kernel
theorem own_d4_45 : decode prog_4_method_2_code 45 = .ok (.lreturn, 1) := by decide +kernel
def own_Q_nl (Z : State) (a1 : Addr) (c1 : Int64) (h0 : Heap) (n0 : Nat) (v : Option Value) (h : Heap) (L : List Loc) : Prop := v = some (.long (own_mix (c1 + (-7046029254386353131 : Int64)))) ∧ Fr n0 L ∧ Keep h0 h [a1] ∧ (Fld Z h a1 "com/example/eigentuple/eigentuple/io/SplitMix" "state" "J" (.long (c1 + (-7046029254386353131 : Int64)))) ∧ (Exa Z h a1 "com/example/eigentuple/eigentuple/io/SplitMix")
set_option maxRecDepth 65536 in
set_option maxHeartbeats 40000000 in
theorem own_m_nl (l : Launch) (Z : State) (a0 : Array Value) (hw : ∀ d ∈ tables_1, d.before a0 Z = true) (ws : List Jvm.Cond) (a1 : Addr) (c1 : Int64) (h0 : Heap) (n0 : Nat) (Z0 : n0 ≤ h0.size) (g_a1 : n0 ≤ a1) (F1 : Fld Z h0 a1 "com/example/eigentuple/eigentuple/io/SplitMix" "state" "J" (.long c1)) (E1 : Exa Z h0 a1 "com/example/eigentuple/eigentuple/io/SplitMix") :
    MetFree l (⟨"com/example/eigentuple/eigentuple/io/SplitMix", "nextLong", "()J"⟩ : MethodName) (head1 (Jvm.Cond.code (⟨"com/example/eigentuple/eigentuple/io/SplitMix", "nextLong", "()J"⟩ : MethodName) prog_4_method_2_code 3 (some .long) :: ws) ({ frames := 0, cells := 0, slots := 0, locals := 0 } : Room)) (fun a U => a = #[(.ref a1)] ∧ Z.Warmed39 U.vm ∧ U.heap = h0) (fun _ _ _ _ _ => True) (fun _ U o U' => ∃ v L, o = .returned v ∧ own_Q_nl Z a1 c1 h0 n0 v U'.heap L ∧ FrameEnd U o U' L ({ frames := 0, cells := 0, slots := 0, locals := 0 } : Room).cells ({ frames := 0, cells := 0, slots := 0, locals := 0 } : Room).slots) := by
  refine MetFree.of_bodySF (plainFor_of_name own_pn0) hisR ?_
  intro p e s m args below meth c s₁ Bd hml0 hP hK
  obtain ⟨rfl, hZ, hh⟩ := hP
  have hx := Bd.exec
  have hby := Bd.bytes
  have hml : c.maxLocals = 3 := hml0
  have hown : s.vm.findClass "com/example/eigentuple/eigentuple/io/SplitMix" = some m.cls := findClass_of_methodNamed Bd.named
  have hnm := (name_of_methodNamed Bd.named Bd.method).1
  have X0 : Stand p l e ({ frames := 0, cells := 0, slots := 0, locals := 0 } : Room) s m #[(.ref a1)] below meth c s₁ [] 0 0 := Stand.of_body Bd
  have e0 : s₁.heap = h0 := by rw [← hh, Bd.state]; rfl
  have N0 := Fr.nil n0
  have K0 : Keep h0 h0 [a1] := Keep.refl _ _
  show own_Go p e below s ({ frames := 0, cells := 0, slots := 0, locals := 0 } : Room).cells ({ frames := 0, cells := 0, slots := 0, locals := 0 } : Room).slots (own_Q_nl Z a1 c1 h0 n0) (s₁.setTop (entryFrame m #[(.ref a1)] 3))
  have ef : entryFrame m #[(.ref a1)] 3 = (mkF m 0 #[.val (.ref a1), .unset, .unset] []) := by first | rfl | (simp [entryFrame, mkF, argsToLocals, Value.category, maxLocals]; done)
  rw [ef]
  show own_Go p e below s _ _ _ (s₁.setTop (mkF m 0 #[.val (.ref a1), .unset, .unset] []))
  refine own_step (U' := (s₁.setTop (mkF m 1 #[.val (.ref a1), .unset, .unset] [(.ref a1)]))) (fun t ht => XS.aloadN X0.here hx rfl (hb hby own_d4_0) rfl rfl ht) ?_
  refine own_step (U' := (s₁.setTop (mkF m 2 #[.val (.ref a1), .unset, .unset] [(.ref a1), (.ref a1)]))) (fun t ht => XS.dup X0.here hx rfl (hb hby own_d4_1) rfl rfl ht) ?_
  obtain ⟨T3, X3, e3, st3⟩ := getF X0 hx hZ hown (host := "") (Or.inl (hw _ (List.mem_of_getElem? (i := 10) rfl))) Via.refl e0 F1 (g := (mkF m 2 #[.val (.ref a1), .unset, .unset] [(.ref a1), (.ref a1)])) rfl rfl (hb hby own_d4_2)
  refine own_step (U' := (T3.setTop (mkF m 5 #[.val (.ref a1), .unset, .unset] [(.long c1), (.ref a1)]))) (fun t ht => st3 _ ht) ?_
  refine own_step (U' := (T3.setTop (mkF m 8 #[.val (.ref a1), .unset, .unset] [(.long (-7046029254386353131 : Int64)), (.long c1), (.ref a1)]))) (fun t ht => X3.ldc2Long hx hown (mvT hZ (hw _ (List.mem_of_getElem? (i := 23) rfl))) (g := (mkF m 5 #[.val (.ref a1), .unset, .unset] [(.long c1), (.ref a1)])) rfl (hb hby own_d4_5) _ ht) ?_
  refine own_step (U' := (T3.setTop (mkF m 9 #[.val (.ref a1), .unset, .unset] [(.long (c1 + (-7046029254386353131 : Int64))), (.ref a1)]))) (fun t ht => XT.ladd X3.here hx rfl (hb hby own_d4_8) rfl ht) ?_
  obtain ⟨T4, h4, X4, e4, W4, st4⟩ := putF X3 hx hZ hown (host := "") (Or.inl (hw _ (List.mem_of_getElem? (i := 10) rfl))) Via.refl e3 F1 E1 (Or.inl (hw _ (List.mem_of_getElem? (i := 11) rfl))) (hw _ (List.mem_of_getElem? (i := 2) rfl)) (ty := .long) (by decide) rfl rfl (g := (mkF m 9 #[.val (.ref a1), .unset, .unset] [(.long (c1 + (-7046029254386353131 : Int64))), (.ref a1)])) rfl rfl (hb hby own_d4_9)
  have f4_1 : Exa Z h4 a1 "com/example/eigentuple/eigentuple/io/SplitMix" := E1.wr W4
  have F4 := F1.same W4
  have N4 := Fr.snoc X4 N0 g_a1
  have K4 : Keep h0 h4 [a1] := K0.wr W4 (Or.inl (by simp))
  refine own_step (U' := (T4.setTop (mkF m 12 #[.val (.ref a1), .unset, .unset] []))) (fun t ht => st4 _ ht) ?_
  refine own_step (U' := (T4.setTop (mkF m 13 #[.val (.ref a1), .unset, .unset] [(.ref a1)]))) (fun t ht => XS.aloadN X4.here hx rfl (hb hby own_d4_12) rfl rfl ht) ?_
  obtain ⟨T5, X5, e5, st5⟩ := getF X4 hx hZ hown (host := "") (Or.inl (hw _ (List.mem_of_getElem? (i := 10) rfl))) Via.refl e4 F4 (g := (mkF m 13 #[.val (.ref a1), .unset, .unset] [(.ref a1)])) rfl rfl (hb hby own_d4_13)
  refine own_step (U' := (T5.setTop (mkF m 16 #[.val (.ref a1), .unset, .unset] [(.long (c1 + (-7046029254386353131 : Int64)))]))) (fun t ht => st5 _ ht) ?_
  refine own_step (U' := (T5.setTop (mkF m 17 #[.val (.ref a1), .val (.long (c1 + (-7046029254386353131 : Int64))), .second] []))) (fun t ht => XT.lstoreN X5.here hx rfl (hb hby own_d4_16) rfl (l' := #[.val (.ref a1), .val (.long (c1 + (-7046029254386353131 : Int64))), .second]) rfl ht) ?_
  refine own_step (U' := (T5.setTop (mkF m 18 #[.val (.ref a1), .val (.long (c1 + (-7046029254386353131 : Int64))), .second] [(.long (c1 + (-7046029254386353131 : Int64)))]))) (fun t ht => XT.lloadN X5.here hx rfl (hb hby own_d4_17) rfl ht) ?_
  refine own_step (U' := (T5.setTop (mkF m 19 #[.val (.ref a1), .val (.long (c1 + (-7046029254386353131 : Int64))), .second] [(.long (c1 + (-7046029254386353131 : Int64))), (.long (c1 + (-7046029254386353131 : Int64)))]))) (fun t ht => XT.lloadN X5.here hx rfl (hb hby own_d4_18) rfl ht) ?_
  refine own_step (U' := (T5.setTop (mkF m 21 #[.val (.ref a1), .val (.long (c1 + (-7046029254386353131 : Int64))), .second] [(.int (30 : Int32)), (.long (c1 + (-7046029254386353131 : Int64))), (.long (c1 + (-7046029254386353131 : Int64)))]))) (fun t ht => XS.bipush X5.here hx rfl (hb hby own_d4_19) ht) ?_
  refine own_step (U' := (T5.setTop (mkF m 22 #[.val (.ref a1), .val (.long (c1 + (-7046029254386353131 : Int64))), .second] [(.long (XT.ushrL (c1 + (-7046029254386353131 : Int64)) (30 : Int32))), (.long (c1 + (-7046029254386353131 : Int64)))]))) (fun t ht => XT.lushr X5.here hx rfl (hb hby own_d4_21) rfl ht) ?_
  refine own_step (U' := (T5.setTop (mkF m 23 #[.val (.ref a1), .val (.long (c1 + (-7046029254386353131 : Int64))), .second] [(.long ((c1 + (-7046029254386353131 : Int64)) ^^^ (XT.ushrL (c1 + (-7046029254386353131 : Int64)) (30 : Int32))))]))) (fun t ht => XT.lxor X5.here hx rfl (hb hby own_d4_22) rfl ht) ?_
  refine own_step (U' := (T5.setTop (mkF m 26 #[.val (.ref a1), .val (.long (c1 + (-7046029254386353131 : Int64))), .second] [(.long (-4658895280553007687 : Int64)), (.long ((c1 + (-7046029254386353131 : Int64)) ^^^ (XT.ushrL (c1 + (-7046029254386353131 : Int64)) (30 : Int32))))]))) (fun t ht => X5.ldc2Long hx hown (mvT hZ (hw _ (List.mem_of_getElem? (i := 24) rfl))) (g := (mkF m 23 #[.val (.ref a1), .val (.long (c1 + (-7046029254386353131 : Int64))), .second] [(.long ((c1 + (-7046029254386353131 : Int64)) ^^^ (XT.ushrL (c1 + (-7046029254386353131 : Int64)) (30 : Int32))))])) rfl (hb hby own_d4_23) _ ht) ?_
  refine own_step (U' := (T5.setTop (mkF m 27 #[.val (.ref a1), .val (.long (c1 + (-7046029254386353131 : Int64))), .second] [(.long (((c1 + (-7046029254386353131 : Int64)) ^^^ (XT.ushrL (c1 + (-7046029254386353131 : Int64)) (30 : Int32))) * (-4658895280553007687 : Int64)))]))) (fun t ht => XT.lmul X5.here hx rfl (hb hby own_d4_26) rfl ht) ?_
  refine own_step (U' := (T5.setTop (mkF m 28 #[.val (.ref a1), .val (.long (((c1 + (-7046029254386353131 : Int64)) ^^^ (XT.ushrL (c1 + (-7046029254386353131 : Int64)) (30 : Int32))) * (-4658895280553007687 : Int64))), .second] []))) (fun t ht => XT.lstoreN X5.here hx rfl (hb hby own_d4_27) rfl (l' := #[.val (.ref a1), .val (.long (((c1 + (-7046029254386353131 : Int64)) ^^^ (XT.ushrL (c1 + (-7046029254386353131 : Int64)) (30 : Int32))) * (-4658895280553007687 : Int64))), .second]) rfl ht) ?_
  refine own_step (U' := (T5.setTop (mkF m 29 #[.val (.ref a1), .val (.long (((c1 + (-7046029254386353131 : Int64)) ^^^ (XT.ushrL (c1 + (-7046029254386353131 : Int64)) (30 : Int32))) * (-4658895280553007687 : Int64))), .second] [(.long (((c1 + (-7046029254386353131 : Int64)) ^^^ (XT.ushrL (c1 + (-7046029254386353131 : Int64)) (30 : Int32))) * (-4658895280553007687 : Int64)))]))) (fun t ht => XT.lloadN X5.here hx rfl (hb hby own_d4_28) rfl ht) ?_
  refine own_step (U' := (T5.setTop (mkF m 30 #[.val (.ref a1), .val (.long (((c1 + (-7046029254386353131 : Int64)) ^^^ (XT.ushrL (c1 + (-7046029254386353131 : Int64)) (30 : Int32))) * (-4658895280553007687 : Int64))), .second] [(.long (((c1 + (-7046029254386353131 : Int64)) ^^^ (XT.ushrL (c1 + (-7046029254386353131 : Int64)) (30 : Int32))) * (-4658895280553007687 : Int64))), (.long (((c1 + (-7046029254386353131 : Int64)) ^^^ (XT.ushrL (c1 + (-7046029254386353131 : Int64)) (30 : Int32))) * (-4658895280553007687 : Int64)))]))) (fun t ht => XT.lloadN X5.here hx rfl (hb hby own_d4_29) rfl ht) ?_
  refine own_step (U' := (T5.setTop (mkF m 32 #[.val (.ref a1), .val (.long (((c1 + (-7046029254386353131 : Int64)) ^^^ (XT.ushrL (c1 + (-7046029254386353131 : Int64)) (30 : Int32))) * (-4658895280553007687 : Int64))), .second] [(.int (27 : Int32)), (.long (((c1 + (-7046029254386353131 : Int64)) ^^^ (XT.ushrL (c1 + (-7046029254386353131 : Int64)) (30 : Int32))) * (-4658895280553007687 : Int64))), (.long (((c1 + (-7046029254386353131 : Int64)) ^^^ (XT.ushrL (c1 + (-7046029254386353131 : Int64)) (30 : Int32))) * (-4658895280553007687 : Int64)))]))) (fun t ht => XS.bipush X5.here hx rfl (hb hby own_d4_30) ht) ?_
  refine own_step (U' := (T5.setTop (mkF m 33 #[.val (.ref a1), .val (.long (((c1 + (-7046029254386353131 : Int64)) ^^^ (XT.ushrL (c1 + (-7046029254386353131 : Int64)) (30 : Int32))) * (-4658895280553007687 : Int64))), .second] [(.long (XT.ushrL (((c1 + (-7046029254386353131 : Int64)) ^^^ (XT.ushrL (c1 + (-7046029254386353131 : Int64)) (30 : Int32))) * (-4658895280553007687 : Int64)) (27 : Int32))), (.long (((c1 + (-7046029254386353131 : Int64)) ^^^ (XT.ushrL (c1 + (-7046029254386353131 : Int64)) (30 : Int32))) * (-4658895280553007687 : Int64)))]))) (fun t ht => XT.lushr X5.here hx rfl (hb hby own_d4_32) rfl ht) ?_
  refine own_step (U' := (T5.setTop (mkF m 34 #[.val (.ref a1), .val (.long (((c1 + (-7046029254386353131 : Int64)) ^^^ (XT.ushrL (c1 + (-7046029254386353131 : Int64)) (30 : Int32))) * (-4658895280553007687 : Int64))), .second] [(.long ((((c1 + (-7046029254386353131 : Int64)) ^^^ (XT.ushrL (c1 + (-7046029254386353131 : Int64)) (30 : Int32))) * (-4658895280553007687 : Int64)) ^^^ (XT.ushrL (((c1 + (-7046029254386353131 : Int64)) ^^^ (XT.ushrL (c1 + (-7046029254386353131 : Int64)) (30 : Int32))) * (-4658895280553007687 : Int64)) (27 : Int32))))]))) (fun t ht => XT.lxor X5.here hx rfl (hb hby own_d4_33) rfl ht) ?_
  refine own_step (U' := (T5.setTop (mkF m 37 #[.val (.ref a1), .val (.long (((c1 + (-7046029254386353131 : Int64)) ^^^ (XT.ushrL (c1 + (-7046029254386353131 : Int64)) (30 : Int32))) * (-4658895280553007687 : Int64))), .second] [(.long (-7723592293110705685 : Int64)), (.long ((((c1 + (-7046029254386353131 : Int64)) ^^^ (XT.ushrL (c1 + (-7046029254386353131 : Int64)) (30 : Int32))) * (-4658895280553007687 : Int64)) ^^^ (XT.ushrL (((c1 + (-7046029254386353131 : Int64)) ^^^ (XT.ushrL (c1 + (-7046029254386353131 : Int64)) (30 : Int32))) * (-4658895280553007687 : Int64)) (27 : Int32))))]))) (fun t ht => X5.ldc2Long hx hown (mvT hZ (hw _ (List.mem_of_getElem? (i := 25) rfl))) (g := (mkF m 34 #[.val (.ref a1), .val (.long (((c1 + (-7046029254386353131 : Int64)) ^^^ (XT.ushrL (c1 + (-7046029254386353131 : Int64)) (30 : Int32))) * (-4658895280553007687 : Int64))), .second] [(.long ((((c1 + (-7046029254386353131 : Int64)) ^^^ (XT.ushrL (c1 + (-7046029254386353131 : Int64)) (30 : Int32))) * (-4658895280553007687 : Int64)) ^^^ (XT.ushrL (((c1 + (-7046029254386353131 : Int64)) ^^^ (XT.ushrL (c1 + (-7046029254386353131 : Int64)) (30 : Int32))) * (-4658895280553007687 : Int64)) (27 : Int32))))])) rfl (hb hby own_d4_34) _ ht) ?_
  refine own_step (U' := (T5.setTop (mkF m 38 #[.val (.ref a1), .val (.long (((c1 + (-7046029254386353131 : Int64)) ^^^ (XT.ushrL (c1 + (-7046029254386353131 : Int64)) (30 : Int32))) * (-4658895280553007687 : Int64))), .second] [(.long (((((c1 + (-7046029254386353131 : Int64)) ^^^ (XT.ushrL (c1 + (-7046029254386353131 : Int64)) (30 : Int32))) * (-4658895280553007687 : Int64)) ^^^ (XT.ushrL (((c1 + (-7046029254386353131 : Int64)) ^^^ (XT.ushrL (c1 + (-7046029254386353131 : Int64)) (30 : Int32))) * (-4658895280553007687 : Int64)) (27 : Int32))) * (-7723592293110705685 : Int64)))]))) (fun t ht => XT.lmul X5.here hx rfl (hb hby own_d4_37) rfl ht) ?_
  refine own_step (U' := (T5.setTop (mkF m 39 #[.val (.ref a1), .val (.long (((((c1 + (-7046029254386353131 : Int64)) ^^^ (XT.ushrL (c1 + (-7046029254386353131 : Int64)) (30 : Int32))) * (-4658895280553007687 : Int64)) ^^^ (XT.ushrL (((c1 + (-7046029254386353131 : Int64)) ^^^ (XT.ushrL (c1 + (-7046029254386353131 : Int64)) (30 : Int32))) * (-4658895280553007687 : Int64)) (27 : Int32))) * (-7723592293110705685 : Int64))), .second] []))) (fun t ht => XT.lstoreN X5.here hx rfl (hb hby own_d4_38) rfl (l' := #[.val (.ref a1), .val (.long (((((c1 + (-7046029254386353131 : Int64)) ^^^ (XT.ushrL (c1 + (-7046029254386353131 : Int64)) (30 : Int32))) * (-4658895280553007687 : Int64)) ^^^ (XT.ushrL (((c1 + (-7046029254386353131 : Int64)) ^^^ (XT.ushrL (c1 + (-7046029254386353131 : Int64)) (30 : Int32))) * (-4658895280553007687 : Int64)) (27 : Int32))) * (-7723592293110705685 : Int64))), .second]) rfl ht) ?_
  refine own_step (U' := (T5.setTop (mkF m 40 #[.val (.ref a1), .val (.long (((((c1 + (-7046029254386353131 : Int64)) ^^^ (XT.ushrL (c1 + (-7046029254386353131 : Int64)) (30 : Int32))) * (-4658895280553007687 : Int64)) ^^^ (XT.ushrL (((c1 + (-7046029254386353131 : Int64)) ^^^ (XT.ushrL (c1 + (-7046029254386353131 : Int64)) (30 : Int32))) * (-4658895280553007687 : Int64)) (27 : Int32))) * (-7723592293110705685 : Int64))), .second] [(.long (((((c1 + (-7046029254386353131 : Int64)) ^^^ (XT.ushrL (c1 + (-7046029254386353131 : Int64)) (30 : Int32))) * (-4658895280553007687 : Int64)) ^^^ (XT.ushrL (((c1 + (-7046029254386353131 : Int64)) ^^^ (XT.ushrL (c1 + (-7046029254386353131 : Int64)) (30 : Int32))) * (-4658895280553007687 : Int64)) (27 : Int32))) * (-7723592293110705685 : Int64)))]))) (fun t ht => XT.lloadN X5.here hx rfl (hb hby own_d4_39) rfl ht) ?_
  refine own_step (U' := (T5.setTop (mkF m 41 #[.val (.ref a1), .val (.long (((((c1 + (-7046029254386353131 : Int64)) ^^^ (XT.ushrL (c1 + (-7046029254386353131 : Int64)) (30 : Int32))) * (-4658895280553007687 : Int64)) ^^^ (XT.ushrL (((c1 + (-7046029254386353131 : Int64)) ^^^ (XT.ushrL (c1 + (-7046029254386353131 : Int64)) (30 : Int32))) * (-4658895280553007687 : Int64)) (27 : Int32))) * (-7723592293110705685 : Int64))), .second] [(.long (((((c1 + (-7046029254386353131 : Int64)) ^^^ (XT.ushrL (c1 + (-7046029254386353131 : Int64)) (30 : Int32))) * (-4658895280553007687 : Int64)) ^^^ (XT.ushrL (((c1 + (-7046029254386353131 : Int64)) ^^^ (XT.ushrL (c1 + (-7046029254386353131 : Int64)) (30 : Int32))) * (-4658895280553007687 : Int64)) (27 : Int32))) * (-7723592293110705685 : Int64))), (.long (((((c1 + (-7046029254386353131 : Int64)) ^^^ (XT.ushrL (c1 + (-7046029254386353131 : Int64)) (30 : Int32))) * (-4658895280553007687 : Int64)) ^^^ (XT.ushrL (((c1 + (-7046029254386353131 : Int64)) ^^^ (XT.ushrL (c1 + (-7046029254386353131 : Int64)) (30 : Int32))) * (-4658895280553007687 : Int64)) (27 : Int32))) * (-7723592293110705685 : Int64)))]))) (fun t ht => XT.lloadN X5.here hx rfl (hb hby own_d4_40) rfl ht) ?_
  refine own_step (U' := (T5.setTop (mkF m 43 #[.val (.ref a1), .val (.long (((((c1 + (-7046029254386353131 : Int64)) ^^^ (XT.ushrL (c1 + (-7046029254386353131 : Int64)) (30 : Int32))) * (-4658895280553007687 : Int64)) ^^^ (XT.ushrL (((c1 + (-7046029254386353131 : Int64)) ^^^ (XT.ushrL (c1 + (-7046029254386353131 : Int64)) (30 : Int32))) * (-4658895280553007687 : Int64)) (27 : Int32))) * (-7723592293110705685 : Int64))), .second] [(.int (31 : Int32)), (.long (((((c1 + (-7046029254386353131 : Int64)) ^^^ (XT.ushrL (c1 + (-7046029254386353131 : Int64)) (30 : Int32))) * (-4658895280553007687 : Int64)) ^^^ (XT.ushrL (((c1 + (-7046029254386353131 : Int64)) ^^^ (XT.ushrL (c1 + (-7046029254386353131 : Int64)) (30 : Int32))) * (-4658895280553007687 : Int64)) (27 : Int32))) * (-7723592293110705685 : Int64))), (.long (((((c1 + (-7046029254386353131 : Int64)) ^^^ (XT.ushrL (c1 + (-7046029254386353131 : Int64)) (30 : Int32))) * (-4658895280553007687 : Int64)) ^^^ (XT.ushrL (((c1 + (-7046029254386353131 : Int64)) ^^^ (XT.ushrL (c1 + (-7046029254386353131 : Int64)) (30 : Int32))) * (-4658895280553007687 : Int64)) (27 : Int32))) * (-7723592293110705685 : Int64)))]))) (fun t ht => XS.bipush X5.here hx rfl (hb hby own_d4_41) ht) ?_
  refine own_step (U' := (T5.setTop (mkF m 44 #[.val (.ref a1), .val (.long (((((c1 + (-7046029254386353131 : Int64)) ^^^ (XT.ushrL (c1 + (-7046029254386353131 : Int64)) (30 : Int32))) * (-4658895280553007687 : Int64)) ^^^ (XT.ushrL (((c1 + (-7046029254386353131 : Int64)) ^^^ (XT.ushrL (c1 + (-7046029254386353131 : Int64)) (30 : Int32))) * (-4658895280553007687 : Int64)) (27 : Int32))) * (-7723592293110705685 : Int64))), .second] [(.long (XT.ushrL (((((c1 + (-7046029254386353131 : Int64)) ^^^ (XT.ushrL (c1 + (-7046029254386353131 : Int64)) (30 : Int32))) * (-4658895280553007687 : Int64)) ^^^ (XT.ushrL (((c1 + (-7046029254386353131 : Int64)) ^^^ (XT.ushrL (c1 + (-7046029254386353131 : Int64)) (30 : Int32))) * (-4658895280553007687 : Int64)) (27 : Int32))) * (-7723592293110705685 : Int64)) (31 : Int32))), (.long (((((c1 + (-7046029254386353131 : Int64)) ^^^ (XT.ushrL (c1 + (-7046029254386353131 : Int64)) (30 : Int32))) * (-4658895280553007687 : Int64)) ^^^ (XT.ushrL (((c1 + (-7046029254386353131 : Int64)) ^^^ (XT.ushrL (c1 + (-7046029254386353131 : Int64)) (30 : Int32))) * (-4658895280553007687 : Int64)) (27 : Int32))) * (-7723592293110705685 : Int64)))]))) (fun t ht => XT.lushr X5.here hx rfl (hb hby own_d4_43) rfl ht) ?_
  refine own_step (U' := (T5.setTop (mkF m 45 #[.val (.ref a1), .val (.long (((((c1 + (-7046029254386353131 : Int64)) ^^^ (XT.ushrL (c1 + (-7046029254386353131 : Int64)) (30 : Int32))) * (-4658895280553007687 : Int64)) ^^^ (XT.ushrL (((c1 + (-7046029254386353131 : Int64)) ^^^ (XT.ushrL (c1 + (-7046029254386353131 : Int64)) (30 : Int32))) * (-4658895280553007687 : Int64)) (27 : Int32))) * (-7723592293110705685 : Int64))), .second] [(.long ((((((c1 + (-7046029254386353131 : Int64)) ^^^ (XT.ushrL (c1 + (-7046029254386353131 : Int64)) (30 : Int32))) * (-4658895280553007687 : Int64)) ^^^ (XT.ushrL (((c1 + (-7046029254386353131 : Int64)) ^^^ (XT.ushrL (c1 + (-7046029254386353131 : Int64)) (30 : Int32))) * (-4658895280553007687 : Int64)) (27 : Int32))) * (-7723592293110705685 : Int64)) ^^^ (XT.ushrL (((((c1 + (-7046029254386353131 : Int64)) ^^^ (XT.ushrL (c1 + (-7046029254386353131 : Int64)) (30 : Int32))) * (-4658895280553007687 : Int64)) ^^^ (XT.ushrL (((c1 + (-7046029254386353131 : Int64)) ^^^ (XT.ushrL (c1 + (-7046029254386353131 : Int64)) (30 : Int32))) * (-4658895280553007687 : Int64)) (27 : Int32))) * (-7723592293110705685 : Int64)) (31 : Int32))))]))) (fun t ht => XT.lxor X5.here hx rfl (hb hby own_d4_44) rfl ht) ?_
  refine own_ret X5 (v := (some (.long ((((((c1 + (-7046029254386353131 : Int64)) ^^^ (XT.ushrL (c1 + (-7046029254386353131 : Int64)) (30 : Int32))) * (-4658895280553007687 : Int64)) ^^^ (XT.ushrL (((c1 + (-7046029254386353131 : Int64)) ^^^ (XT.ushrL (c1 + (-7046029254386353131 : Int64)) (30 : Int32))) * (-4658895280553007687 : Int64)) (27 : Int32))) * (-7723592293110705685 : Int64)) ^^^ (XT.ushrL (((((c1 + (-7046029254386353131 : Int64)) ^^^ (XT.ushrL (c1 + (-7046029254386353131 : Int64)) (30 : Int32))) * (-4658895280553007687 : Int64)) ^^^ (XT.ushrL (((c1 + (-7046029254386353131 : Int64)) ^^^ (XT.ushrL (c1 + (-7046029254386353131 : Int64)) (30 : Int32))) * (-4658895280553007687 : Int64)) (27 : Int32))) * (-7723592293110705685 : Int64)) (31 : Int32)))))) (fun h => by rw [Bd.returns] at h; cases h) Bd.notSynchronized (by decide) (by decide) ?_ (fun fs hr => retOut X5 hx (t := .long) Bd.returns rfl (Or.inr (Or.inl ⟨rfl, rfl, _, rfl⟩)) (hb hby own_d4_45) hr)
  show own_Q_nl Z a1 c1 h0 n0 _ T5.heap _
  rw [e5]
  exact ⟨rfl, N4, K4, F4, f4_1⟩
theorem own_acc0 {b : Int32} {c : Int64} (hb : 1 ≤ b.toInt) (h : own_st c 0 = 0) : own_dr c < own_lim b := by
  have e : c = 0 := h
  rw [e]; exact own_lim_pos hb
theorem own_pd0 : parseMethodDescriptor "()J" = some ⟨[], some .long⟩ := by decide +kernel
theorem own_d3_0 : decode prog_4_method_4_code 0 = .ok (.ldc2_w 25, 3) := by decide +kernel
theorem own_d3_3 : decode prog_4_method_4_code 3 = .ok (.ldc2_w 25, 3) := by decide +kernel
theorem own_d3_6 : decode prog_4_method_4_code 6 = .ok (.iload_n 1, 1) := by decide +kernel
theorem own_d3_7 : decode prog_4_method_4_code 7 = .ok (.i2l, 1) := by decide +kernel
theorem own_d3_8 : decode prog_4_method_4_code 8 = .ok (.lrem, 1) := by decide +kernel
theorem own_d3_9 : decode prog_4_method_4_code 9 = .ok (.lsub, 1) := by decide +kernel
theorem own_d3_10 : decode prog_4_method_4_code 10 = .ok (.lstore_n 2, 1) := by decide +kernel
theorem own_d3_11 : decode prog_4_method_4_code 11 = .ok (.aload_n 0, 1) := by decide +kernel
theorem own_d3_12 : decode prog_4_method_4_code 12 = .ok (.invokevirtual 19, 3) := by decide +kernel
theorem own_d3_15 : decode prog_4_method_4_code 15 = .ok (.bipush 32, 2) := by decide +kernel
theorem own_d3_17 : decode prog_4_method_4_code 17 = .ok (.lushr, 1) := by decide +kernel
theorem own_d3_18 : decode prog_4_method_4_code 18 = .ok (.lstore 4, 2) := by decide +kernel
theorem own_d3_20 : decode prog_4_method_4_code 20 = .ok (.lload 4, 2) := by decide +kernel
theorem own_d3_22 : decode prog_4_method_4_code 22 = .ok (.lload_n 2, 1) := by decide +kernel
theorem own_d3_23 : decode prog_4_method_4_code 23 = .ok (.lcmp, 1) := by decide +kernel
theorem own_d3_24 : decode prog_4_method_4_code 24 = .ok (.ifCond .lt 15, 3) := by decide +kernel
theorem own_d3_27 : decode prog_4_method_4_code 27 = .ok (.aload_n 0, 1) := by decide +kernel
theorem own_d3_28 : decode prog_4_method_4_code 28 = .ok (.invokevirtual 19, 3) := by decide +kernel
theorem own_d3_31 : decode prog_4_method_4_code 31 = .ok (.bipush 32, 2) := by decide +kernel
theorem own_d3_33 : decode prog_4_method_4_code 33 = .ok (.lushr, 1) := by decide +kernel
theorem own_d3_34 : decode prog_4_method_4_code 34 = .ok (.lstore 4, 2) := by decide +kernel
theorem own_d3_36 : decode prog_4_method_4_code 36 = .ok (.goto (-16), 3) := by decide +kernel
theorem own_d3_39 : decode prog_4_method_4_code 39 = .ok (.lload 4, 2) := by decide +kernel
theorem own_d3_41 : decode prog_4_method_4_code 41 = .ok (.iload_n 1, 1) := by decide +kernel
theorem own_d3_42 : decode prog_4_method_4_code 42 = .ok (.i2l, 1) := by decide +kernel
theorem own_d3_43 : decode prog_4_method_4_code 43 = .ok (.lrem, 1) := by decide +kernel
theorem own_d3_44 : decode prog_4_method_4_code 44 = .ok (.l2i, 1) := by decide +kernel
theorem own_d3_45 : decode prog_4_method_4_code 45 = .ok (.ireturn, 1) := by decide +kernel
def own_Q_ni (Z : State) (a1 : Addr) (p2 : Int32) (c1 : Int64) (h0 : Heap) (n0 : Nat) (v : Option Value) (h : Heap) (L : List Loc) : Prop := ∃ (cf : Int64), v = some (.int (own_r cf p2)) ∧ Fr n0 L ∧ Keep h0 h [a1] ∧ own_reach (own_lim p2) c1 cf ∧ own_dr cf < own_lim p2 ∧ (Fld Z h a1 "com/example/eigentuple/eigentuple/io/SplitMix" "state" "J" (.long cf)) ∧ (Exa Z h a1 "com/example/eigentuple/eigentuple/io/SplitMix")
set_option maxRecDepth 65536 in
set_option maxHeartbeats 40000000 in
theorem own_m_ni (l : Launch) (Z : State) (a0 : Array Value) (hw : ∀ d ∈ tables_1, d.before a0 Z = true) (ws : List Jvm.Cond) (a1 : Addr) (p2 : Int32) (c1 : Int64) (h0 : Heap) (n0 : Nat) (Z0 : n0 ≤ h0.size) (g_a1 : n0 ≤ a1) (F1 : Fld Z h0 a1 "com/example/eigentuple/eigentuple/io/SplitMix" "state" "J" (.long c1)) (E1 : Exa Z h0 a1 "com/example/eigentuple/eigentuple/io/SplitMix") (hbd : 1 ≤ p2.toInt) :
    MetFree l (⟨"com/example/eigentuple/eigentuple/io/SplitMix", "nextInt", "(I)I"⟩ : MethodName) (head1 (Jvm.Cond.code (⟨"com/example/eigentuple/eigentuple/io/SplitMix", "nextInt", "(I)I"⟩ : MethodName) prog_4_method_4_code 6 (some .int) :: ws) ({ frames := 1, cells := 0, slots := 0, locals := 14 } : Room)) (fun a U => a = #[(.ref a1), (.int p2)] ∧ Z.Warmed39 U.vm ∧ U.heap = h0) (fun _ _ _ _ _ => True) (fun _ U o U' => ∃ v L, o = .returned v ∧ own_Q_ni Z a1 p2 c1 h0 n0 v U'.heap L ∧ FrameEnd U o U' L ({ frames := 1, cells := 0, slots := 0, locals := 14 } : Room).cells ({ frames := 1, cells := 0, slots := 0, locals := 14 } : Room).slots) := by
  refine MetFree.of_bodySF (plainFor_of_name own_pn0) hisR ?_
  intro p e s m args below meth c s₁ Bd hml0 hP hK
  obtain ⟨rfl, hZ, hh⟩ := hP
  have hx := Bd.exec
  have hby := Bd.bytes
  have hml : c.maxLocals = 6 := hml0
  have hown : s.vm.findClass "com/example/eigentuple/eigentuple/io/SplitMix" = some m.cls := findClass_of_methodNamed Bd.named
  have hnm := (name_of_methodNamed Bd.named Bd.method).1
  have X0 : Stand p l e ({ frames := 1, cells := 0, slots := 0, locals := 14 } : Room) s m #[(.ref a1), (.int p2)] below meth c s₁ [] 0 0 := Stand.of_body Bd
  have e0 : s₁.heap = h0 := by rw [← hh, Bd.state]; rfl
  have N0 := Fr.nil n0
  have K0 : Keep h0 h0 [a1] := Keep.refl _ _
  show own_Go p e below s ({ frames := 1, cells := 0, slots := 0, locals := 14 } : Room).cells ({ frames := 1, cells := 0, slots := 0, locals := 14 } : Room).slots (own_Q_ni Z a1 p2 c1 h0 n0) (s₁.setTop (entryFrame m #[(.ref a1), (.int p2)] 6))
  have ef : entryFrame m #[(.ref a1), (.int p2)] 6 = (mkF m 0 #[.val (.ref a1), .val (.int p2), .unset, .unset, .unset, .unset] []) := by first | rfl | (simp [entryFrame, mkF, argsToLocals, Value.category, maxLocals]; done)
  rw [ef]
  show own_Go p e below s _ _ _ (s₁.setTop (mkF m 0 #[.val (.ref a1), .val (.int p2), .unset, .unset, .unset, .unset] []))
  refine own_step (U' := (s₁.setTop (mkF m 3 #[.val (.ref a1), .val (.int p2), .unset, .unset, .unset, .unset] [(.long (4294967296 : Int64))]))) (fun t ht => X0.ldc2Long hx hown (mvT hZ (hw _ (List.mem_of_getElem? (i := 17) rfl))) (g := (mkF m 0 #[.val (.ref a1), .val (.int p2), .unset, .unset, .unset, .unset] [])) rfl (hb hby own_d3_0) _ ht) ?_
  refine own_step (U' := (s₁.setTop (mkF m 6 #[.val (.ref a1), .val (.int p2), .unset, .unset, .unset, .unset] [(.long (4294967296 : Int64)), (.long (4294967296 : Int64))]))) (fun t ht => X0.ldc2Long hx hown (mvT hZ (hw _ (List.mem_of_getElem? (i := 17) rfl))) (g := (mkF m 3 #[.val (.ref a1), .val (.int p2), .unset, .unset, .unset, .unset] [(.long (4294967296 : Int64))])) rfl (hb hby own_d3_3) _ ht) ?_
  refine own_step (U' := (s₁.setTop (mkF m 7 #[.val (.ref a1), .val (.int p2), .unset, .unset, .unset, .unset] [(.int p2), (.long (4294967296 : Int64)), (.long (4294967296 : Int64))]))) (fun t ht => XS.iloadN X0.here hx rfl (hb hby own_d3_6) rfl ht) ?_
  refine own_step (U' := (s₁.setTop (mkF m 8 #[.val (.ref a1), .val (.int p2), .unset, .unset, .unset, .unset] [(.long (p2.toInt64)), (.long (4294967296 : Int64)), (.long (4294967296 : Int64))]))) (fun t ht => XT.i2l X0.here hx rfl (hb hby own_d3_7) rfl ht) ?_
  refine own_step (U' := (s₁.setTop (mkF m 9 #[.val (.ref a1), .val (.int p2), .unset, .unset, .unset, .unset] [(.long (own_lrem (4294967296 : Int64) (p2.toInt64))), (.long (4294967296 : Int64))]))) (fun t ht => XT.lrem X0.here hx rfl (hb hby own_d3_8) rfl (own_nz hbd) ht) ?_
  refine own_step (U' := (s₁.setTop (mkF m 10 #[.val (.ref a1), .val (.int p2), .unset, .unset, .unset, .unset] [(.long ((4294967296 : Int64) - (own_lrem (4294967296 : Int64) (p2.toInt64))))]))) (fun t ht => XT.lsub X0.here hx rfl (hb hby own_d3_9) rfl ht) ?_
  refine own_step (U' := (s₁.setTop (mkF m 11 #[.val (.ref a1), .val (.int p2), .val (.long ((4294967296 : Int64) - (own_lrem (4294967296 : Int64) (p2.toInt64)))), .second, .unset, .unset] []))) (fun t ht => XT.lstoreN X0.here hx rfl (hb hby own_d3_10) rfl (l' := #[.val (.ref a1), .val (.int p2), .val (.long ((4294967296 : Int64) - (own_lrem (4294967296 : Int64) (p2.toInt64)))), .second, .unset, .unset]) rfl ht) ?_
  refine own_step (U' := (s₁.setTop (mkF m 12 #[.val (.ref a1), .val (.int p2), .val (.long ((4294967296 : Int64) - (own_lrem (4294967296 : Int64) (p2.toInt64)))), .second, .unset, .unset] [(.ref a1)]))) (fun t ht => XS.aloadN X0.here hx rfl (hb hby own_d3_11) rfl rfl ht) ?_
  obtain ⟨cq6, kq6, q6a, q6b, q6c⟩ := isOf hZ e0 E1
  obtain ⟨_, _, ⟨T6, L6, k6, n6⟩, -, X6, ⟨Lc6, hQ6, l6, y6, z6⟩, st6⟩ := X0.virtualBack hx (y := (⟨"com/example/eigentuple/eigentuple/io/SplitMix", "nextLong", "()J"⟩ : MethodName)) (z := (⟨"com/example/eigentuple/eigentuple/io/SplitMix", "nextLong", "()J"⟩ : MethodName)) hown (mvT hZ (hw _ (List.mem_of_getElem? (i := 18) rfl))) (mvT hZ (hw _ (List.mem_of_getElem? (i := 19) rfl))) (notFace_of_selects (args := #[]) (mvT hZ (hw _ (List.mem_of_getElem? (i := 21) rfl)))) (mvT hZ (hw _ (List.mem_of_getElem? (i := 21) rfl))) (mvT hZ (hw _ (List.mem_of_getElem? (i := 20) rfl))) (by decide) (backOf (W := 0) (own_m_nl l Z a0 hw [] (a1) (c1) h0 n0 Z0 g_a1 F1 E1) hZ (hw _ (List.mem_of_getElem? (i := 22) rfl)) (hw _ (List.mem_of_getElem? (i := 3) rfl)) (by decide) (by decide)) q6a q6c (g := (mkF m 12 #[.val (.ref a1), .val (.int p2), .val (.long ((4294967296 : Int64) - (own_lrem (4294967296 : Int64) (p2.toInt64)))), .second, .unset, .unset] [(.ref a1)])) rfl (by rw [hml]; rfl) (Steps.refl _) (argsL := []) (rest := []) (lenOf own_pd0 rfl) rfl (by show 2 * 0 + _ ≤ _; exact Nat.le_of_eq rfl) (hb hby own_d3_12) (fun _ _ => ⟨rfl, e0, (by decide : 0 + 0 ≤ _), (by decide : 0 + 0 ≤ _)⟩)
  dsimp only [Pt.U, Pt.locs, Pt.cells, Pt.slots] at X6 l6 y6 z6 st6 hQ6
  subst l6 y6 z6
  obtain ⟨rfl, Nq6, Kq6, Fq6_0, Fq6_1⟩ := hQ6
  have N6 := Fr.app N0 Nq6
  have f6_1 : Exa Z T6.heap a1 "com/example/eigentuple/eigentuple/io/SplitMix" := E1.keep Kq6
  have K6 : Keep h0 T6.heap [a1] := K0.trans Kq6 (allS (Or.inl (by simp)) all0)
  refine own_step (U' := (T6.setTop (mkF m 15 #[.val (.ref a1), .val (.int p2), .val (.long ((4294967296 : Int64) - (own_lrem (4294967296 : Int64) (p2.toInt64)))), .second, .unset, .unset] [(.long (own_mix (c1 + (-7046029254386353131 : Int64))))]))) (fun t ht => st6.trans ht) ?_
  refine own_step (U' := (T6.setTop (mkF m 17 #[.val (.ref a1), .val (.int p2), .val (.long ((4294967296 : Int64) - (own_lrem (4294967296 : Int64) (p2.toInt64)))), .second, .unset, .unset] [(.int (32 : Int32)), (.long (own_mix (c1 + (-7046029254386353131 : Int64))))]))) (fun t ht => XS.bipush X6.here hx rfl (hb hby own_d3_15) ht) ?_
  refine own_step (U' := (T6.setTop (mkF m 18 #[.val (.ref a1), .val (.int p2), .val (.long ((4294967296 : Int64) - (own_lrem (4294967296 : Int64) (p2.toInt64)))), .second, .unset, .unset] [(.long (XT.ushrL (own_mix (c1 + (-7046029254386353131 : Int64))) (32 : Int32)))]))) (fun t ht => XT.lushr X6.here hx rfl (hb hby own_d3_17) rfl ht) ?_
  refine own_step (U' := (T6.setTop (mkF m 20 #[.val (.ref a1), .val (.int p2), .val (.long ((4294967296 : Int64) - (own_lrem (4294967296 : Int64) (p2.toInt64)))), .second, .val (.long (XT.ushrL (own_mix (c1 + (-7046029254386353131 : Int64))) (32 : Int32))), .second] []))) (fun t ht => XT.lstore X6.here hx rfl (hb hby own_d3_18) rfl (l' := #[.val (.ref a1), .val (.int p2), .val (.long ((4294967296 : Int64) - (own_lrem (4294967296 : Int64) (p2.toInt64)))), .second, .val (.long (XT.ushrL (own_mix (c1 + (-7046029254386353131 : Int64))) (32 : Int32))), .second]) rfl ht) ?_
  have loop : ∀ (d : Nat) (cc : Int64) (T_ : State) (L_ : List Loc) (X_ : Stand p l e ({ frames := 1, cells := 0, slots := 0, locals := 14 } : Room) s m #[(.ref a1), (.int p2)] below meth c T_ L_ 0 0) (N_ : Fr n0 L_) (K_ : Keep h0 T_.heap [a1]) (f_0 : Fld Z T_.heap a1 "com/example/eigentuple/eigentuple/io/SplitMix" "state" "J" (.long cc)) (f_1 : Exa Z T_.heap a1 "com/example/eigentuple/eigentuple/io/SplitMix") (hst : own_st cc d = 0) (hre : own_reach (own_lim p2) c1 cc), own_Go p e below s ({ frames := 1, cells := 0, slots := 0, locals := 14 } : Room).cells ({ frames := 1, cells := 0, slots := 0, locals := 14 } : Room).slots (own_Q_ni Z a1 p2 c1 h0 n0) (T_.setTop (mkF m 20 #[.val (.ref a1), .val (.int p2), .val (.long ((4294967296 : Int64) - (own_lrem (4294967296 : Int64) (p2.toInt64)))), .second, .val (.long (own_dr cc)), .second] [])) := by
    intro d
    induction d with
    | zero =>
      intro cc T_ L_ X_ N_ K_ f_0 f_1 hst hre
      refine own_step (U' := (T_.setTop (mkF m 22 #[.val (.ref a1), .val (.int p2), .val (.long ((4294967296 : Int64) - (own_lrem (4294967296 : Int64) (p2.toInt64)))), .second, .val (.long (own_dr cc)), .second] [(.long (own_dr cc))]))) (fun t ht => XT.lload X_.here hx rfl (hb hby own_d3_20) rfl ht) ?_
      refine own_step (U' := (T_.setTop (mkF m 23 #[.val (.ref a1), .val (.int p2), .val (.long ((4294967296 : Int64) - (own_lrem (4294967296 : Int64) (p2.toInt64)))), .second, .val (.long (own_dr cc)), .second] [(.long ((4294967296 : Int64) - (own_lrem (4294967296 : Int64) (p2.toInt64)))), (.long (own_dr cc))]))) (fun t ht => XT.lloadN X_.here hx rfl (hb hby own_d3_22) rfl ht) ?_
      refine own_step (U' := (T_.setTop (mkF m 24 #[.val (.ref a1), .val (.int p2), .val (.long ((4294967296 : Int64) - (own_lrem (4294967296 : Int64) (p2.toInt64)))), .second, .val (.long (own_dr cc)), .second] [(.int (XT.cmpL (own_dr cc) ((4294967296 : Int64) - (own_lrem (4294967296 : Int64) (p2.toInt64)))))]))) (fun t ht => XT.lcmp X_.here hx rfl (hb hby own_d3_23) rfl ht) ?_
      refine own_step (U' := (T_.setTop (mkF m 39 #[.val (.ref a1), .val (.int p2), .val (.long ((4294967296 : Int64) - (own_lrem (4294967296 : Int64) (p2.toInt64)))), .second, .val (.long (own_dr cc)), .second] []))) (fun t ht => XS.ifYes X_.here hx rfl (pc0 := 24) (pc' := 39) rfl (hb hby own_d3_24) rfl (XT.ll_lt_t ((own_acc0 hbd hst) : (own_dr cc) < ((4294967296 : Int64) - (own_lrem (4294967296 : Int64) (p2.toInt64))))) (by decide) (by decide) ht) ?_
      refine own_step (U' := (T_.setTop (mkF m 41 #[.val (.ref a1), .val (.int p2), .val (.long ((4294967296 : Int64) - (own_lrem (4294967296 : Int64) (p2.toInt64)))), .second, .val (.long (own_dr cc)), .second] [(.long (own_dr cc))]))) (fun t ht => XT.lload X_.here hx rfl (hb hby own_d3_39) rfl ht) ?_
      refine own_step (U' := (T_.setTop (mkF m 42 #[.val (.ref a1), .val (.int p2), .val (.long ((4294967296 : Int64) - (own_lrem (4294967296 : Int64) (p2.toInt64)))), .second, .val (.long (own_dr cc)), .second] [(.int p2), (.long (own_dr cc))]))) (fun t ht => XS.iloadN X_.here hx rfl (hb hby own_d3_41) rfl ht) ?_
      refine own_step (U' := (T_.setTop (mkF m 43 #[.val (.ref a1), .val (.int p2), .val (.long ((4294967296 : Int64) - (own_lrem (4294967296 : Int64) (p2.toInt64)))), .second, .val (.long (own_dr cc)), .second] [(.long (p2.toInt64)), (.long (own_dr cc))]))) (fun t ht => XT.i2l X_.here hx rfl (hb hby own_d3_42) rfl ht) ?_
      refine own_step (U' := (T_.setTop (mkF m 44 #[.val (.ref a1), .val (.int p2), .val (.long ((4294967296 : Int64) - (own_lrem (4294967296 : Int64) (p2.toInt64)))), .second, .val (.long (own_dr cc)), .second] [(.long (own_lrem (own_dr cc) (p2.toInt64)))]))) (fun t ht => XT.lrem X_.here hx rfl (hb hby own_d3_43) rfl (own_nz hbd) ht) ?_
      refine own_step (U' := (T_.setTop (mkF m 45 #[.val (.ref a1), .val (.int p2), .val (.long ((4294967296 : Int64) - (own_lrem (4294967296 : Int64) (p2.toInt64)))), .second, .val (.long (own_dr cc)), .second] [(.int ((own_lrem (own_dr cc) (p2.toInt64)).toInt32))]))) (fun t ht => XT.l2i X_.here hx rfl (hb hby own_d3_44) rfl ht) ?_
      refine own_ret X_ (v := (some (.int ((own_lrem (own_dr cc) (p2.toInt64)).toInt32)))) (fun h => by rw [Bd.returns] at h; cases h) Bd.notSynchronized (by decide) (by decide) ?_ (fun fs hr => retI X_ hx Bd.returns (hb hby own_d3_45) hr)
      show own_Q_ni Z a1 p2 c1 h0 n0 _ T_.heap _
      show own_Q_ni Z a1 p2 c1 h0 n0 _ T_.heap _
      exact ⟨cc, rfl, N_, K_, hre, (own_acc0 hbd hst), f_0, f_1⟩
    | succ d ih =>
      intro cc T_ L_ X_ N_ K_ f_0 f_1 hst hre
      refine own_step (U' := (T_.setTop (mkF m 22 #[.val (.ref a1), .val (.int p2), .val (.long ((4294967296 : Int64) - (own_lrem (4294967296 : Int64) (p2.toInt64)))), .second, .val (.long (own_dr cc)), .second] [(.long (own_dr cc))]))) (fun t ht => XT.lload X_.here hx rfl (hb hby own_d3_20) rfl ht) ?_
      refine own_step (U' := (T_.setTop (mkF m 23 #[.val (.ref a1), .val (.int p2), .val (.long ((4294967296 : Int64) - (own_lrem (4294967296 : Int64) (p2.toInt64)))), .second, .val (.long (own_dr cc)), .second] [(.long ((4294967296 : Int64) - (own_lrem (4294967296 : Int64) (p2.toInt64)))), (.long (own_dr cc))]))) (fun t ht => XT.lloadN X_.here hx rfl (hb hby own_d3_22) rfl ht) ?_
      refine own_step (U' := (T_.setTop (mkF m 24 #[.val (.ref a1), .val (.int p2), .val (.long ((4294967296 : Int64) - (own_lrem (4294967296 : Int64) (p2.toInt64)))), .second, .val (.long (own_dr cc)), .second] [(.int (XT.cmpL (own_dr cc) ((4294967296 : Int64) - (own_lrem (4294967296 : Int64) (p2.toInt64)))))]))) (fun t ht => XT.lcmp X_.here hx rfl (hb hby own_d3_23) rfl ht) ?_
      by_cases hc24_7 : (own_dr cc) < ((4294967296 : Int64) - (own_lrem (4294967296 : Int64) (p2.toInt64)))
      ·
        refine own_step (U' := (T_.setTop (mkF m 39 #[.val (.ref a1), .val (.int p2), .val (.long ((4294967296 : Int64) - (own_lrem (4294967296 : Int64) (p2.toInt64)))), .second, .val (.long (own_dr cc)), .second] []))) (fun t ht => XS.ifYes X_.here hx rfl (pc0 := 24) (pc' := 39) rfl (hb hby own_d3_24) rfl (XT.ll_lt_t hc24_7) (by decide) (by decide) ht) ?_
        refine own_step (U' := (T_.setTop (mkF m 41 #[.val (.ref a1), .val (.int p2), .val (.long ((4294967296 : Int64) - (own_lrem (4294967296 : Int64) (p2.toInt64)))), .second, .val (.long (own_dr cc)), .second] [(.long (own_dr cc))]))) (fun t ht => XT.lload X_.here hx rfl (hb hby own_d3_39) rfl ht) ?_
        refine own_step (U' := (T_.setTop (mkF m 42 #[.val (.ref a1), .val (.int p2), .val (.long ((4294967296 : Int64) - (own_lrem (4294967296 : Int64) (p2.toInt64)))), .second, .val (.long (own_dr cc)), .second] [(.int p2), (.long (own_dr cc))]))) (fun t ht => XS.iloadN X_.here hx rfl (hb hby own_d3_41) rfl ht) ?_
        refine own_step (U' := (T_.setTop (mkF m 43 #[.val (.ref a1), .val (.int p2), .val (.long ((4294967296 : Int64) - (own_lrem (4294967296 : Int64) (p2.toInt64)))), .second, .val (.long (own_dr cc)), .second] [(.long (p2.toInt64)), (.long (own_dr cc))]))) (fun t ht => XT.i2l X_.here hx rfl (hb hby own_d3_42) rfl ht) ?_
        refine own_step (U' := (T_.setTop (mkF m 44 #[.val (.ref a1), .val (.int p2), .val (.long ((4294967296 : Int64) - (own_lrem (4294967296 : Int64) (p2.toInt64)))), .second, .val (.long (own_dr cc)), .second] [(.long (own_lrem (own_dr cc) (p2.toInt64)))]))) (fun t ht => XT.lrem X_.here hx rfl (hb hby own_d3_43) rfl (own_nz hbd) ht) ?_
        refine own_step (U' := (T_.setTop (mkF m 45 #[.val (.ref a1), .val (.int p2), .val (.long ((4294967296 : Int64) - (own_lrem (4294967296 : Int64) (p2.toInt64)))), .second, .val (.long (own_dr cc)), .second] [(.int ((own_lrem (own_dr cc) (p2.toInt64)).toInt32))]))) (fun t ht => XT.l2i X_.here hx rfl (hb hby own_d3_44) rfl ht) ?_
        refine own_ret X_ (v := (some (.int ((own_lrem (own_dr cc) (p2.toInt64)).toInt32)))) (fun h => by rw [Bd.returns] at h; cases h) Bd.notSynchronized (by decide) (by decide) ?_ (fun fs hr => retI X_ hx Bd.returns (hb hby own_d3_45) hr)
        show own_Q_ni Z a1 p2 c1 h0 n0 _ T_.heap _
        show own_Q_ni Z a1 p2 c1 h0 n0 _ T_.heap _
        exact ⟨cc, rfl, N_, K_, hre, hc24_7, f_0, f_1⟩
      ·
        refine own_step (U' := (T_.setTop (mkF m 27 #[.val (.ref a1), .val (.int p2), .val (.long ((4294967296 : Int64) - (own_lrem (4294967296 : Int64) (p2.toInt64)))), .second, .val (.long (own_dr cc)), .second] []))) (fun t ht => XS.ifNo X_.here hx rfl (hb hby own_d3_24) rfl (XT.ll_lt_f hc24_7) ht) ?_
        refine own_step (U' := (T_.setTop (mkF m 28 #[.val (.ref a1), .val (.int p2), .val (.long ((4294967296 : Int64) - (own_lrem (4294967296 : Int64) (p2.toInt64)))), .second, .val (.long (own_dr cc)), .second] [(.ref a1)]))) (fun t ht => XS.aloadN X_.here hx rfl (hb hby own_d3_27) rfl rfl ht) ?_
        obtain ⟨cq8, kq8, q8a, q8b, q8c⟩ := isOf hZ rfl f_1
        obtain ⟨_, _, ⟨T8, L8, k8, n8⟩, -, X8, ⟨Lc8, hQ8, l8, y8, z8⟩, st8⟩ := X_.virtualBack hx (y := (⟨"com/example/eigentuple/eigentuple/io/SplitMix", "nextLong", "()J"⟩ : MethodName)) (z := (⟨"com/example/eigentuple/eigentuple/io/SplitMix", "nextLong", "()J"⟩ : MethodName)) hown (mvT hZ (hw _ (List.mem_of_getElem? (i := 18) rfl))) (mvT hZ (hw _ (List.mem_of_getElem? (i := 19) rfl))) (notFace_of_selects (args := #[]) (mvT hZ (hw _ (List.mem_of_getElem? (i := 21) rfl)))) (mvT hZ (hw _ (List.mem_of_getElem? (i := 21) rfl))) (mvT hZ (hw _ (List.mem_of_getElem? (i := 20) rfl))) (by decide) (backOf (W := 0) (own_m_nl l Z a0 hw [] (a1) (cc) T_.heap n0 (Nat.le_trans Z0 K_.1) g_a1 f_0 f_1) hZ (hw _ (List.mem_of_getElem? (i := 22) rfl)) (hw _ (List.mem_of_getElem? (i := 3) rfl)) (by decide) (by decide)) q8a q8c (g := (mkF m 28 #[.val (.ref a1), .val (.int p2), .val (.long ((4294967296 : Int64) - (own_lrem (4294967296 : Int64) (p2.toInt64)))), .second, .val (.long (own_dr cc)), .second] [(.ref a1)])) rfl (by rw [hml]; rfl) (Steps.refl _) (argsL := []) (rest := []) (lenOf own_pd0 rfl) rfl (by show 2 * 0 + _ ≤ _; exact Nat.le_of_eq rfl) (hb hby own_d3_28) (fun _ _ => ⟨rfl, rfl, (by decide : 0 + 0 ≤ _), (by decide : 0 + 0 ≤ _)⟩)
        dsimp only [Pt.U, Pt.locs, Pt.cells, Pt.slots] at X8 l8 y8 z8 st8 hQ8
        subst l8 y8 z8
        obtain ⟨rfl, Nq8, Kq8, Fq8_0, Fq8_1⟩ := hQ8
        have N8 := Fr.app N_ Nq8
        have f8_1 : Exa Z T8.heap a1 "com/example/eigentuple/eigentuple/io/SplitMix" := f_1.keep Kq8
        have K8 : Keep h0 T8.heap [a1] := K_.trans Kq8 (allS (Or.inl (by simp)) all0)
        refine own_step (U' := (T8.setTop (mkF m 31 #[.val (.ref a1), .val (.int p2), .val (.long ((4294967296 : Int64) - (own_lrem (4294967296 : Int64) (p2.toInt64)))), .second, .val (.long (own_dr cc)), .second] [(.long (own_mix (cc + (-7046029254386353131 : Int64))))]))) (fun t ht => st8.trans ht) ?_
        refine own_step (U' := (T8.setTop (mkF m 33 #[.val (.ref a1), .val (.int p2), .val (.long ((4294967296 : Int64) - (own_lrem (4294967296 : Int64) (p2.toInt64)))), .second, .val (.long (own_dr cc)), .second] [(.int (32 : Int32)), (.long (own_mix (cc + (-7046029254386353131 : Int64))))]))) (fun t ht => XS.bipush X8.here hx rfl (hb hby own_d3_31) ht) ?_
        refine own_step (U' := (T8.setTop (mkF m 34 #[.val (.ref a1), .val (.int p2), .val (.long ((4294967296 : Int64) - (own_lrem (4294967296 : Int64) (p2.toInt64)))), .second, .val (.long (own_dr cc)), .second] [(.long (XT.ushrL (own_mix (cc + (-7046029254386353131 : Int64))) (32 : Int32)))]))) (fun t ht => XT.lushr X8.here hx rfl (hb hby own_d3_33) rfl ht) ?_
        refine own_step (U' := (T8.setTop (mkF m 36 #[.val (.ref a1), .val (.int p2), .val (.long ((4294967296 : Int64) - (own_lrem (4294967296 : Int64) (p2.toInt64)))), .second, .val (.long (XT.ushrL (own_mix (cc + (-7046029254386353131 : Int64))) (32 : Int32))), .second] []))) (fun t ht => XT.lstore X8.here hx rfl (hb hby own_d3_34) rfl (l' := #[.val (.ref a1), .val (.int p2), .val (.long ((4294967296 : Int64) - (own_lrem (4294967296 : Int64) (p2.toInt64)))), .second, .val (.long (XT.ushrL (own_mix (cc + (-7046029254386353131 : Int64))) (32 : Int32))), .second]) rfl ht) ?_
        refine own_step (U' := (T8.setTop (mkF m 20 #[.val (.ref a1), .val (.int p2), .val (.long ((4294967296 : Int64) - (own_lrem (4294967296 : Int64) (p2.toInt64)))), .second, .val (.long (XT.ushrL (own_mix (cc + (-7046029254386353131 : Int64))) (32 : Int32))), .second] []))) (fun t ht => XS.goto X8.here hx rfl (pc0 := 36) (pc' := 20) rfl (hb hby own_d3_36) (by decide) (by decide) ht) ?_
        exact ih _ _ _ X8 N8 K8 Fq8_0 Fq8_1 ((own_st_succ _ _).symm.trans hst) (own_reach_next hre hc24_7)
  obtain ⟨d, hd⟩ := own_hits (c1 + (-7046029254386353131 : Int64))
  exact loop d _ _ _ X6 N6 K6 Fq6_0 Fq6_1 hd (own_reach_start _ _)
theorem own_pn1 : plainName "com/example/eigentuple/eigentuple/io/SplitMixNextIntPinLaw" = true := by first | (simp [plainName, overriddenIn]; done) | decide +kernel
theorem own_pd1 : parseMethodDescriptor "(J)V" = some ⟨[.long], none⟩ := by decide +kernel
theorem own_pd2 : parseMethodDescriptor "(I)I" = some ⟨[.int], some .int⟩ := by decide +kernel
def own_Q_law (Z : State) (p1 : Int64) (p2 : Int32) (p3 : Int32) (h0 : Heap) (n0 : Nat) (v : Option Value) (h : Heap) (L : List Loc) : Prop := v = some (.int 1) ∧ Fr n0 L
set_option maxRecDepth 65536 in
set_option maxHeartbeats 40000000 in
theorem own_m_law (l : Launch) (Z : State) (a0 : Array Value) (hw : ∀ d ∈ tables_1, d.before a0 Z = true) (ws : List Jvm.Cond) (p1 : Int64) (p2 : Int32) (p3 : Int32) (h0 : Heap) (n0 : Nat) (Z0 : n0 ≤ h0.size)  :
    MetFree l x (head1 (Jvm.Cond.code x code maxLocals ret :: ws) room_1) (fun a U => a = #[(.long p1), (.int p2), (.int p3)] ∧ Z.Warmed39 U.vm ∧ U.heap = h0) (fun _ _ _ _ _ => True) (fun _ U o U' => ∃ v L, o = .returned v ∧ own_Q_law Z p1 p2 p3 h0 n0 v U'.heap L ∧ FrameEnd U o U' L 2 2) := by
  refine MetFree.of_bodySF (plainFor_of_name own_pn1) hisR ?_
  intro p e s m args below meth c s₁ Bd hml0 hP hK
  obtain ⟨rfl, hZ, hh⟩ := hP
  have hx := Bd.exec
  have hby := Bd.bytes
  have hml : c.maxLocals = 17 := hml0
  have hown : s.vm.findClass "com/example/eigentuple/eigentuple/io/SplitMixNextIntPinLaw" = some m.cls := findClass_of_methodNamed Bd.named
  have hnm := (name_of_methodNamed Bd.named Bd.method).1
  have X0 : Stand p l e room_1 s m #[(.long p1), (.int p2), (.int p3)] below meth c s₁ [] 0 0 := Stand.of_body Bd
  have e0 : s₁.heap = h0 := by rw [← hh, Bd.state]; rfl
  have N0 := Fr.nil n0
  have K0 : Keep h0 h0 [] := Keep.refl _ _
  show own_Go p e below s 2 2 (own_Q_law Z p1 p2 p3 h0 n0) (s₁.setTop (entryFrame m #[(.long p1), (.int p2), (.int p3)] maxLocals))
  have ef : entryFrame m #[(.long p1), (.int p2), (.int p3)] maxLocals = (mkF m 0 #[.val (.long p1), .second, .val (.int p2), .val (.int p3), .unset, .unset, .unset, .unset, .unset, .unset, .unset, .unset, .unset, .unset, .unset, .unset, .unset] []) := by first | rfl | (simp [entryFrame, mkF, argsToLocals, Value.category, maxLocals]; done)
  rw [ef]
  show own_Go p e below s _ _ _ (s₁.setTop (mkF m 0 #[.val (.long p1), .second, .val (.int p2), .val (.int p3), .unset, .unset, .unset, .unset, .unset, .unset, .unset, .unset, .unset, .unset, .unset, .unset, .unset] []))
  have tail19 : ∀ (bo : Int32) (hbd : 1 ≤ bo.toInt), own_Go p e below s 2 2 (own_Q_law Z p1 p2 p3 h0 n0) (s₁.setTop (mkF m 19 #[.val (.long p1), .second, .val (.int p2), .val (.int p3), .val (.int bo), .unset, .unset, .unset, .unset, .unset, .unset, .unset, .unset, .unset, .unset, .unset, .unset] [])) := by
    intro bo hbd
    obtain ⟨T9, h9, X9, e9, E9, A9, D9, -, st9⟩ := newO X0 hx hZ hown (hw _ (List.mem_of_getElem? (i := 1) rfl)) (hw _ (List.mem_of_getElem? (i := 2) rfl)) (hw _ (List.mem_of_getElem? (i := 3) rfl)) e0 (g := (mkF m 19 #[.val (.long p1), .second, .val (.int p2), .val (.int p3), .val (.int bo), .unset, .unset, .unset, .unset, .unset, .unset, .unset, .unset, .unset, .unset, .unset, .unset] [])) rfl (hb hby at_19) (by decide) (by decide)
    obtain ⟨b9, g9⟩ : ∃ z, z = (h0).size := ⟨_, rfl⟩
    rw [← g9] at A9 D9 st9
    have g_b9 : n0 ≤ b9 := Nat.le_trans (Nat.le_trans Z0 K0.1) (Nat.le_of_eq g9.symm)
    have sz_b9 : h0.size ≤ b9 := Nat.le_trans K0.1 (Nat.le_of_eq g9.symm)
    have K9 : Keep h0 h9 [] := K0.ext E9
    have F9_11 : Fld Z h9 b9 "com/example/eigentuple/eigentuple/io/SplitMix" "state" "J" (.long (0 : Int64)) := D9 (Or.inl (hw _ (List.mem_of_getElem? (i := 11) rfl))) (ty := .long) (by decide)
    refine own_step (U' := (T9.setTop (mkF m 22 #[.val (.long p1), .second, .val (.int p2), .val (.int p3), .val (.int bo), .unset, .unset, .unset, .unset, .unset, .unset, .unset, .unset, .unset, .unset, .unset, .unset] [(.ref b9)]))) (fun t ht => st9 _ ht) ?_
    refine own_step (U' := (T9.setTop (mkF m 23 #[.val (.long p1), .second, .val (.int p2), .val (.int p3), .val (.int bo), .unset, .unset, .unset, .unset, .unset, .unset, .unset, .unset, .unset, .unset, .unset, .unset] [(.ref b9), (.ref b9)]))) (fun t ht => XS.dup X9.here hx rfl (hb hby at_22) rfl rfl ht) ?_
    refine own_step (U' := (T9.setTop (mkF m 24 #[.val (.long p1), .second, .val (.int p2), .val (.int p3), .val (.int bo), .unset, .unset, .unset, .unset, .unset, .unset, .unset, .unset, .unset, .unset, .unset, .unset] [(.long p1), (.ref b9), (.ref b9)]))) (fun t ht => XT.lloadN X9.here hx rfl (hb hby at_23) rfl ht) ?_
    obtain ⟨_, _, ⟨T10, L10, k10, n10⟩, -, X10, ⟨Lc10, hQ10, l10, y10, z10⟩, st10⟩ := X9.specialBack hx (y := (⟨"com/example/eigentuple/eigentuple/io/SplitMix", "<init>", "(J)V"⟩ : MethodName)) rfl hown (mvT hZ (hw _ (List.mem_of_getElem? (i := 4) rfl))) (mvT hZ (hw _ (List.mem_of_getElem? (i := 5) rfl))) (mvT hZ (hw _ (List.mem_of_getElem? (i := 6) rfl))) (by decide) (backOf (W := 1) (own_m_ini l Z a0 hw [] (b9) (p1) ((0 : Int64)) h9 n0 (Nat.le_trans Z0 K9.1) g_b9 F9_11 A9) hZ (hw _ (List.mem_of_getElem? (i := 6) rfl)) (hw _ (List.mem_of_getElem? (i := 3) rfl)) (by decide) (by decide)) (g := (mkF m 24 #[.val (.long p1), .second, .val (.int p2), .val (.int p3), .val (.int bo), .unset, .unset, .unset, .unset, .unset, .unset, .unset, .unset, .unset, .unset, .unset, .unset] [(.long p1), (.ref b9), (.ref b9)])) rfl (by rw [hml]; rfl) (Steps.refl _) (a := b9) (argsL := [(.long p1)]) (rest := [(.ref b9)]) (lenOf own_pd1 rfl) rfl (by show 2 * 0 + _ ≤ _; exact Nat.le_of_eq rfl) (hb hby at_24) (fun _ _ => ⟨rfl, e9, (by decide : 1 + 0 ≤ _), (by decide : 1 + 0 ≤ _)⟩)
    dsimp only [Pt.U, Pt.locs, Pt.cells, Pt.slots] at X10 l10 y10 z10 st10 hQ10
    subst l10 y10 z10
    obtain ⟨rfl, Nq10, Kq10, Fq10_0, Fq10_1⟩ := hQ10
    have N10 := Fr.app N0 Nq10
    have f10_0 : Exa Z T10.heap b9 "com/example/eigentuple/eigentuple/io/SplitMix" := A9.keep Kq10
    have K10 : Keep h0 T10.heap [] := K9.trans Kq10 (allS (Or.inr sz_b9) all0)
    refine own_step (U' := (T10.setTop (mkF m 27 #[.val (.long p1), .second, .val (.int p2), .val (.int p3), .val (.int bo), .unset, .unset, .unset, .unset, .unset, .unset, .unset, .unset, .unset, .unset, .unset, .unset] [(.ref b9)]))) (fun t ht => st10.trans ht) ?_
    refine own_step (U' := (T10.setTop (mkF m 29 #[.val (.long p1), .second, .val (.int p2), .val (.int p3), .val (.int bo), .val (.ref b9), .unset, .unset, .unset, .unset, .unset, .unset, .unset, .unset, .unset, .unset, .unset] []))) (fun t ht => XS.astore X10.here hx rfl (hb hby at_27) rfl rfl (l' := #[.val (.long p1), .second, .val (.int p2), .val (.int p3), .val (.int bo), .val (.ref b9), .unset, .unset, .unset, .unset, .unset, .unset, .unset, .unset, .unset, .unset, .unset]) rfl ht) ?_
    obtain ⟨T11, h11, X11, e11, E11, A11, D11, -, st11⟩ := newO X10 hx hZ hown (hw _ (List.mem_of_getElem? (i := 1) rfl)) (hw _ (List.mem_of_getElem? (i := 2) rfl)) (hw _ (List.mem_of_getElem? (i := 3) rfl)) rfl (g := (mkF m 29 #[.val (.long p1), .second, .val (.int p2), .val (.int p3), .val (.int bo), .val (.ref b9), .unset, .unset, .unset, .unset, .unset, .unset, .unset, .unset, .unset, .unset, .unset] [])) rfl (hb hby at_29) (by decide) (by decide)
    obtain ⟨b11, g11⟩ : ∃ z, z = (T10.heap).size := ⟨_, rfl⟩
    rw [← g11] at A11 D11 st11
    have ne_b9_b11 : b9 ≠ b11 := Nat.ne_of_lt (Nat.lt_of_lt_of_le Fq10_0.lt (Nat.le_of_eq g11.symm))
    have g_b11 : n0 ≤ b11 := Nat.le_trans (Nat.le_trans Z0 K10.1) (Nat.le_of_eq g11.symm)
    have sz_b11 : h0.size ≤ b11 := Nat.le_trans K10.1 (Nat.le_of_eq g11.symm)
    have f11_0 : Fld Z h11 b9 "com/example/eigentuple/eigentuple/io/SplitMix" "state" "J" (.long p1) := Fq10_0.ext E11
    have f11_1 : Exa Z h11 b9 "com/example/eigentuple/eigentuple/io/SplitMix" := Fq10_1.ext E11
    have K11 : Keep h0 h11 [] := K10.ext E11
    have F11_11 : Fld Z h11 b11 "com/example/eigentuple/eigentuple/io/SplitMix" "state" "J" (.long (0 : Int64)) := D11 (Or.inl (hw _ (List.mem_of_getElem? (i := 11) rfl))) (ty := .long) (by decide)
    refine own_step (U' := (T11.setTop (mkF m 32 #[.val (.long p1), .second, .val (.int p2), .val (.int p3), .val (.int bo), .val (.ref b9), .unset, .unset, .unset, .unset, .unset, .unset, .unset, .unset, .unset, .unset, .unset] [(.ref b11)]))) (fun t ht => st11 _ ht) ?_
    refine own_step (U' := (T11.setTop (mkF m 33 #[.val (.long p1), .second, .val (.int p2), .val (.int p3), .val (.int bo), .val (.ref b9), .unset, .unset, .unset, .unset, .unset, .unset, .unset, .unset, .unset, .unset, .unset] [(.ref b11), (.ref b11)]))) (fun t ht => XS.dup X11.here hx rfl (hb hby at_32) rfl rfl ht) ?_
    refine own_step (U' := (T11.setTop (mkF m 34 #[.val (.long p1), .second, .val (.int p2), .val (.int p3), .val (.int bo), .val (.ref b9), .unset, .unset, .unset, .unset, .unset, .unset, .unset, .unset, .unset, .unset, .unset] [(.long p1), (.ref b11), (.ref b11)]))) (fun t ht => XT.lloadN X11.here hx rfl (hb hby at_33) rfl ht) ?_
    obtain ⟨_, _, ⟨T12, L12, k12, n12⟩, -, X12, ⟨Lc12, hQ12, l12, y12, z12⟩, st12⟩ := X11.specialBack hx (y := (⟨"com/example/eigentuple/eigentuple/io/SplitMix", "<init>", "(J)V"⟩ : MethodName)) rfl hown (mvT hZ (hw _ (List.mem_of_getElem? (i := 4) rfl))) (mvT hZ (hw _ (List.mem_of_getElem? (i := 5) rfl))) (mvT hZ (hw _ (List.mem_of_getElem? (i := 6) rfl))) (by decide) (backOf (W := 1) (own_m_ini l Z a0 hw [] (b11) (p1) ((0 : Int64)) h11 n0 (Nat.le_trans Z0 K11.1) g_b11 F11_11 A11) hZ (hw _ (List.mem_of_getElem? (i := 6) rfl)) (hw _ (List.mem_of_getElem? (i := 3) rfl)) (by decide) (by decide)) (g := (mkF m 34 #[.val (.long p1), .second, .val (.int p2), .val (.int p3), .val (.int bo), .val (.ref b9), .unset, .unset, .unset, .unset, .unset, .unset, .unset, .unset, .unset, .unset, .unset] [(.long p1), (.ref b11), (.ref b11)])) rfl (by rw [hml]; rfl) (Steps.refl _) (a := b11) (argsL := [(.long p1)]) (rest := [(.ref b11)]) (lenOf own_pd1 rfl) rfl (by show 2 * 0 + _ ≤ _; exact Nat.le_of_eq rfl) (hb hby at_34) (fun _ _ => ⟨rfl, e11, (by decide : 2 + 0 ≤ _), (by decide : 2 + 0 ≤ _)⟩)
    dsimp only [Pt.U, Pt.locs, Pt.cells, Pt.slots] at X12 l12 y12 z12 st12 hQ12
    subst l12 y12 z12
    obtain ⟨rfl, Nq12, Kq12, Fq12_0, Fq12_1⟩ := hQ12
    have N12 := Fr.app N10 Nq12
    have f12_0 : Fld Z T12.heap b9 "com/example/eigentuple/eigentuple/io/SplitMix" "state" "J" (.long p1) := f11_0.keep Kq12 (ninS ne_b9_b11 nin0)
    have f12_1 : Exa Z T12.heap b9 "com/example/eigentuple/eigentuple/io/SplitMix" := f11_1.keep Kq12
    have f12_2 : Exa Z T12.heap b11 "com/example/eigentuple/eigentuple/io/SplitMix" := A11.keep Kq12
    have K12 : Keep h0 T12.heap [] := K11.trans Kq12 (allS (Or.inr sz_b11) all0)
    refine own_step (U' := (T12.setTop (mkF m 37 #[.val (.long p1), .second, .val (.int p2), .val (.int p3), .val (.int bo), .val (.ref b9), .unset, .unset, .unset, .unset, .unset, .unset, .unset, .unset, .unset, .unset, .unset] [(.ref b11)]))) (fun t ht => st12.trans ht) ?_
    refine own_step (U' := (T12.setTop (mkF m 39 #[.val (.long p1), .second, .val (.int p2), .val (.int p3), .val (.int bo), .val (.ref b9), .val (.ref b11), .unset, .unset, .unset, .unset, .unset, .unset, .unset, .unset, .unset, .unset] []))) (fun t ht => XS.astore X12.here hx rfl (hb hby at_37) rfl rfl (l' := #[.val (.long p1), .second, .val (.int p2), .val (.int p3), .val (.int bo), .val (.ref b9), .val (.ref b11), .unset, .unset, .unset, .unset, .unset, .unset, .unset, .unset, .unset, .unset]) rfl ht) ?_
    refine own_step (U' := (T12.setTop (mkF m 41 #[.val (.long p1), .second, .val (.int p2), .val (.int p3), .val (.int bo), .val (.ref b9), .val (.ref b11), .unset, .unset, .unset, .unset, .unset, .unset, .unset, .unset, .unset, .unset] [(.ref b9)]))) (fun t ht => XS.aload X12.here hx rfl (hb hby at_39) rfl rfl ht) ?_
    refine own_step (U' := (T12.setTop (mkF m 43 #[.val (.long p1), .second, .val (.int p2), .val (.int p3), .val (.int bo), .val (.ref b9), .val (.ref b11), .unset, .unset, .unset, .unset, .unset, .unset, .unset, .unset, .unset, .unset] [(.int bo), (.ref b9)]))) (fun t ht => XS.iload X12.here hx rfl (hb hby at_41) rfl ht) ?_
    obtain ⟨cq13, kq13, q13a, q13b, q13c⟩ := isOf hZ rfl f12_1
    obtain ⟨_, _, ⟨T13, L13, k13, n13⟩, -, X13, ⟨Lc13, hQ13, l13, y13, z13⟩, st13⟩ := X12.virtualBack hx (y := (⟨"com/example/eigentuple/eigentuple/io/SplitMix", "nextInt", "(I)I"⟩ : MethodName)) (z := (⟨"com/example/eigentuple/eigentuple/io/SplitMix", "nextInt", "(I)I"⟩ : MethodName)) hown (mvT hZ (hw _ (List.mem_of_getElem? (i := 12) rfl))) (mvT hZ (hw _ (List.mem_of_getElem? (i := 13) rfl))) (notFace_of_selects (args := #[]) (mvT hZ (hw _ (List.mem_of_getElem? (i := 15) rfl)))) (mvT hZ (hw _ (List.mem_of_getElem? (i := 15) rfl))) (mvT hZ (hw _ (List.mem_of_getElem? (i := 14) rfl))) (by decide) (backOf (W := 0) (own_m_ni l Z a0 hw [] (b9) (bo) (p1) T12.heap n0 (Nat.le_trans Z0 K12.1) g_b9 f12_0 f12_1 hbd) hZ (hw _ (List.mem_of_getElem? (i := 16) rfl)) (hw _ (List.mem_of_getElem? (i := 3) rfl)) (by decide) (by decide)) q13a q13c (g := (mkF m 43 #[.val (.long p1), .second, .val (.int p2), .val (.int p3), .val (.int bo), .val (.ref b9), .val (.ref b11), .unset, .unset, .unset, .unset, .unset, .unset, .unset, .unset, .unset, .unset] [(.int bo), (.ref b9)])) rfl (by rw [hml]; rfl) (Steps.refl _) (argsL := [(.int bo)]) (rest := []) (lenOf own_pd2 rfl) rfl (by show 2 * 0 + _ ≤ _; exact Nat.le_of_eq rfl) (hb hby at_43) (fun _ _ => ⟨rfl, rfl, (by decide : 2 + 0 ≤ _), (by decide : 2 + 0 ≤ _)⟩)
    dsimp only [Pt.U, Pt.locs, Pt.cells, Pt.slots] at X13 l13 y13 z13 st13 hQ13
    subst l13 y13 z13
    obtain ⟨cf_13, rfl, Nq13, Kq13, p13_0, p13_1, Fq13_0, Fq13_1⟩ := hQ13
    have N13 := Fr.app N12 Nq13
    have f13_1 : Exa Z T13.heap b9 "com/example/eigentuple/eigentuple/io/SplitMix" := f12_1.keep Kq13
    have f13_2 : Fld Z T13.heap b11 "com/example/eigentuple/eigentuple/io/SplitMix" "state" "J" (.long p1) := Fq12_0.keep Kq13 (ninS (Ne.symm ne_b9_b11) nin0)
    have f13_3 : Exa Z T13.heap b11 "com/example/eigentuple/eigentuple/io/SplitMix" := Fq12_1.keep Kq13
    have K13 : Keep h0 T13.heap [] := K12.trans Kq13 (allS (Or.inr sz_b9) all0)
    refine own_step (U' := (T13.setTop (mkF m 46 #[.val (.long p1), .second, .val (.int p2), .val (.int p3), .val (.int bo), .val (.ref b9), .val (.ref b11), .unset, .unset, .unset, .unset, .unset, .unset, .unset, .unset, .unset, .unset] [(.int (own_r cf_13 bo))]))) (fun t ht => st13.trans ht) ?_
    refine own_step (U' := (T13.setTop (mkF m 48 #[.val (.long p1), .second, .val (.int p2), .val (.int p3), .val (.int bo), .val (.ref b9), .val (.ref b11), .val (.int (own_r cf_13 bo)), .unset, .unset, .unset, .unset, .unset, .unset, .unset, .unset, .unset] []))) (fun t ht => XS.istore X13.here hx rfl (hb hby at_46) rfl (l' := #[.val (.long p1), .second, .val (.int p2), .val (.int p3), .val (.int bo), .val (.ref b9), .val (.ref b11), .val (.int (own_r cf_13 bo)), .unset, .unset, .unset, .unset, .unset, .unset, .unset, .unset, .unset]) rfl ht) ?_
    refine own_step (U' := (T13.setTop (mkF m 50 #[.val (.long p1), .second, .val (.int p2), .val (.int p3), .val (.int bo), .val (.ref b9), .val (.ref b11), .val (.int (own_r cf_13 bo)), .unset, .unset, .unset, .unset, .unset, .unset, .unset, .unset, .unset] [(.int bo)]))) (fun t ht => XS.iload X13.here hx rfl (hb hby at_48) rfl ht) ?_
    refine own_step (U' := (T13.setTop (mkF m 51 #[.val (.long p1), .second, .val (.int p2), .val (.int p3), .val (.int bo), .val (.ref b9), .val (.ref b11), .val (.int (own_r cf_13 bo)), .unset, .unset, .unset, .unset, .unset, .unset, .unset, .unset, .unset] [(.long (bo.toInt64))]))) (fun t ht => XT.i2l X13.here hx rfl (hb hby at_50) rfl ht) ?_
    refine own_step (U' := (T13.setTop (mkF m 53 #[.val (.long p1), .second, .val (.int p2), .val (.int p3), .val (.int bo), .val (.ref b9), .val (.ref b11), .val (.int (own_r cf_13 bo)), .val (.long (bo.toInt64)), .second, .unset, .unset, .unset, .unset, .unset, .unset, .unset] []))) (fun t ht => XT.lstore X13.here hx rfl (hb hby at_51) rfl (l' := #[.val (.long p1), .second, .val (.int p2), .val (.int p3), .val (.int bo), .val (.ref b9), .val (.ref b11), .val (.int (own_r cf_13 bo)), .val (.long (bo.toInt64)), .second, .unset, .unset, .unset, .unset, .unset, .unset, .unset]) rfl ht) ?_
    refine own_step (U' := (T13.setTop (mkF m 56 #[.val (.long p1), .second, .val (.int p2), .val (.int p3), .val (.int bo), .val (.ref b9), .val (.ref b11), .val (.int (own_r cf_13 bo)), .val (.long (bo.toInt64)), .second, .unset, .unset, .unset, .unset, .unset, .unset, .unset] [(.long (4294967296 : Int64))]))) (fun t ht => X13.ldc2Long hx hown (mvT hZ (hw _ (List.mem_of_getElem? (i := 26) rfl))) (g := (mkF m 53 #[.val (.long p1), .second, .val (.int p2), .val (.int p3), .val (.int bo), .val (.ref b9), .val (.ref b11), .val (.int (own_r cf_13 bo)), .val (.long (bo.toInt64)), .second, .unset, .unset, .unset, .unset, .unset, .unset, .unset] [])) rfl (hb hby at_53) _ ht) ?_
    refine own_step (U' := (T13.setTop (mkF m 58 #[.val (.long p1), .second, .val (.int p2), .val (.int p3), .val (.int bo), .val (.ref b9), .val (.ref b11), .val (.int (own_r cf_13 bo)), .val (.long (bo.toInt64)), .second, .unset, .unset, .unset, .unset, .unset, .unset, .unset] [(.long (bo.toInt64)), (.long (4294967296 : Int64))]))) (fun t ht => XT.lload X13.here hx rfl (hb hby at_56) rfl ht) ?_
    refine own_step (U' := (T13.setTop (mkF m 59 #[.val (.long p1), .second, .val (.int p2), .val (.int p3), .val (.int bo), .val (.ref b9), .val (.ref b11), .val (.int (own_r cf_13 bo)), .val (.long (bo.toInt64)), .second, .unset, .unset, .unset, .unset, .unset, .unset, .unset] [(.long ((4294967296 : Int64) / (bo.toInt64)))]))) (fun t ht => XT.ldiv X13.here hx rfl (hb hby at_58) rfl (own_nz hbd) ht) ?_
    refine own_step (U' := (T13.setTop (mkF m 61 #[.val (.long p1), .second, .val (.int p2), .val (.int p3), .val (.int bo), .val (.ref b9), .val (.ref b11), .val (.int (own_r cf_13 bo)), .val (.long (bo.toInt64)), .second, .val (.long ((4294967296 : Int64) / (bo.toInt64))), .second, .unset, .unset, .unset, .unset, .unset] []))) (fun t ht => XT.lstore X13.here hx rfl (hb hby at_59) rfl (l' := #[.val (.long p1), .second, .val (.int p2), .val (.int p3), .val (.int bo), .val (.ref b9), .val (.ref b11), .val (.int (own_r cf_13 bo)), .val (.long (bo.toInt64)), .second, .val (.long ((4294967296 : Int64) / (bo.toInt64))), .second, .unset, .unset, .unset, .unset, .unset]) rfl ht) ?_
    refine own_step (U' := (T13.setTop (mkF m 63 #[.val (.long p1), .second, .val (.int p2), .val (.int p3), .val (.int bo), .val (.ref b9), .val (.ref b11), .val (.int (own_r cf_13 bo)), .val (.long (bo.toInt64)), .second, .val (.long ((4294967296 : Int64) / (bo.toInt64))), .second, .unset, .unset, .unset, .unset, .unset] [(.ref b11)]))) (fun t ht => XS.aload X13.here hx rfl (hb hby at_61) rfl rfl ht) ?_
    obtain ⟨cq14, kq14, q14a, q14b, q14c⟩ := isOf hZ rfl f13_3
    obtain ⟨_, _, ⟨T14, L14, k14, n14⟩, -, X14, ⟨Lc14, hQ14, l14, y14, z14⟩, st14⟩ := X13.virtualBack hx (y := (⟨"com/example/eigentuple/eigentuple/io/SplitMix", "nextLong", "()J"⟩ : MethodName)) (z := (⟨"com/example/eigentuple/eigentuple/io/SplitMix", "nextLong", "()J"⟩ : MethodName)) hown (mvT hZ (hw _ (List.mem_of_getElem? (i := 27) rfl))) (mvT hZ (hw _ (List.mem_of_getElem? (i := 19) rfl))) (notFace_of_selects (args := #[]) (mvT hZ (hw _ (List.mem_of_getElem? (i := 21) rfl)))) (mvT hZ (hw _ (List.mem_of_getElem? (i := 21) rfl))) (mvT hZ (hw _ (List.mem_of_getElem? (i := 20) rfl))) (by decide) (backOf (W := 0) (own_m_nl l Z a0 hw [] (b11) (p1) T13.heap n0 (Nat.le_trans Z0 K13.1) g_b11 f13_2 f13_3) hZ (hw _ (List.mem_of_getElem? (i := 22) rfl)) (hw _ (List.mem_of_getElem? (i := 3) rfl)) (by decide) (by decide)) q14a q14c (g := (mkF m 63 #[.val (.long p1), .second, .val (.int p2), .val (.int p3), .val (.int bo), .val (.ref b9), .val (.ref b11), .val (.int (own_r cf_13 bo)), .val (.long (bo.toInt64)), .second, .val (.long ((4294967296 : Int64) / (bo.toInt64))), .second, .unset, .unset, .unset, .unset, .unset] [(.ref b11)])) rfl (by rw [hml]; rfl) (Steps.refl _) (argsL := []) (rest := []) (lenOf own_pd0 rfl) rfl (by show 2 * 0 + _ ≤ _; exact Nat.le_of_eq rfl) (hb hby at_63) (fun _ _ => ⟨rfl, rfl, (by decide : 2 + 0 ≤ _), (by decide : 2 + 0 ≤ _)⟩)
    dsimp only [Pt.U, Pt.locs, Pt.cells, Pt.slots] at X14 l14 y14 z14 st14 hQ14
    subst l14 y14 z14
    obtain ⟨rfl, Nq14, Kq14, Fq14_0, Fq14_1⟩ := hQ14
    have N14 := Fr.app N13 Nq14
    have f14_1 : Exa Z T14.heap b11 "com/example/eigentuple/eigentuple/io/SplitMix" := f13_3.keep Kq14
    have f14_2 : Fld Z T14.heap b9 "com/example/eigentuple/eigentuple/io/SplitMix" "state" "J" (.long cf_13) := Fq13_0.keep Kq14 (ninS ne_b9_b11 nin0)
    have f14_3 : Exa Z T14.heap b9 "com/example/eigentuple/eigentuple/io/SplitMix" := Fq13_1.keep Kq14
    have K14 : Keep h0 T14.heap [] := K13.trans Kq14 (allS (Or.inr sz_b11) all0)
    refine own_step (U' := (T14.setTop (mkF m 66 #[.val (.long p1), .second, .val (.int p2), .val (.int p3), .val (.int bo), .val (.ref b9), .val (.ref b11), .val (.int (own_r cf_13 bo)), .val (.long (bo.toInt64)), .second, .val (.long ((4294967296 : Int64) / (bo.toInt64))), .second, .unset, .unset, .unset, .unset, .unset] [(.long (own_mix (p1 + (-7046029254386353131 : Int64))))]))) (fun t ht => st14.trans ht) ?_
    refine own_step (U' := (T14.setTop (mkF m 68 #[.val (.long p1), .second, .val (.int p2), .val (.int p3), .val (.int bo), .val (.ref b9), .val (.ref b11), .val (.int (own_r cf_13 bo)), .val (.long (bo.toInt64)), .second, .val (.long ((4294967296 : Int64) / (bo.toInt64))), .second, .unset, .unset, .unset, .unset, .unset] [(.int (32 : Int32)), (.long (own_mix (p1 + (-7046029254386353131 : Int64))))]))) (fun t ht => XS.bipush X14.here hx rfl (hb hby at_66) ht) ?_
    refine own_step (U' := (T14.setTop (mkF m 69 #[.val (.long p1), .second, .val (.int p2), .val (.int p3), .val (.int bo), .val (.ref b9), .val (.ref b11), .val (.int (own_r cf_13 bo)), .val (.long (bo.toInt64)), .second, .val (.long ((4294967296 : Int64) / (bo.toInt64))), .second, .unset, .unset, .unset, .unset, .unset] [(.long (XT.ushrL (own_mix (p1 + (-7046029254386353131 : Int64))) (32 : Int32)))]))) (fun t ht => XT.lushr X14.here hx rfl (hb hby at_68) rfl ht) ?_
    refine own_step (U' := (T14.setTop (mkF m 71 #[.val (.long p1), .second, .val (.int p2), .val (.int p3), .val (.int bo), .val (.ref b9), .val (.ref b11), .val (.int (own_r cf_13 bo)), .val (.long (bo.toInt64)), .second, .val (.long ((4294967296 : Int64) / (bo.toInt64))), .second, .val (.long (XT.ushrL (own_mix (p1 + (-7046029254386353131 : Int64))) (32 : Int32))), .second, .unset, .unset, .unset] []))) (fun t ht => XT.lstore X14.here hx rfl (hb hby at_69) rfl (l' := #[.val (.long p1), .second, .val (.int p2), .val (.int p3), .val (.int bo), .val (.ref b9), .val (.ref b11), .val (.int (own_r cf_13 bo)), .val (.long (bo.toInt64)), .second, .val (.long ((4294967296 : Int64) / (bo.toInt64))), .second, .val (.long (XT.ushrL (own_mix (p1 + (-7046029254386353131 : Int64))) (32 : Int32))), .second, .unset, .unset, .unset]) rfl ht) ?_
    refine own_step (U' := (T14.setTop (mkF m 73 #[.val (.long p1), .second, .val (.int p2), .val (.int p3), .val (.int bo), .val (.ref b9), .val (.ref b11), .val (.int (own_r cf_13 bo)), .val (.long (bo.toInt64)), .second, .val (.long ((4294967296 : Int64) / (bo.toInt64))), .second, .val (.long (XT.ushrL (own_mix (p1 + (-7046029254386353131 : Int64))) (32 : Int32))), .second, .unset, .unset, .unset] [(.long (XT.ushrL (own_mix (p1 + (-7046029254386353131 : Int64))) (32 : Int32)))]))) (fun t ht => XT.lload X14.here hx rfl (hb hby at_71) rfl ht) ?_
    refine own_step (U' := (T14.setTop (mkF m 75 #[.val (.long p1), .second, .val (.int p2), .val (.int p3), .val (.int bo), .val (.ref b9), .val (.ref b11), .val (.int (own_r cf_13 bo)), .val (.long (bo.toInt64)), .second, .val (.long ((4294967296 : Int64) / (bo.toInt64))), .second, .val (.long (XT.ushrL (own_mix (p1 + (-7046029254386353131 : Int64))) (32 : Int32))), .second, .unset, .unset, .unset] [(.long (bo.toInt64)), (.long (XT.ushrL (own_mix (p1 + (-7046029254386353131 : Int64))) (32 : Int32)))]))) (fun t ht => XT.lload X14.here hx rfl (hb hby at_73) rfl ht) ?_
    refine own_step (U' := (T14.setTop (mkF m 76 #[.val (.long p1), .second, .val (.int p2), .val (.int p3), .val (.int bo), .val (.ref b9), .val (.ref b11), .val (.int (own_r cf_13 bo)), .val (.long (bo.toInt64)), .second, .val (.long ((4294967296 : Int64) / (bo.toInt64))), .second, .val (.long (XT.ushrL (own_mix (p1 + (-7046029254386353131 : Int64))) (32 : Int32))), .second, .unset, .unset, .unset] [(.long ((XT.ushrL (own_mix (p1 + (-7046029254386353131 : Int64))) (32 : Int32)) / (bo.toInt64)))]))) (fun t ht => XT.ldiv X14.here hx rfl (hb hby at_75) rfl (own_nz hbd) ht) ?_
    refine own_step (U' := (T14.setTop (mkF m 78 #[.val (.long p1), .second, .val (.int p2), .val (.int p3), .val (.int bo), .val (.ref b9), .val (.ref b11), .val (.int (own_r cf_13 bo)), .val (.long (bo.toInt64)), .second, .val (.long ((4294967296 : Int64) / (bo.toInt64))), .second, .val (.long (XT.ushrL (own_mix (p1 + (-7046029254386353131 : Int64))) (32 : Int32))), .second, .unset, .unset, .unset] [(.long ((4294967296 : Int64) / (bo.toInt64))), (.long ((XT.ushrL (own_mix (p1 + (-7046029254386353131 : Int64))) (32 : Int32)) / (bo.toInt64)))]))) (fun t ht => XT.lload X14.here hx rfl (hb hby at_76) rfl ht) ?_
    refine own_step (U' := (T14.setTop (mkF m 79 #[.val (.long p1), .second, .val (.int p2), .val (.int p3), .val (.int bo), .val (.ref b9), .val (.ref b11), .val (.int (own_r cf_13 bo)), .val (.long (bo.toInt64)), .second, .val (.long ((4294967296 : Int64) / (bo.toInt64))), .second, .val (.long (XT.ushrL (own_mix (p1 + (-7046029254386353131 : Int64))) (32 : Int32))), .second, .unset, .unset, .unset] [(.int (XT.cmpL ((XT.ushrL (own_mix (p1 + (-7046029254386353131 : Int64))) (32 : Int32)) / (bo.toInt64)) ((4294967296 : Int64) / (bo.toInt64))))]))) (fun t ht => XT.lcmp X14.here hx rfl (hb hby at_78) rfl ht) ?_
    by_cases hc79_15 : ((XT.ushrL (own_mix (p1 + (-7046029254386353131 : Int64))) (32 : Int32)) / (bo.toInt64)) < ((4294967296 : Int64) / (bo.toInt64))
    ·
      refine own_step (U' := (T14.setTop (mkF m 126 #[.val (.long p1), .second, .val (.int p2), .val (.int p3), .val (.int bo), .val (.ref b9), .val (.ref b11), .val (.int (own_r cf_13 bo)), .val (.long (bo.toInt64)), .second, .val (.long ((4294967296 : Int64) / (bo.toInt64))), .second, .val (.long (XT.ushrL (own_mix (p1 + (-7046029254386353131 : Int64))) (32 : Int32))), .second, .unset, .unset, .unset] []))) (fun t ht => XS.ifYes X14.here hx rfl (pc0 := 79) (pc' := 126) rfl (hb hby at_79) rfl (XT.ll_lt_t hc79_15) (by decide) (by decide) ht) ?_
      have hcf : cf_13 = (p1 + (-7046029254386353131 : Int64)) := (own_c1 p13_0 ((own_acc hbd _).mp hc79_15))
      refine own_step (U' := (T14.setTop (mkF m 128 #[.val (.long p1), .second, .val (.int p2), .val (.int p3), .val (.int bo), .val (.ref b9), .val (.ref b11), .val (.int (own_r cf_13 bo)), .val (.long (bo.toInt64)), .second, .val (.long ((4294967296 : Int64) / (bo.toInt64))), .second, .val (.long (XT.ushrL (own_mix (p1 + (-7046029254386353131 : Int64))) (32 : Int32))), .second, .unset, .unset, .unset] [(.int (own_r cf_13 bo))]))) (fun t ht => XS.iload X14.here hx rfl (hb hby at_126) rfl ht) ?_
      refine own_step (U' := (T14.setTop (mkF m 131 #[.val (.long p1), .second, .val (.int p2), .val (.int p3), .val (.int bo), .val (.ref b9), .val (.ref b11), .val (.int (own_r cf_13 bo)), .val (.long (bo.toInt64)), .second, .val (.long ((4294967296 : Int64) / (bo.toInt64))), .second, .val (.long (XT.ushrL (own_mix (p1 + (-7046029254386353131 : Int64))) (32 : Int32))), .second, .unset, .unset, .unset] []))) (fun t ht => XS.ifNo X14.here hx rfl (hb hby at_128) rfl (XT.i0_lt_f ((own_r0 hbd _) : ¬ ((own_r cf_13 bo) < 0))) ht) ?_
      refine own_step (U' := (T14.setTop (mkF m 133 #[.val (.long p1), .second, .val (.int p2), .val (.int p3), .val (.int bo), .val (.ref b9), .val (.ref b11), .val (.int (own_r cf_13 bo)), .val (.long (bo.toInt64)), .second, .val (.long ((4294967296 : Int64) / (bo.toInt64))), .second, .val (.long (XT.ushrL (own_mix (p1 + (-7046029254386353131 : Int64))) (32 : Int32))), .second, .unset, .unset, .unset] [(.int (own_r cf_13 bo))]))) (fun t ht => XS.iload X14.here hx rfl (hb hby at_131) rfl ht) ?_
      refine own_step (U' := (T14.setTop (mkF m 135 #[.val (.long p1), .second, .val (.int p2), .val (.int p3), .val (.int bo), .val (.ref b9), .val (.ref b11), .val (.int (own_r cf_13 bo)), .val (.long (bo.toInt64)), .second, .val (.long ((4294967296 : Int64) / (bo.toInt64))), .second, .val (.long (XT.ushrL (own_mix (p1 + (-7046029254386353131 : Int64))) (32 : Int32))), .second, .unset, .unset, .unset] [(.int bo), (.int (own_r cf_13 bo))]))) (fun t ht => XS.iload X14.here hx rfl (hb hby at_133) rfl ht) ?_
      refine own_step (U' := (T14.setTop (mkF m 138 #[.val (.long p1), .second, .val (.int p2), .val (.int p3), .val (.int bo), .val (.ref b9), .val (.ref b11), .val (.int (own_r cf_13 bo)), .val (.long (bo.toInt64)), .second, .val (.long ((4294967296 : Int64) / (bo.toInt64))), .second, .val (.long (XT.ushrL (own_mix (p1 + (-7046029254386353131 : Int64))) (32 : Int32))), .second, .unset, .unset, .unset] []))) (fun t ht => XS.icmpNo X14.here hx rfl (hb hby at_135) rfl (XT.ii_ge_f ((own_rb hbd _) : (own_r cf_13 bo) < bo)) ht) ?_
      refine own_step (U' := (T14.setTop (mkF m 139 #[.val (.long p1), .second, .val (.int p2), .val (.int p3), .val (.int bo), .val (.ref b9), .val (.ref b11), .val (.int (own_r cf_13 bo)), .val (.long (bo.toInt64)), .second, .val (.long ((4294967296 : Int64) / (bo.toInt64))), .second, .val (.long (XT.ushrL (own_mix (p1 + (-7046029254386353131 : Int64))) (32 : Int32))), .second, .unset, .unset, .unset] [(.int (1 : Int32))]))) (fun t ht => XS.iconst X14.here hx rfl (hb hby at_138) ht) ?_
      refine own_step (U' := (T14.setTop (mkF m 143 #[.val (.long p1), .second, .val (.int p2), .val (.int p3), .val (.int bo), .val (.ref b9), .val (.ref b11), .val (.int (own_r cf_13 bo)), .val (.long (bo.toInt64)), .second, .val (.long ((4294967296 : Int64) / (bo.toInt64))), .second, .val (.long (XT.ushrL (own_mix (p1 + (-7046029254386353131 : Int64))) (32 : Int32))), .second, .unset, .unset, .unset] [(.int (1 : Int32))]))) (fun t ht => XS.goto X14.here hx rfl (pc0 := 139) (pc' := 143) rfl (hb hby at_139) (by decide) (by decide) ht) ?_
      refine own_step (U' := (T14.setTop (mkF m 145 #[.val (.long p1), .second, .val (.int p2), .val (.int p3), .val (.int bo), .val (.ref b9), .val (.ref b11), .val (.int (own_r cf_13 bo)), .val (.long (bo.toInt64)), .second, .val (.long ((4294967296 : Int64) / (bo.toInt64))), .second, .val (.long (XT.ushrL (own_mix (p1 + (-7046029254386353131 : Int64))) (32 : Int32))), .second, .val (.int (1 : Int32)), .unset, .unset] []))) (fun t ht => XS.istore X14.here hx rfl (hb hby at_143) rfl (l' := #[.val (.long p1), .second, .val (.int p2), .val (.int p3), .val (.int bo), .val (.ref b9), .val (.ref b11), .val (.int (own_r cf_13 bo)), .val (.long (bo.toInt64)), .second, .val (.long ((4294967296 : Int64) / (bo.toInt64))), .second, .val (.long (XT.ushrL (own_mix (p1 + (-7046029254386353131 : Int64))) (32 : Int32))), .second, .val (.int (1 : Int32)), .unset, .unset]) rfl ht) ?_
      refine own_step (U' := (T14.setTop (mkF m 147 #[.val (.long p1), .second, .val (.int p2), .val (.int p3), .val (.int bo), .val (.ref b9), .val (.ref b11), .val (.int (own_r cf_13 bo)), .val (.long (bo.toInt64)), .second, .val (.long ((4294967296 : Int64) / (bo.toInt64))), .second, .val (.long (XT.ushrL (own_mix (p1 + (-7046029254386353131 : Int64))) (32 : Int32))), .second, .val (.int (1 : Int32)), .unset, .unset] [(.int (own_r cf_13 bo))]))) (fun t ht => XS.iload X14.here hx rfl (hb hby at_145) rfl ht) ?_
      refine own_step (U' := (T14.setTop (mkF m 149 #[.val (.long p1), .second, .val (.int p2), .val (.int p3), .val (.int bo), .val (.ref b9), .val (.ref b11), .val (.int (own_r cf_13 bo)), .val (.long (bo.toInt64)), .second, .val (.long ((4294967296 : Int64) / (bo.toInt64))), .second, .val (.long (XT.ushrL (own_mix (p1 + (-7046029254386353131 : Int64))) (32 : Int32))), .second, .val (.int (1 : Int32)), .unset, .unset] [(.long (XT.ushrL (own_mix (p1 + (-7046029254386353131 : Int64))) (32 : Int32))), (.int (own_r cf_13 bo))]))) (fun t ht => XT.lload X14.here hx rfl (hb hby at_147) rfl ht) ?_
      refine own_step (U' := (T14.setTop (mkF m 151 #[.val (.long p1), .second, .val (.int p2), .val (.int p3), .val (.int bo), .val (.ref b9), .val (.ref b11), .val (.int (own_r cf_13 bo)), .val (.long (bo.toInt64)), .second, .val (.long ((4294967296 : Int64) / (bo.toInt64))), .second, .val (.long (XT.ushrL (own_mix (p1 + (-7046029254386353131 : Int64))) (32 : Int32))), .second, .val (.int (1 : Int32)), .unset, .unset] [(.long (bo.toInt64)), (.long (XT.ushrL (own_mix (p1 + (-7046029254386353131 : Int64))) (32 : Int32))), (.int (own_r cf_13 bo))]))) (fun t ht => XT.lload X14.here hx rfl (hb hby at_149) rfl ht) ?_
      refine own_step (U' := (T14.setTop (mkF m 152 #[.val (.long p1), .second, .val (.int p2), .val (.int p3), .val (.int bo), .val (.ref b9), .val (.ref b11), .val (.int (own_r cf_13 bo)), .val (.long (bo.toInt64)), .second, .val (.long ((4294967296 : Int64) / (bo.toInt64))), .second, .val (.long (XT.ushrL (own_mix (p1 + (-7046029254386353131 : Int64))) (32 : Int32))), .second, .val (.int (1 : Int32)), .unset, .unset] [(.long (own_lrem (XT.ushrL (own_mix (p1 + (-7046029254386353131 : Int64))) (32 : Int32)) (bo.toInt64))), (.int (own_r cf_13 bo))]))) (fun t ht => XT.lrem X14.here hx rfl (hb hby at_151) rfl (own_nz hbd) ht) ?_
      refine own_step (U' := (T14.setTop (mkF m 153 #[.val (.long p1), .second, .val (.int p2), .val (.int p3), .val (.int bo), .val (.ref b9), .val (.ref b11), .val (.int (own_r cf_13 bo)), .val (.long (bo.toInt64)), .second, .val (.long ((4294967296 : Int64) / (bo.toInt64))), .second, .val (.long (XT.ushrL (own_mix (p1 + (-7046029254386353131 : Int64))) (32 : Int32))), .second, .val (.int (1 : Int32)), .unset, .unset] [(.int ((own_lrem (XT.ushrL (own_mix (p1 + (-7046029254386353131 : Int64))) (32 : Int32)) (bo.toInt64)).toInt32)), (.int (own_r cf_13 bo))]))) (fun t ht => XT.l2i X14.here hx rfl (hb hby at_152) rfl ht) ?_
      refine own_step (U' := (T14.setTop (mkF m 156 #[.val (.long p1), .second, .val (.int p2), .val (.int p3), .val (.int bo), .val (.ref b9), .val (.ref b11), .val (.int (own_r cf_13 bo)), .val (.long (bo.toInt64)), .second, .val (.long ((4294967296 : Int64) / (bo.toInt64))), .second, .val (.long (XT.ushrL (own_mix (p1 + (-7046029254386353131 : Int64))) (32 : Int32))), .second, .val (.int (1 : Int32)), .unset, .unset] []))) (fun t ht => XS.icmpNo X14.here hx rfl (hb hby at_153) rfl (XT.ii_ne_f ((by rw [hcf]; rfl) : (own_r cf_13 bo) = ((own_lrem (XT.ushrL (own_mix (p1 + (-7046029254386353131 : Int64))) (32 : Int32)) (bo.toInt64)).toInt32))) ht) ?_
      refine own_step (U' := (T14.setTop (mkF m 157 #[.val (.long p1), .second, .val (.int p2), .val (.int p3), .val (.int bo), .val (.ref b9), .val (.ref b11), .val (.int (own_r cf_13 bo)), .val (.long (bo.toInt64)), .second, .val (.long ((4294967296 : Int64) / (bo.toInt64))), .second, .val (.long (XT.ushrL (own_mix (p1 + (-7046029254386353131 : Int64))) (32 : Int32))), .second, .val (.int (1 : Int32)), .unset, .unset] [(.int (1 : Int32))]))) (fun t ht => XS.iconst X14.here hx rfl (hb hby at_156) ht) ?_
      refine own_step (U' := (T14.setTop (mkF m 161 #[.val (.long p1), .second, .val (.int p2), .val (.int p3), .val (.int bo), .val (.ref b9), .val (.ref b11), .val (.int (own_r cf_13 bo)), .val (.long (bo.toInt64)), .second, .val (.long ((4294967296 : Int64) / (bo.toInt64))), .second, .val (.long (XT.ushrL (own_mix (p1 + (-7046029254386353131 : Int64))) (32 : Int32))), .second, .val (.int (1 : Int32)), .unset, .unset] [(.int (1 : Int32))]))) (fun t ht => XS.goto X14.here hx rfl (pc0 := 157) (pc' := 161) rfl (hb hby at_157) (by decide) (by decide) ht) ?_
      refine own_step (U' := (T14.setTop (mkF m 163 #[.val (.long p1), .second, .val (.int p2), .val (.int p3), .val (.int bo), .val (.ref b9), .val (.ref b11), .val (.int (own_r cf_13 bo)), .val (.long (bo.toInt64)), .second, .val (.long ((4294967296 : Int64) / (bo.toInt64))), .second, .val (.long (XT.ushrL (own_mix (p1 + (-7046029254386353131 : Int64))) (32 : Int32))), .second, .val (.int (1 : Int32)), .val (.int (1 : Int32)), .unset] []))) (fun t ht => XS.istore X14.here hx rfl (hb hby at_161) rfl (l' := #[.val (.long p1), .second, .val (.int p2), .val (.int p3), .val (.int bo), .val (.ref b9), .val (.ref b11), .val (.int (own_r cf_13 bo)), .val (.long (bo.toInt64)), .second, .val (.long ((4294967296 : Int64) / (bo.toInt64))), .second, .val (.long (XT.ushrL (own_mix (p1 + (-7046029254386353131 : Int64))) (32 : Int32))), .second, .val (.int (1 : Int32)), .val (.int (1 : Int32)), .unset]) rfl ht) ?_
      refine own_step (U' := (T14.setTop (mkF m 165 #[.val (.long p1), .second, .val (.int p2), .val (.int p3), .val (.int bo), .val (.ref b9), .val (.ref b11), .val (.int (own_r cf_13 bo)), .val (.long (bo.toInt64)), .second, .val (.long ((4294967296 : Int64) / (bo.toInt64))), .second, .val (.long (XT.ushrL (own_mix (p1 + (-7046029254386353131 : Int64))) (32 : Int32))), .second, .val (.int (1 : Int32)), .val (.int (1 : Int32)), .unset] [(.ref b9)]))) (fun t ht => XS.aload X14.here hx rfl (hb hby at_163) rfl rfl ht) ?_
      obtain ⟨cq16, kq16, q16a, q16b, q16c⟩ := isOf hZ rfl f14_3
      obtain ⟨_, _, ⟨T16, L16, k16, n16⟩, -, X16, ⟨Lc16, hQ16, l16, y16, z16⟩, st16⟩ := X14.virtualBack hx (y := (⟨"com/example/eigentuple/eigentuple/io/SplitMix", "nextLong", "()J"⟩ : MethodName)) (z := (⟨"com/example/eigentuple/eigentuple/io/SplitMix", "nextLong", "()J"⟩ : MethodName)) hown (mvT hZ (hw _ (List.mem_of_getElem? (i := 27) rfl))) (mvT hZ (hw _ (List.mem_of_getElem? (i := 19) rfl))) (notFace_of_selects (args := #[]) (mvT hZ (hw _ (List.mem_of_getElem? (i := 21) rfl)))) (mvT hZ (hw _ (List.mem_of_getElem? (i := 21) rfl))) (mvT hZ (hw _ (List.mem_of_getElem? (i := 20) rfl))) (by decide) (backOf (W := 0) (own_m_nl l Z a0 hw [] (b9) (cf_13) T14.heap n0 (Nat.le_trans Z0 K14.1) g_b9 f14_2 f14_3) hZ (hw _ (List.mem_of_getElem? (i := 22) rfl)) (hw _ (List.mem_of_getElem? (i := 3) rfl)) (by decide) (by decide)) q16a q16c (g := (mkF m 165 #[.val (.long p1), .second, .val (.int p2), .val (.int p3), .val (.int bo), .val (.ref b9), .val (.ref b11), .val (.int (own_r cf_13 bo)), .val (.long (bo.toInt64)), .second, .val (.long ((4294967296 : Int64) / (bo.toInt64))), .second, .val (.long (XT.ushrL (own_mix (p1 + (-7046029254386353131 : Int64))) (32 : Int32))), .second, .val (.int (1 : Int32)), .val (.int (1 : Int32)), .unset] [(.ref b9)])) rfl (by rw [hml]; rfl) (Steps.refl _) (argsL := []) (rest := []) (lenOf own_pd0 rfl) rfl (by show 2 * 0 + _ ≤ _; exact Nat.le_of_eq rfl) (hb hby at_165) (fun _ _ => ⟨rfl, rfl, (by decide : 2 + 0 ≤ _), (by decide : 2 + 0 ≤ _)⟩)
      dsimp only [Pt.U, Pt.locs, Pt.cells, Pt.slots] at X16 l16 y16 z16 st16 hQ16
      subst l16 y16 z16
      obtain ⟨rfl, Nq16, Kq16, Fq16_0, Fq16_1⟩ := hQ16
      have N16 := Fr.app N14 Nq16
      have f16_1 : Exa Z T16.heap b9 "com/example/eigentuple/eigentuple/io/SplitMix" := f14_3.keep Kq16
      have f16_2 : Fld Z T16.heap b11 "com/example/eigentuple/eigentuple/io/SplitMix" "state" "J" (.long (p1 + (-7046029254386353131 : Int64))) := Fq14_0.keep Kq16 (ninS (Ne.symm ne_b9_b11) nin0)
      have f16_3 : Exa Z T16.heap b11 "com/example/eigentuple/eigentuple/io/SplitMix" := Fq14_1.keep Kq16
      have K16 : Keep h0 T16.heap [] := K14.trans Kq16 (allS (Or.inr sz_b9) all0)
      refine own_step (U' := (T16.setTop (mkF m 168 #[.val (.long p1), .second, .val (.int p2), .val (.int p3), .val (.int bo), .val (.ref b9), .val (.ref b11), .val (.int (own_r cf_13 bo)), .val (.long (bo.toInt64)), .second, .val (.long ((4294967296 : Int64) / (bo.toInt64))), .second, .val (.long (XT.ushrL (own_mix (p1 + (-7046029254386353131 : Int64))) (32 : Int32))), .second, .val (.int (1 : Int32)), .val (.int (1 : Int32)), .unset] [(.long (own_mix (cf_13 + (-7046029254386353131 : Int64))))]))) (fun t ht => st16.trans ht) ?_
      refine own_step (U' := (T16.setTop (mkF m 170 #[.val (.long p1), .second, .val (.int p2), .val (.int p3), .val (.int bo), .val (.ref b9), .val (.ref b11), .val (.int (own_r cf_13 bo)), .val (.long (bo.toInt64)), .second, .val (.long ((4294967296 : Int64) / (bo.toInt64))), .second, .val (.long (XT.ushrL (own_mix (p1 + (-7046029254386353131 : Int64))) (32 : Int32))), .second, .val (.int (1 : Int32)), .val (.int (1 : Int32)), .unset] [(.ref b11), (.long (own_mix (cf_13 + (-7046029254386353131 : Int64))))]))) (fun t ht => XS.aload X16.here hx rfl (hb hby at_168) rfl rfl ht) ?_
      obtain ⟨cq17, kq17, q17a, q17b, q17c⟩ := isOf hZ rfl f16_3
      obtain ⟨_, _, ⟨T17, L17, k17, n17⟩, -, X17, ⟨Lc17, hQ17, l17, y17, z17⟩, st17⟩ := X16.virtualBack hx (y := (⟨"com/example/eigentuple/eigentuple/io/SplitMix", "nextLong", "()J"⟩ : MethodName)) (z := (⟨"com/example/eigentuple/eigentuple/io/SplitMix", "nextLong", "()J"⟩ : MethodName)) hown (mvT hZ (hw _ (List.mem_of_getElem? (i := 27) rfl))) (mvT hZ (hw _ (List.mem_of_getElem? (i := 19) rfl))) (notFace_of_selects (args := #[]) (mvT hZ (hw _ (List.mem_of_getElem? (i := 21) rfl)))) (mvT hZ (hw _ (List.mem_of_getElem? (i := 21) rfl))) (mvT hZ (hw _ (List.mem_of_getElem? (i := 20) rfl))) (by decide) (backOf (W := 2) (own_m_nl l Z a0 hw [] (b11) ((p1 + (-7046029254386353131 : Int64))) T16.heap n0 (Nat.le_trans Z0 K16.1) g_b11 f16_2 f16_3) hZ (hw _ (List.mem_of_getElem? (i := 22) rfl)) (hw _ (List.mem_of_getElem? (i := 3) rfl)) (by decide) (by decide)) q17a q17c (g := (mkF m 170 #[.val (.long p1), .second, .val (.int p2), .val (.int p3), .val (.int bo), .val (.ref b9), .val (.ref b11), .val (.int (own_r cf_13 bo)), .val (.long (bo.toInt64)), .second, .val (.long ((4294967296 : Int64) / (bo.toInt64))), .second, .val (.long (XT.ushrL (own_mix (p1 + (-7046029254386353131 : Int64))) (32 : Int32))), .second, .val (.int (1 : Int32)), .val (.int (1 : Int32)), .unset] [(.ref b11), (.long (own_mix (cf_13 + (-7046029254386353131 : Int64))))])) rfl (by rw [hml]; rfl) (Steps.refl _) (argsL := []) (rest := [(.long (own_mix (cf_13 + (-7046029254386353131 : Int64))))]) (lenOf own_pd0 rfl) rfl (by show 2 * 0 + _ ≤ _; exact Nat.le_of_eq rfl) (hb hby at_170) (fun _ _ => ⟨rfl, rfl, (by decide : 2 + 0 ≤ _), (by decide : 2 + 0 ≤ _)⟩)
      dsimp only [Pt.U, Pt.locs, Pt.cells, Pt.slots] at X17 l17 y17 z17 st17 hQ17
      subst l17 y17 z17
      obtain ⟨rfl, Nq17, Kq17, Fq17_0, Fq17_1⟩ := hQ17
      have N17 := Fr.app N16 Nq17
      have f17_1 : Exa Z T17.heap b11 "com/example/eigentuple/eigentuple/io/SplitMix" := f16_3.keep Kq17
      have f17_2 : Fld Z T17.heap b9 "com/example/eigentuple/eigentuple/io/SplitMix" "state" "J" (.long (cf_13 + (-7046029254386353131 : Int64))) := Fq16_0.keep Kq17 (ninS ne_b9_b11 nin0)
      have f17_3 : Exa Z T17.heap b9 "com/example/eigentuple/eigentuple/io/SplitMix" := Fq16_1.keep Kq17
      have K17 : Keep h0 T17.heap [] := K16.trans Kq17 (allS (Or.inr sz_b11) all0)
      refine own_step (U' := (T17.setTop (mkF m 173 #[.val (.long p1), .second, .val (.int p2), .val (.int p3), .val (.int bo), .val (.ref b9), .val (.ref b11), .val (.int (own_r cf_13 bo)), .val (.long (bo.toInt64)), .second, .val (.long ((4294967296 : Int64) / (bo.toInt64))), .second, .val (.long (XT.ushrL (own_mix (p1 + (-7046029254386353131 : Int64))) (32 : Int32))), .second, .val (.int (1 : Int32)), .val (.int (1 : Int32)), .unset] [(.long (own_mix ((p1 + (-7046029254386353131 : Int64)) + (-7046029254386353131 : Int64)))), (.long (own_mix (cf_13 + (-7046029254386353131 : Int64))))]))) (fun t ht => st17.trans ht) ?_
      refine own_step (U' := (T17.setTop (mkF m 174 #[.val (.long p1), .second, .val (.int p2), .val (.int p3), .val (.int bo), .val (.ref b9), .val (.ref b11), .val (.int (own_r cf_13 bo)), .val (.long (bo.toInt64)), .second, .val (.long ((4294967296 : Int64) / (bo.toInt64))), .second, .val (.long (XT.ushrL (own_mix (p1 + (-7046029254386353131 : Int64))) (32 : Int32))), .second, .val (.int (1 : Int32)), .val (.int (1 : Int32)), .unset] [(.int (XT.cmpL (own_mix (cf_13 + (-7046029254386353131 : Int64))) (own_mix ((p1 + (-7046029254386353131 : Int64)) + (-7046029254386353131 : Int64)))))]))) (fun t ht => XT.lcmp X17.here hx rfl (hb hby at_173) rfl ht) ?_
      refine own_step (U' := (T17.setTop (mkF m 177 #[.val (.long p1), .second, .val (.int p2), .val (.int p3), .val (.int bo), .val (.ref b9), .val (.ref b11), .val (.int (own_r cf_13 bo)), .val (.long (bo.toInt64)), .second, .val (.long ((4294967296 : Int64) / (bo.toInt64))), .second, .val (.long (XT.ushrL (own_mix (p1 + (-7046029254386353131 : Int64))) (32 : Int32))), .second, .val (.int (1 : Int32)), .val (.int (1 : Int32)), .unset] []))) (fun t ht => XS.ifNo X17.here hx rfl (hb hby at_174) rfl (XT.ll_ne_f ((by rw [hcf]) : (own_mix (cf_13 + (-7046029254386353131 : Int64))) = (own_mix ((p1 + (-7046029254386353131 : Int64)) + (-7046029254386353131 : Int64))))) ht) ?_
      refine own_step (U' := (T17.setTop (mkF m 178 #[.val (.long p1), .second, .val (.int p2), .val (.int p3), .val (.int bo), .val (.ref b9), .val (.ref b11), .val (.int (own_r cf_13 bo)), .val (.long (bo.toInt64)), .second, .val (.long ((4294967296 : Int64) / (bo.toInt64))), .second, .val (.long (XT.ushrL (own_mix (p1 + (-7046029254386353131 : Int64))) (32 : Int32))), .second, .val (.int (1 : Int32)), .val (.int (1 : Int32)), .unset] [(.int (1 : Int32))]))) (fun t ht => XS.iconst X17.here hx rfl (hb hby at_177) ht) ?_
      refine own_step (U' := (T17.setTop (mkF m 182 #[.val (.long p1), .second, .val (.int p2), .val (.int p3), .val (.int bo), .val (.ref b9), .val (.ref b11), .val (.int (own_r cf_13 bo)), .val (.long (bo.toInt64)), .second, .val (.long ((4294967296 : Int64) / (bo.toInt64))), .second, .val (.long (XT.ushrL (own_mix (p1 + (-7046029254386353131 : Int64))) (32 : Int32))), .second, .val (.int (1 : Int32)), .val (.int (1 : Int32)), .unset] [(.int (1 : Int32))]))) (fun t ht => XS.goto X17.here hx rfl (pc0 := 178) (pc' := 182) rfl (hb hby at_178) (by decide) (by decide) ht) ?_
      refine own_step (U' := (T17.setTop (mkF m 184 #[.val (.long p1), .second, .val (.int p2), .val (.int p3), .val (.int bo), .val (.ref b9), .val (.ref b11), .val (.int (own_r cf_13 bo)), .val (.long (bo.toInt64)), .second, .val (.long ((4294967296 : Int64) / (bo.toInt64))), .second, .val (.long (XT.ushrL (own_mix (p1 + (-7046029254386353131 : Int64))) (32 : Int32))), .second, .val (.int (1 : Int32)), .val (.int (1 : Int32)), .val (.int (1 : Int32))] []))) (fun t ht => XS.istore X17.here hx rfl (hb hby at_182) rfl (l' := #[.val (.long p1), .second, .val (.int p2), .val (.int p3), .val (.int bo), .val (.ref b9), .val (.ref b11), .val (.int (own_r cf_13 bo)), .val (.long (bo.toInt64)), .second, .val (.long ((4294967296 : Int64) / (bo.toInt64))), .second, .val (.long (XT.ushrL (own_mix (p1 + (-7046029254386353131 : Int64))) (32 : Int32))), .second, .val (.int (1 : Int32)), .val (.int (1 : Int32)), .val (.int (1 : Int32))]) rfl ht) ?_
      refine own_step (U' := (T17.setTop (mkF m 186 #[.val (.long p1), .second, .val (.int p2), .val (.int p3), .val (.int bo), .val (.ref b9), .val (.ref b11), .val (.int (own_r cf_13 bo)), .val (.long (bo.toInt64)), .second, .val (.long ((4294967296 : Int64) / (bo.toInt64))), .second, .val (.long (XT.ushrL (own_mix (p1 + (-7046029254386353131 : Int64))) (32 : Int32))), .second, .val (.int (1 : Int32)), .val (.int (1 : Int32)), .val (.int (1 : Int32))] [(.int (1 : Int32))]))) (fun t ht => XS.iload X17.here hx rfl (hb hby at_184) rfl ht) ?_
      refine own_step (U' := (T17.setTop (mkF m 189 #[.val (.long p1), .second, .val (.int p2), .val (.int p3), .val (.int bo), .val (.ref b9), .val (.ref b11), .val (.int (own_r cf_13 bo)), .val (.long (bo.toInt64)), .second, .val (.long ((4294967296 : Int64) / (bo.toInt64))), .second, .val (.long (XT.ushrL (own_mix (p1 + (-7046029254386353131 : Int64))) (32 : Int32))), .second, .val (.int (1 : Int32)), .val (.int (1 : Int32)), .val (.int (1 : Int32))] []))) (fun t ht => XS.ifNo X17.here hx rfl (hb hby at_186) rfl (XT.i0_eq_f ((by decide) : ¬ ((1 : Int32) = 0))) ht) ?_
      refine own_step (U' := (T17.setTop (mkF m 191 #[.val (.long p1), .second, .val (.int p2), .val (.int p3), .val (.int bo), .val (.ref b9), .val (.ref b11), .val (.int (own_r cf_13 bo)), .val (.long (bo.toInt64)), .second, .val (.long ((4294967296 : Int64) / (bo.toInt64))), .second, .val (.long (XT.ushrL (own_mix (p1 + (-7046029254386353131 : Int64))) (32 : Int32))), .second, .val (.int (1 : Int32)), .val (.int (1 : Int32)), .val (.int (1 : Int32))] [(.int (1 : Int32))]))) (fun t ht => XS.iload X17.here hx rfl (hb hby at_189) rfl ht) ?_
      refine own_step (U' := (T17.setTop (mkF m 194 #[.val (.long p1), .second, .val (.int p2), .val (.int p3), .val (.int bo), .val (.ref b9), .val (.ref b11), .val (.int (own_r cf_13 bo)), .val (.long (bo.toInt64)), .second, .val (.long ((4294967296 : Int64) / (bo.toInt64))), .second, .val (.long (XT.ushrL (own_mix (p1 + (-7046029254386353131 : Int64))) (32 : Int32))), .second, .val (.int (1 : Int32)), .val (.int (1 : Int32)), .val (.int (1 : Int32))] []))) (fun t ht => XS.ifNo X17.here hx rfl (hb hby at_191) rfl (XT.i0_eq_f ((by decide) : ¬ ((1 : Int32) = 0))) ht) ?_
      refine own_step (U' := (T17.setTop (mkF m 196 #[.val (.long p1), .second, .val (.int p2), .val (.int p3), .val (.int bo), .val (.ref b9), .val (.ref b11), .val (.int (own_r cf_13 bo)), .val (.long (bo.toInt64)), .second, .val (.long ((4294967296 : Int64) / (bo.toInt64))), .second, .val (.long (XT.ushrL (own_mix (p1 + (-7046029254386353131 : Int64))) (32 : Int32))), .second, .val (.int (1 : Int32)), .val (.int (1 : Int32)), .val (.int (1 : Int32))] [(.int (1 : Int32))]))) (fun t ht => XS.iload X17.here hx rfl (hb hby at_194) rfl ht) ?_
      refine own_step (U' := (T17.setTop (mkF m 199 #[.val (.long p1), .second, .val (.int p2), .val (.int p3), .val (.int bo), .val (.ref b9), .val (.ref b11), .val (.int (own_r cf_13 bo)), .val (.long (bo.toInt64)), .second, .val (.long ((4294967296 : Int64) / (bo.toInt64))), .second, .val (.long (XT.ushrL (own_mix (p1 + (-7046029254386353131 : Int64))) (32 : Int32))), .second, .val (.int (1 : Int32)), .val (.int (1 : Int32)), .val (.int (1 : Int32))] []))) (fun t ht => XS.ifNo X17.here hx rfl (hb hby at_196) rfl (XT.i0_eq_f ((by decide) : ¬ ((1 : Int32) = 0))) ht) ?_
      refine own_step (U' := (T17.setTop (mkF m 200 #[.val (.long p1), .second, .val (.int p2), .val (.int p3), .val (.int bo), .val (.ref b9), .val (.ref b11), .val (.int (own_r cf_13 bo)), .val (.long (bo.toInt64)), .second, .val (.long ((4294967296 : Int64) / (bo.toInt64))), .second, .val (.long (XT.ushrL (own_mix (p1 + (-7046029254386353131 : Int64))) (32 : Int32))), .second, .val (.int (1 : Int32)), .val (.int (1 : Int32)), .val (.int (1 : Int32))] [(.int (1 : Int32))]))) (fun t ht => XS.iconst X17.here hx rfl (hb hby at_199) ht) ?_
      refine own_step (U' := (T17.setTop (mkF m 204 #[.val (.long p1), .second, .val (.int p2), .val (.int p3), .val (.int bo), .val (.ref b9), .val (.ref b11), .val (.int (own_r cf_13 bo)), .val (.long (bo.toInt64)), .second, .val (.long ((4294967296 : Int64) / (bo.toInt64))), .second, .val (.long (XT.ushrL (own_mix (p1 + (-7046029254386353131 : Int64))) (32 : Int32))), .second, .val (.int (1 : Int32)), .val (.int (1 : Int32)), .val (.int (1 : Int32))] [(.int (1 : Int32))]))) (fun t ht => XS.goto X17.here hx rfl (pc0 := 200) (pc' := 204) rfl (hb hby at_200) (by decide) (by decide) ht) ?_
      refine own_ret X17 (v := (some (.int (nar .boolean (1 : Int32))))) (fun h => by rw [Bd.returns] at h; cases h) Bd.notSynchronized (by decide) (by decide) ?_ (fun fs hr => retN X17 hx (t := .boolean) Bd.returns (by simp) (hb hby at_204) hr)
      show own_Q_law Z p1 p2 p3 h0 n0 _ T17.heap _
      show own_Q_law Z p1 p2 p3 h0 n0 _ T17.heap _
      exact ⟨rfl, N17⟩
    ·
      refine own_step (U' := (T14.setTop (mkF m 82 #[.val (.long p1), .second, .val (.int p2), .val (.int p3), .val (.int bo), .val (.ref b9), .val (.ref b11), .val (.int (own_r cf_13 bo)), .val (.long (bo.toInt64)), .second, .val (.long ((4294967296 : Int64) / (bo.toInt64))), .second, .val (.long (XT.ushrL (own_mix (p1 + (-7046029254386353131 : Int64))) (32 : Int32))), .second, .unset, .unset, .unset] []))) (fun t ht => XS.ifNo X14.here hx rfl (hb hby at_79) rfl (XT.ll_lt_f hc79_15) ht) ?_
      refine own_step (U' := (T14.setTop (mkF m 84 #[.val (.long p1), .second, .val (.int p2), .val (.int p3), .val (.int bo), .val (.ref b9), .val (.ref b11), .val (.int (own_r cf_13 bo)), .val (.long (bo.toInt64)), .second, .val (.long ((4294967296 : Int64) / (bo.toInt64))), .second, .val (.long (XT.ushrL (own_mix (p1 + (-7046029254386353131 : Int64))) (32 : Int32))), .second, .unset, .unset, .unset] [(.ref b11)]))) (fun t ht => XS.aload X14.here hx rfl (hb hby at_82) rfl rfl ht) ?_
      obtain ⟨cq18, kq18, q18a, q18b, q18c⟩ := isOf hZ rfl Fq14_1
      obtain ⟨_, _, ⟨T18, L18, k18, n18⟩, -, X18, ⟨Lc18, hQ18, l18, y18, z18⟩, st18⟩ := X14.virtualBack hx (y := (⟨"com/example/eigentuple/eigentuple/io/SplitMix", "nextLong", "()J"⟩ : MethodName)) (z := (⟨"com/example/eigentuple/eigentuple/io/SplitMix", "nextLong", "()J"⟩ : MethodName)) hown (mvT hZ (hw _ (List.mem_of_getElem? (i := 27) rfl))) (mvT hZ (hw _ (List.mem_of_getElem? (i := 19) rfl))) (notFace_of_selects (args := #[]) (mvT hZ (hw _ (List.mem_of_getElem? (i := 21) rfl)))) (mvT hZ (hw _ (List.mem_of_getElem? (i := 21) rfl))) (mvT hZ (hw _ (List.mem_of_getElem? (i := 20) rfl))) (by decide) (backOf (W := 0) (own_m_nl l Z a0 hw [] (b11) ((p1 + (-7046029254386353131 : Int64))) T14.heap n0 (Nat.le_trans Z0 K14.1) g_b11 Fq14_0 Fq14_1) hZ (hw _ (List.mem_of_getElem? (i := 22) rfl)) (hw _ (List.mem_of_getElem? (i := 3) rfl)) (by decide) (by decide)) q18a q18c (g := (mkF m 84 #[.val (.long p1), .second, .val (.int p2), .val (.int p3), .val (.int bo), .val (.ref b9), .val (.ref b11), .val (.int (own_r cf_13 bo)), .val (.long (bo.toInt64)), .second, .val (.long ((4294967296 : Int64) / (bo.toInt64))), .second, .val (.long (XT.ushrL (own_mix (p1 + (-7046029254386353131 : Int64))) (32 : Int32))), .second, .unset, .unset, .unset] [(.ref b11)])) rfl (by rw [hml]; rfl) (Steps.refl _) (argsL := []) (rest := []) (lenOf own_pd0 rfl) rfl (by show 2 * 0 + _ ≤ _; exact Nat.le_of_eq rfl) (hb hby at_84) (fun _ _ => ⟨rfl, rfl, (by decide : 2 + 0 ≤ _), (by decide : 2 + 0 ≤ _)⟩)
      dsimp only [Pt.U, Pt.locs, Pt.cells, Pt.slots] at X18 l18 y18 z18 st18 hQ18
      subst l18 y18 z18
      obtain ⟨rfl, Nq18, Kq18, Fq18_0, Fq18_1⟩ := hQ18
      have N18 := Fr.app N14 Nq18
      have f18_0 : Fld Z T18.heap b9 "com/example/eigentuple/eigentuple/io/SplitMix" "state" "J" (.long cf_13) := f14_2.keep Kq18 (ninS ne_b9_b11 nin0)
      have f18_1 : Exa Z T18.heap b9 "com/example/eigentuple/eigentuple/io/SplitMix" := f14_3.keep Kq18
      have f18_3 : Exa Z T18.heap b11 "com/example/eigentuple/eigentuple/io/SplitMix" := Fq14_1.keep Kq18
      have K18 : Keep h0 T18.heap [] := K14.trans Kq18 (allS (Or.inr sz_b11) all0)
      refine own_step (U' := (T18.setTop (mkF m 87 #[.val (.long p1), .second, .val (.int p2), .val (.int p3), .val (.int bo), .val (.ref b9), .val (.ref b11), .val (.int (own_r cf_13 bo)), .val (.long (bo.toInt64)), .second, .val (.long ((4294967296 : Int64) / (bo.toInt64))), .second, .val (.long (XT.ushrL (own_mix (p1 + (-7046029254386353131 : Int64))) (32 : Int32))), .second, .unset, .unset, .unset] [(.long (own_mix ((p1 + (-7046029254386353131 : Int64)) + (-7046029254386353131 : Int64))))]))) (fun t ht => st18.trans ht) ?_
      refine own_step (U' := (T18.setTop (mkF m 89 #[.val (.long p1), .second, .val (.int p2), .val (.int p3), .val (.int bo), .val (.ref b9), .val (.ref b11), .val (.int (own_r cf_13 bo)), .val (.long (bo.toInt64)), .second, .val (.long ((4294967296 : Int64) / (bo.toInt64))), .second, .val (.long (XT.ushrL (own_mix (p1 + (-7046029254386353131 : Int64))) (32 : Int32))), .second, .unset, .unset, .unset] [(.int (32 : Int32)), (.long (own_mix ((p1 + (-7046029254386353131 : Int64)) + (-7046029254386353131 : Int64))))]))) (fun t ht => XS.bipush X18.here hx rfl (hb hby at_87) ht) ?_
      refine own_step (U' := (T18.setTop (mkF m 90 #[.val (.long p1), .second, .val (.int p2), .val (.int p3), .val (.int bo), .val (.ref b9), .val (.ref b11), .val (.int (own_r cf_13 bo)), .val (.long (bo.toInt64)), .second, .val (.long ((4294967296 : Int64) / (bo.toInt64))), .second, .val (.long (XT.ushrL (own_mix (p1 + (-7046029254386353131 : Int64))) (32 : Int32))), .second, .unset, .unset, .unset] [(.long (XT.ushrL (own_mix ((p1 + (-7046029254386353131 : Int64)) + (-7046029254386353131 : Int64))) (32 : Int32)))]))) (fun t ht => XT.lushr X18.here hx rfl (hb hby at_89) rfl ht) ?_
      refine own_step (U' := (T18.setTop (mkF m 92 #[.val (.long p1), .second, .val (.int p2), .val (.int p3), .val (.int bo), .val (.ref b9), .val (.ref b11), .val (.int (own_r cf_13 bo)), .val (.long (bo.toInt64)), .second, .val (.long ((4294967296 : Int64) / (bo.toInt64))), .second, .val (.long (XT.ushrL (own_mix ((p1 + (-7046029254386353131 : Int64)) + (-7046029254386353131 : Int64))) (32 : Int32))), .second, .unset, .unset, .unset] []))) (fun t ht => XT.lstore X18.here hx rfl (hb hby at_90) rfl (l' := #[.val (.long p1), .second, .val (.int p2), .val (.int p3), .val (.int bo), .val (.ref b9), .val (.ref b11), .val (.int (own_r cf_13 bo)), .val (.long (bo.toInt64)), .second, .val (.long ((4294967296 : Int64) / (bo.toInt64))), .second, .val (.long (XT.ushrL (own_mix ((p1 + (-7046029254386353131 : Int64)) + (-7046029254386353131 : Int64))) (32 : Int32))), .second, .unset, .unset, .unset]) rfl ht) ?_
      refine own_step (U' := (T18.setTop (mkF m 94 #[.val (.long p1), .second, .val (.int p2), .val (.int p3), .val (.int bo), .val (.ref b9), .val (.ref b11), .val (.int (own_r cf_13 bo)), .val (.long (bo.toInt64)), .second, .val (.long ((4294967296 : Int64) / (bo.toInt64))), .second, .val (.long (XT.ushrL (own_mix ((p1 + (-7046029254386353131 : Int64)) + (-7046029254386353131 : Int64))) (32 : Int32))), .second, .unset, .unset, .unset] [(.long (XT.ushrL (own_mix ((p1 + (-7046029254386353131 : Int64)) + (-7046029254386353131 : Int64))) (32 : Int32)))]))) (fun t ht => XT.lload X18.here hx rfl (hb hby at_92) rfl ht) ?_
      refine own_step (U' := (T18.setTop (mkF m 96 #[.val (.long p1), .second, .val (.int p2), .val (.int p3), .val (.int bo), .val (.ref b9), .val (.ref b11), .val (.int (own_r cf_13 bo)), .val (.long (bo.toInt64)), .second, .val (.long ((4294967296 : Int64) / (bo.toInt64))), .second, .val (.long (XT.ushrL (own_mix ((p1 + (-7046029254386353131 : Int64)) + (-7046029254386353131 : Int64))) (32 : Int32))), .second, .unset, .unset, .unset] [(.long (bo.toInt64)), (.long (XT.ushrL (own_mix ((p1 + (-7046029254386353131 : Int64)) + (-7046029254386353131 : Int64))) (32 : Int32)))]))) (fun t ht => XT.lload X18.here hx rfl (hb hby at_94) rfl ht) ?_
      refine own_step (U' := (T18.setTop (mkF m 97 #[.val (.long p1), .second, .val (.int p2), .val (.int p3), .val (.int bo), .val (.ref b9), .val (.ref b11), .val (.int (own_r cf_13 bo)), .val (.long (bo.toInt64)), .second, .val (.long ((4294967296 : Int64) / (bo.toInt64))), .second, .val (.long (XT.ushrL (own_mix ((p1 + (-7046029254386353131 : Int64)) + (-7046029254386353131 : Int64))) (32 : Int32))), .second, .unset, .unset, .unset] [(.long ((XT.ushrL (own_mix ((p1 + (-7046029254386353131 : Int64)) + (-7046029254386353131 : Int64))) (32 : Int32)) / (bo.toInt64)))]))) (fun t ht => XT.ldiv X18.here hx rfl (hb hby at_96) rfl (own_nz hbd) ht) ?_
      refine own_step (U' := (T18.setTop (mkF m 99 #[.val (.long p1), .second, .val (.int p2), .val (.int p3), .val (.int bo), .val (.ref b9), .val (.ref b11), .val (.int (own_r cf_13 bo)), .val (.long (bo.toInt64)), .second, .val (.long ((4294967296 : Int64) / (bo.toInt64))), .second, .val (.long (XT.ushrL (own_mix ((p1 + (-7046029254386353131 : Int64)) + (-7046029254386353131 : Int64))) (32 : Int32))), .second, .unset, .unset, .unset] [(.long ((4294967296 : Int64) / (bo.toInt64))), (.long ((XT.ushrL (own_mix ((p1 + (-7046029254386353131 : Int64)) + (-7046029254386353131 : Int64))) (32 : Int32)) / (bo.toInt64)))]))) (fun t ht => XT.lload X18.here hx rfl (hb hby at_97) rfl ht) ?_
      refine own_step (U' := (T18.setTop (mkF m 100 #[.val (.long p1), .second, .val (.int p2), .val (.int p3), .val (.int bo), .val (.ref b9), .val (.ref b11), .val (.int (own_r cf_13 bo)), .val (.long (bo.toInt64)), .second, .val (.long ((4294967296 : Int64) / (bo.toInt64))), .second, .val (.long (XT.ushrL (own_mix ((p1 + (-7046029254386353131 : Int64)) + (-7046029254386353131 : Int64))) (32 : Int32))), .second, .unset, .unset, .unset] [(.int (XT.cmpL ((XT.ushrL (own_mix ((p1 + (-7046029254386353131 : Int64)) + (-7046029254386353131 : Int64))) (32 : Int32)) / (bo.toInt64)) ((4294967296 : Int64) / (bo.toInt64))))]))) (fun t ht => XT.lcmp X18.here hx rfl (hb hby at_99) rfl ht) ?_
      by_cases hc100_19 : ((XT.ushrL (own_mix ((p1 + (-7046029254386353131 : Int64)) + (-7046029254386353131 : Int64))) (32 : Int32)) / (bo.toInt64)) < ((4294967296 : Int64) / (bo.toInt64))
      ·
        refine own_step (U' := (T18.setTop (mkF m 126 #[.val (.long p1), .second, .val (.int p2), .val (.int p3), .val (.int bo), .val (.ref b9), .val (.ref b11), .val (.int (own_r cf_13 bo)), .val (.long (bo.toInt64)), .second, .val (.long ((4294967296 : Int64) / (bo.toInt64))), .second, .val (.long (XT.ushrL (own_mix ((p1 + (-7046029254386353131 : Int64)) + (-7046029254386353131 : Int64))) (32 : Int32))), .second, .unset, .unset, .unset] []))) (fun t ht => XS.ifYes X18.here hx rfl (pc0 := 100) (pc' := 126) rfl (hb hby at_100) rfl (XT.ll_lt_t hc100_19) (by decide) (by decide) ht) ?_
        have hcf : cf_13 = ((p1 + (-7046029254386353131 : Int64)) + (-7046029254386353131 : Int64)) := (own_c2 p13_0 p13_1 (fun q => hc79_15 ((own_acc hbd _).mpr q)) ((own_acc hbd _).mp hc100_19))
        refine own_step (U' := (T18.setTop (mkF m 128 #[.val (.long p1), .second, .val (.int p2), .val (.int p3), .val (.int bo), .val (.ref b9), .val (.ref b11), .val (.int (own_r cf_13 bo)), .val (.long (bo.toInt64)), .second, .val (.long ((4294967296 : Int64) / (bo.toInt64))), .second, .val (.long (XT.ushrL (own_mix ((p1 + (-7046029254386353131 : Int64)) + (-7046029254386353131 : Int64))) (32 : Int32))), .second, .unset, .unset, .unset] [(.int (own_r cf_13 bo))]))) (fun t ht => XS.iload X18.here hx rfl (hb hby at_126) rfl ht) ?_
        refine own_step (U' := (T18.setTop (mkF m 131 #[.val (.long p1), .second, .val (.int p2), .val (.int p3), .val (.int bo), .val (.ref b9), .val (.ref b11), .val (.int (own_r cf_13 bo)), .val (.long (bo.toInt64)), .second, .val (.long ((4294967296 : Int64) / (bo.toInt64))), .second, .val (.long (XT.ushrL (own_mix ((p1 + (-7046029254386353131 : Int64)) + (-7046029254386353131 : Int64))) (32 : Int32))), .second, .unset, .unset, .unset] []))) (fun t ht => XS.ifNo X18.here hx rfl (hb hby at_128) rfl (XT.i0_lt_f ((own_r0 hbd _) : ¬ ((own_r cf_13 bo) < 0))) ht) ?_
        refine own_step (U' := (T18.setTop (mkF m 133 #[.val (.long p1), .second, .val (.int p2), .val (.int p3), .val (.int bo), .val (.ref b9), .val (.ref b11), .val (.int (own_r cf_13 bo)), .val (.long (bo.toInt64)), .second, .val (.long ((4294967296 : Int64) / (bo.toInt64))), .second, .val (.long (XT.ushrL (own_mix ((p1 + (-7046029254386353131 : Int64)) + (-7046029254386353131 : Int64))) (32 : Int32))), .second, .unset, .unset, .unset] [(.int (own_r cf_13 bo))]))) (fun t ht => XS.iload X18.here hx rfl (hb hby at_131) rfl ht) ?_
        refine own_step (U' := (T18.setTop (mkF m 135 #[.val (.long p1), .second, .val (.int p2), .val (.int p3), .val (.int bo), .val (.ref b9), .val (.ref b11), .val (.int (own_r cf_13 bo)), .val (.long (bo.toInt64)), .second, .val (.long ((4294967296 : Int64) / (bo.toInt64))), .second, .val (.long (XT.ushrL (own_mix ((p1 + (-7046029254386353131 : Int64)) + (-7046029254386353131 : Int64))) (32 : Int32))), .second, .unset, .unset, .unset] [(.int bo), (.int (own_r cf_13 bo))]))) (fun t ht => XS.iload X18.here hx rfl (hb hby at_133) rfl ht) ?_
        refine own_step (U' := (T18.setTop (mkF m 138 #[.val (.long p1), .second, .val (.int p2), .val (.int p3), .val (.int bo), .val (.ref b9), .val (.ref b11), .val (.int (own_r cf_13 bo)), .val (.long (bo.toInt64)), .second, .val (.long ((4294967296 : Int64) / (bo.toInt64))), .second, .val (.long (XT.ushrL (own_mix ((p1 + (-7046029254386353131 : Int64)) + (-7046029254386353131 : Int64))) (32 : Int32))), .second, .unset, .unset, .unset] []))) (fun t ht => XS.icmpNo X18.here hx rfl (hb hby at_135) rfl (XT.ii_ge_f ((own_rb hbd _) : (own_r cf_13 bo) < bo)) ht) ?_
        refine own_step (U' := (T18.setTop (mkF m 139 #[.val (.long p1), .second, .val (.int p2), .val (.int p3), .val (.int bo), .val (.ref b9), .val (.ref b11), .val (.int (own_r cf_13 bo)), .val (.long (bo.toInt64)), .second, .val (.long ((4294967296 : Int64) / (bo.toInt64))), .second, .val (.long (XT.ushrL (own_mix ((p1 + (-7046029254386353131 : Int64)) + (-7046029254386353131 : Int64))) (32 : Int32))), .second, .unset, .unset, .unset] [(.int (1 : Int32))]))) (fun t ht => XS.iconst X18.here hx rfl (hb hby at_138) ht) ?_
        refine own_step (U' := (T18.setTop (mkF m 143 #[.val (.long p1), .second, .val (.int p2), .val (.int p3), .val (.int bo), .val (.ref b9), .val (.ref b11), .val (.int (own_r cf_13 bo)), .val (.long (bo.toInt64)), .second, .val (.long ((4294967296 : Int64) / (bo.toInt64))), .second, .val (.long (XT.ushrL (own_mix ((p1 + (-7046029254386353131 : Int64)) + (-7046029254386353131 : Int64))) (32 : Int32))), .second, .unset, .unset, .unset] [(.int (1 : Int32))]))) (fun t ht => XS.goto X18.here hx rfl (pc0 := 139) (pc' := 143) rfl (hb hby at_139) (by decide) (by decide) ht) ?_
        refine own_step (U' := (T18.setTop (mkF m 145 #[.val (.long p1), .second, .val (.int p2), .val (.int p3), .val (.int bo), .val (.ref b9), .val (.ref b11), .val (.int (own_r cf_13 bo)), .val (.long (bo.toInt64)), .second, .val (.long ((4294967296 : Int64) / (bo.toInt64))), .second, .val (.long (XT.ushrL (own_mix ((p1 + (-7046029254386353131 : Int64)) + (-7046029254386353131 : Int64))) (32 : Int32))), .second, .val (.int (1 : Int32)), .unset, .unset] []))) (fun t ht => XS.istore X18.here hx rfl (hb hby at_143) rfl (l' := #[.val (.long p1), .second, .val (.int p2), .val (.int p3), .val (.int bo), .val (.ref b9), .val (.ref b11), .val (.int (own_r cf_13 bo)), .val (.long (bo.toInt64)), .second, .val (.long ((4294967296 : Int64) / (bo.toInt64))), .second, .val (.long (XT.ushrL (own_mix ((p1 + (-7046029254386353131 : Int64)) + (-7046029254386353131 : Int64))) (32 : Int32))), .second, .val (.int (1 : Int32)), .unset, .unset]) rfl ht) ?_
        refine own_step (U' := (T18.setTop (mkF m 147 #[.val (.long p1), .second, .val (.int p2), .val (.int p3), .val (.int bo), .val (.ref b9), .val (.ref b11), .val (.int (own_r cf_13 bo)), .val (.long (bo.toInt64)), .second, .val (.long ((4294967296 : Int64) / (bo.toInt64))), .second, .val (.long (XT.ushrL (own_mix ((p1 + (-7046029254386353131 : Int64)) + (-7046029254386353131 : Int64))) (32 : Int32))), .second, .val (.int (1 : Int32)), .unset, .unset] [(.int (own_r cf_13 bo))]))) (fun t ht => XS.iload X18.here hx rfl (hb hby at_145) rfl ht) ?_
        refine own_step (U' := (T18.setTop (mkF m 149 #[.val (.long p1), .second, .val (.int p2), .val (.int p3), .val (.int bo), .val (.ref b9), .val (.ref b11), .val (.int (own_r cf_13 bo)), .val (.long (bo.toInt64)), .second, .val (.long ((4294967296 : Int64) / (bo.toInt64))), .second, .val (.long (XT.ushrL (own_mix ((p1 + (-7046029254386353131 : Int64)) + (-7046029254386353131 : Int64))) (32 : Int32))), .second, .val (.int (1 : Int32)), .unset, .unset] [(.long (XT.ushrL (own_mix ((p1 + (-7046029254386353131 : Int64)) + (-7046029254386353131 : Int64))) (32 : Int32))), (.int (own_r cf_13 bo))]))) (fun t ht => XT.lload X18.here hx rfl (hb hby at_147) rfl ht) ?_
        refine own_step (U' := (T18.setTop (mkF m 151 #[.val (.long p1), .second, .val (.int p2), .val (.int p3), .val (.int bo), .val (.ref b9), .val (.ref b11), .val (.int (own_r cf_13 bo)), .val (.long (bo.toInt64)), .second, .val (.long ((4294967296 : Int64) / (bo.toInt64))), .second, .val (.long (XT.ushrL (own_mix ((p1 + (-7046029254386353131 : Int64)) + (-7046029254386353131 : Int64))) (32 : Int32))), .second, .val (.int (1 : Int32)), .unset, .unset] [(.long (bo.toInt64)), (.long (XT.ushrL (own_mix ((p1 + (-7046029254386353131 : Int64)) + (-7046029254386353131 : Int64))) (32 : Int32))), (.int (own_r cf_13 bo))]))) (fun t ht => XT.lload X18.here hx rfl (hb hby at_149) rfl ht) ?_
        refine own_step (U' := (T18.setTop (mkF m 152 #[.val (.long p1), .second, .val (.int p2), .val (.int p3), .val (.int bo), .val (.ref b9), .val (.ref b11), .val (.int (own_r cf_13 bo)), .val (.long (bo.toInt64)), .second, .val (.long ((4294967296 : Int64) / (bo.toInt64))), .second, .val (.long (XT.ushrL (own_mix ((p1 + (-7046029254386353131 : Int64)) + (-7046029254386353131 : Int64))) (32 : Int32))), .second, .val (.int (1 : Int32)), .unset, .unset] [(.long (own_lrem (XT.ushrL (own_mix ((p1 + (-7046029254386353131 : Int64)) + (-7046029254386353131 : Int64))) (32 : Int32)) (bo.toInt64))), (.int (own_r cf_13 bo))]))) (fun t ht => XT.lrem X18.here hx rfl (hb hby at_151) rfl (own_nz hbd) ht) ?_
        refine own_step (U' := (T18.setTop (mkF m 153 #[.val (.long p1), .second, .val (.int p2), .val (.int p3), .val (.int bo), .val (.ref b9), .val (.ref b11), .val (.int (own_r cf_13 bo)), .val (.long (bo.toInt64)), .second, .val (.long ((4294967296 : Int64) / (bo.toInt64))), .second, .val (.long (XT.ushrL (own_mix ((p1 + (-7046029254386353131 : Int64)) + (-7046029254386353131 : Int64))) (32 : Int32))), .second, .val (.int (1 : Int32)), .unset, .unset] [(.int ((own_lrem (XT.ushrL (own_mix ((p1 + (-7046029254386353131 : Int64)) + (-7046029254386353131 : Int64))) (32 : Int32)) (bo.toInt64)).toInt32)), (.int (own_r cf_13 bo))]))) (fun t ht => XT.l2i X18.here hx rfl (hb hby at_152) rfl ht) ?_
        refine own_step (U' := (T18.setTop (mkF m 156 #[.val (.long p1), .second, .val (.int p2), .val (.int p3), .val (.int bo), .val (.ref b9), .val (.ref b11), .val (.int (own_r cf_13 bo)), .val (.long (bo.toInt64)), .second, .val (.long ((4294967296 : Int64) / (bo.toInt64))), .second, .val (.long (XT.ushrL (own_mix ((p1 + (-7046029254386353131 : Int64)) + (-7046029254386353131 : Int64))) (32 : Int32))), .second, .val (.int (1 : Int32)), .unset, .unset] []))) (fun t ht => XS.icmpNo X18.here hx rfl (hb hby at_153) rfl (XT.ii_ne_f ((by rw [hcf]; rfl) : (own_r cf_13 bo) = ((own_lrem (XT.ushrL (own_mix ((p1 + (-7046029254386353131 : Int64)) + (-7046029254386353131 : Int64))) (32 : Int32)) (bo.toInt64)).toInt32))) ht) ?_
        refine own_step (U' := (T18.setTop (mkF m 157 #[.val (.long p1), .second, .val (.int p2), .val (.int p3), .val (.int bo), .val (.ref b9), .val (.ref b11), .val (.int (own_r cf_13 bo)), .val (.long (bo.toInt64)), .second, .val (.long ((4294967296 : Int64) / (bo.toInt64))), .second, .val (.long (XT.ushrL (own_mix ((p1 + (-7046029254386353131 : Int64)) + (-7046029254386353131 : Int64))) (32 : Int32))), .second, .val (.int (1 : Int32)), .unset, .unset] [(.int (1 : Int32))]))) (fun t ht => XS.iconst X18.here hx rfl (hb hby at_156) ht) ?_
        refine own_step (U' := (T18.setTop (mkF m 161 #[.val (.long p1), .second, .val (.int p2), .val (.int p3), .val (.int bo), .val (.ref b9), .val (.ref b11), .val (.int (own_r cf_13 bo)), .val (.long (bo.toInt64)), .second, .val (.long ((4294967296 : Int64) / (bo.toInt64))), .second, .val (.long (XT.ushrL (own_mix ((p1 + (-7046029254386353131 : Int64)) + (-7046029254386353131 : Int64))) (32 : Int32))), .second, .val (.int (1 : Int32)), .unset, .unset] [(.int (1 : Int32))]))) (fun t ht => XS.goto X18.here hx rfl (pc0 := 157) (pc' := 161) rfl (hb hby at_157) (by decide) (by decide) ht) ?_
        refine own_step (U' := (T18.setTop (mkF m 163 #[.val (.long p1), .second, .val (.int p2), .val (.int p3), .val (.int bo), .val (.ref b9), .val (.ref b11), .val (.int (own_r cf_13 bo)), .val (.long (bo.toInt64)), .second, .val (.long ((4294967296 : Int64) / (bo.toInt64))), .second, .val (.long (XT.ushrL (own_mix ((p1 + (-7046029254386353131 : Int64)) + (-7046029254386353131 : Int64))) (32 : Int32))), .second, .val (.int (1 : Int32)), .val (.int (1 : Int32)), .unset] []))) (fun t ht => XS.istore X18.here hx rfl (hb hby at_161) rfl (l' := #[.val (.long p1), .second, .val (.int p2), .val (.int p3), .val (.int bo), .val (.ref b9), .val (.ref b11), .val (.int (own_r cf_13 bo)), .val (.long (bo.toInt64)), .second, .val (.long ((4294967296 : Int64) / (bo.toInt64))), .second, .val (.long (XT.ushrL (own_mix ((p1 + (-7046029254386353131 : Int64)) + (-7046029254386353131 : Int64))) (32 : Int32))), .second, .val (.int (1 : Int32)), .val (.int (1 : Int32)), .unset]) rfl ht) ?_
        refine own_step (U' := (T18.setTop (mkF m 165 #[.val (.long p1), .second, .val (.int p2), .val (.int p3), .val (.int bo), .val (.ref b9), .val (.ref b11), .val (.int (own_r cf_13 bo)), .val (.long (bo.toInt64)), .second, .val (.long ((4294967296 : Int64) / (bo.toInt64))), .second, .val (.long (XT.ushrL (own_mix ((p1 + (-7046029254386353131 : Int64)) + (-7046029254386353131 : Int64))) (32 : Int32))), .second, .val (.int (1 : Int32)), .val (.int (1 : Int32)), .unset] [(.ref b9)]))) (fun t ht => XS.aload X18.here hx rfl (hb hby at_163) rfl rfl ht) ?_
        obtain ⟨cq20, kq20, q20a, q20b, q20c⟩ := isOf hZ rfl f18_1
        obtain ⟨_, _, ⟨T20, L20, k20, n20⟩, -, X20, ⟨Lc20, hQ20, l20, y20, z20⟩, st20⟩ := X18.virtualBack hx (y := (⟨"com/example/eigentuple/eigentuple/io/SplitMix", "nextLong", "()J"⟩ : MethodName)) (z := (⟨"com/example/eigentuple/eigentuple/io/SplitMix", "nextLong", "()J"⟩ : MethodName)) hown (mvT hZ (hw _ (List.mem_of_getElem? (i := 27) rfl))) (mvT hZ (hw _ (List.mem_of_getElem? (i := 19) rfl))) (notFace_of_selects (args := #[]) (mvT hZ (hw _ (List.mem_of_getElem? (i := 21) rfl)))) (mvT hZ (hw _ (List.mem_of_getElem? (i := 21) rfl))) (mvT hZ (hw _ (List.mem_of_getElem? (i := 20) rfl))) (by decide) (backOf (W := 0) (own_m_nl l Z a0 hw [] (b9) (cf_13) T18.heap n0 (Nat.le_trans Z0 K18.1) g_b9 f18_0 f18_1) hZ (hw _ (List.mem_of_getElem? (i := 22) rfl)) (hw _ (List.mem_of_getElem? (i := 3) rfl)) (by decide) (by decide)) q20a q20c (g := (mkF m 165 #[.val (.long p1), .second, .val (.int p2), .val (.int p3), .val (.int bo), .val (.ref b9), .val (.ref b11), .val (.int (own_r cf_13 bo)), .val (.long (bo.toInt64)), .second, .val (.long ((4294967296 : Int64) / (bo.toInt64))), .second, .val (.long (XT.ushrL (own_mix ((p1 + (-7046029254386353131 : Int64)) + (-7046029254386353131 : Int64))) (32 : Int32))), .second, .val (.int (1 : Int32)), .val (.int (1 : Int32)), .unset] [(.ref b9)])) rfl (by rw [hml]; rfl) (Steps.refl _) (argsL := []) (rest := []) (lenOf own_pd0 rfl) rfl (by show 2 * 0 + _ ≤ _; exact Nat.le_of_eq rfl) (hb hby at_165) (fun _ _ => ⟨rfl, rfl, (by decide : 2 + 0 ≤ _), (by decide : 2 + 0 ≤ _)⟩)
        dsimp only [Pt.U, Pt.locs, Pt.cells, Pt.slots] at X20 l20 y20 z20 st20 hQ20
        subst l20 y20 z20
        obtain ⟨rfl, Nq20, Kq20, Fq20_0, Fq20_1⟩ := hQ20
        have N20 := Fr.app N18 Nq20
        have f20_1 : Exa Z T20.heap b9 "com/example/eigentuple/eigentuple/io/SplitMix" := f18_1.keep Kq20
        have f20_2 : Fld Z T20.heap b11 "com/example/eigentuple/eigentuple/io/SplitMix" "state" "J" (.long ((p1 + (-7046029254386353131 : Int64)) + (-7046029254386353131 : Int64))) := Fq18_0.keep Kq20 (ninS (Ne.symm ne_b9_b11) nin0)
        have f20_3 : Exa Z T20.heap b11 "com/example/eigentuple/eigentuple/io/SplitMix" := Fq18_1.keep Kq20
        have K20 : Keep h0 T20.heap [] := K18.trans Kq20 (allS (Or.inr sz_b9) all0)
        refine own_step (U' := (T20.setTop (mkF m 168 #[.val (.long p1), .second, .val (.int p2), .val (.int p3), .val (.int bo), .val (.ref b9), .val (.ref b11), .val (.int (own_r cf_13 bo)), .val (.long (bo.toInt64)), .second, .val (.long ((4294967296 : Int64) / (bo.toInt64))), .second, .val (.long (XT.ushrL (own_mix ((p1 + (-7046029254386353131 : Int64)) + (-7046029254386353131 : Int64))) (32 : Int32))), .second, .val (.int (1 : Int32)), .val (.int (1 : Int32)), .unset] [(.long (own_mix (cf_13 + (-7046029254386353131 : Int64))))]))) (fun t ht => st20.trans ht) ?_
        refine own_step (U' := (T20.setTop (mkF m 170 #[.val (.long p1), .second, .val (.int p2), .val (.int p3), .val (.int bo), .val (.ref b9), .val (.ref b11), .val (.int (own_r cf_13 bo)), .val (.long (bo.toInt64)), .second, .val (.long ((4294967296 : Int64) / (bo.toInt64))), .second, .val (.long (XT.ushrL (own_mix ((p1 + (-7046029254386353131 : Int64)) + (-7046029254386353131 : Int64))) (32 : Int32))), .second, .val (.int (1 : Int32)), .val (.int (1 : Int32)), .unset] [(.ref b11), (.long (own_mix (cf_13 + (-7046029254386353131 : Int64))))]))) (fun t ht => XS.aload X20.here hx rfl (hb hby at_168) rfl rfl ht) ?_
        obtain ⟨cq21, kq21, q21a, q21b, q21c⟩ := isOf hZ rfl f20_3
        obtain ⟨_, _, ⟨T21, L21, k21, n21⟩, -, X21, ⟨Lc21, hQ21, l21, y21, z21⟩, st21⟩ := X20.virtualBack hx (y := (⟨"com/example/eigentuple/eigentuple/io/SplitMix", "nextLong", "()J"⟩ : MethodName)) (z := (⟨"com/example/eigentuple/eigentuple/io/SplitMix", "nextLong", "()J"⟩ : MethodName)) hown (mvT hZ (hw _ (List.mem_of_getElem? (i := 27) rfl))) (mvT hZ (hw _ (List.mem_of_getElem? (i := 19) rfl))) (notFace_of_selects (args := #[]) (mvT hZ (hw _ (List.mem_of_getElem? (i := 21) rfl)))) (mvT hZ (hw _ (List.mem_of_getElem? (i := 21) rfl))) (mvT hZ (hw _ (List.mem_of_getElem? (i := 20) rfl))) (by decide) (backOf (W := 2) (own_m_nl l Z a0 hw [] (b11) (((p1 + (-7046029254386353131 : Int64)) + (-7046029254386353131 : Int64))) T20.heap n0 (Nat.le_trans Z0 K20.1) g_b11 f20_2 f20_3) hZ (hw _ (List.mem_of_getElem? (i := 22) rfl)) (hw _ (List.mem_of_getElem? (i := 3) rfl)) (by decide) (by decide)) q21a q21c (g := (mkF m 170 #[.val (.long p1), .second, .val (.int p2), .val (.int p3), .val (.int bo), .val (.ref b9), .val (.ref b11), .val (.int (own_r cf_13 bo)), .val (.long (bo.toInt64)), .second, .val (.long ((4294967296 : Int64) / (bo.toInt64))), .second, .val (.long (XT.ushrL (own_mix ((p1 + (-7046029254386353131 : Int64)) + (-7046029254386353131 : Int64))) (32 : Int32))), .second, .val (.int (1 : Int32)), .val (.int (1 : Int32)), .unset] [(.ref b11), (.long (own_mix (cf_13 + (-7046029254386353131 : Int64))))])) rfl (by rw [hml]; rfl) (Steps.refl _) (argsL := []) (rest := [(.long (own_mix (cf_13 + (-7046029254386353131 : Int64))))]) (lenOf own_pd0 rfl) rfl (by show 2 * 0 + _ ≤ _; exact Nat.le_of_eq rfl) (hb hby at_170) (fun _ _ => ⟨rfl, rfl, (by decide : 2 + 0 ≤ _), (by decide : 2 + 0 ≤ _)⟩)
        dsimp only [Pt.U, Pt.locs, Pt.cells, Pt.slots] at X21 l21 y21 z21 st21 hQ21
        subst l21 y21 z21
        obtain ⟨rfl, Nq21, Kq21, Fq21_0, Fq21_1⟩ := hQ21
        have N21 := Fr.app N20 Nq21
        have f21_1 : Exa Z T21.heap b11 "com/example/eigentuple/eigentuple/io/SplitMix" := f20_3.keep Kq21
        have f21_2 : Fld Z T21.heap b9 "com/example/eigentuple/eigentuple/io/SplitMix" "state" "J" (.long (cf_13 + (-7046029254386353131 : Int64))) := Fq20_0.keep Kq21 (ninS ne_b9_b11 nin0)
        have f21_3 : Exa Z T21.heap b9 "com/example/eigentuple/eigentuple/io/SplitMix" := Fq20_1.keep Kq21
        have K21 : Keep h0 T21.heap [] := K20.trans Kq21 (allS (Or.inr sz_b11) all0)
        refine own_step (U' := (T21.setTop (mkF m 173 #[.val (.long p1), .second, .val (.int p2), .val (.int p3), .val (.int bo), .val (.ref b9), .val (.ref b11), .val (.int (own_r cf_13 bo)), .val (.long (bo.toInt64)), .second, .val (.long ((4294967296 : Int64) / (bo.toInt64))), .second, .val (.long (XT.ushrL (own_mix ((p1 + (-7046029254386353131 : Int64)) + (-7046029254386353131 : Int64))) (32 : Int32))), .second, .val (.int (1 : Int32)), .val (.int (1 : Int32)), .unset] [(.long (own_mix (((p1 + (-7046029254386353131 : Int64)) + (-7046029254386353131 : Int64)) + (-7046029254386353131 : Int64)))), (.long (own_mix (cf_13 + (-7046029254386353131 : Int64))))]))) (fun t ht => st21.trans ht) ?_
        refine own_step (U' := (T21.setTop (mkF m 174 #[.val (.long p1), .second, .val (.int p2), .val (.int p3), .val (.int bo), .val (.ref b9), .val (.ref b11), .val (.int (own_r cf_13 bo)), .val (.long (bo.toInt64)), .second, .val (.long ((4294967296 : Int64) / (bo.toInt64))), .second, .val (.long (XT.ushrL (own_mix ((p1 + (-7046029254386353131 : Int64)) + (-7046029254386353131 : Int64))) (32 : Int32))), .second, .val (.int (1 : Int32)), .val (.int (1 : Int32)), .unset] [(.int (XT.cmpL (own_mix (cf_13 + (-7046029254386353131 : Int64))) (own_mix (((p1 + (-7046029254386353131 : Int64)) + (-7046029254386353131 : Int64)) + (-7046029254386353131 : Int64)))))]))) (fun t ht => XT.lcmp X21.here hx rfl (hb hby at_173) rfl ht) ?_
        refine own_step (U' := (T21.setTop (mkF m 177 #[.val (.long p1), .second, .val (.int p2), .val (.int p3), .val (.int bo), .val (.ref b9), .val (.ref b11), .val (.int (own_r cf_13 bo)), .val (.long (bo.toInt64)), .second, .val (.long ((4294967296 : Int64) / (bo.toInt64))), .second, .val (.long (XT.ushrL (own_mix ((p1 + (-7046029254386353131 : Int64)) + (-7046029254386353131 : Int64))) (32 : Int32))), .second, .val (.int (1 : Int32)), .val (.int (1 : Int32)), .unset] []))) (fun t ht => XS.ifNo X21.here hx rfl (hb hby at_174) rfl (XT.ll_ne_f ((by rw [hcf]) : (own_mix (cf_13 + (-7046029254386353131 : Int64))) = (own_mix (((p1 + (-7046029254386353131 : Int64)) + (-7046029254386353131 : Int64)) + (-7046029254386353131 : Int64))))) ht) ?_
        refine own_step (U' := (T21.setTop (mkF m 178 #[.val (.long p1), .second, .val (.int p2), .val (.int p3), .val (.int bo), .val (.ref b9), .val (.ref b11), .val (.int (own_r cf_13 bo)), .val (.long (bo.toInt64)), .second, .val (.long ((4294967296 : Int64) / (bo.toInt64))), .second, .val (.long (XT.ushrL (own_mix ((p1 + (-7046029254386353131 : Int64)) + (-7046029254386353131 : Int64))) (32 : Int32))), .second, .val (.int (1 : Int32)), .val (.int (1 : Int32)), .unset] [(.int (1 : Int32))]))) (fun t ht => XS.iconst X21.here hx rfl (hb hby at_177) ht) ?_
        refine own_step (U' := (T21.setTop (mkF m 182 #[.val (.long p1), .second, .val (.int p2), .val (.int p3), .val (.int bo), .val (.ref b9), .val (.ref b11), .val (.int (own_r cf_13 bo)), .val (.long (bo.toInt64)), .second, .val (.long ((4294967296 : Int64) / (bo.toInt64))), .second, .val (.long (XT.ushrL (own_mix ((p1 + (-7046029254386353131 : Int64)) + (-7046029254386353131 : Int64))) (32 : Int32))), .second, .val (.int (1 : Int32)), .val (.int (1 : Int32)), .unset] [(.int (1 : Int32))]))) (fun t ht => XS.goto X21.here hx rfl (pc0 := 178) (pc' := 182) rfl (hb hby at_178) (by decide) (by decide) ht) ?_
        refine own_step (U' := (T21.setTop (mkF m 184 #[.val (.long p1), .second, .val (.int p2), .val (.int p3), .val (.int bo), .val (.ref b9), .val (.ref b11), .val (.int (own_r cf_13 bo)), .val (.long (bo.toInt64)), .second, .val (.long ((4294967296 : Int64) / (bo.toInt64))), .second, .val (.long (XT.ushrL (own_mix ((p1 + (-7046029254386353131 : Int64)) + (-7046029254386353131 : Int64))) (32 : Int32))), .second, .val (.int (1 : Int32)), .val (.int (1 : Int32)), .val (.int (1 : Int32))] []))) (fun t ht => XS.istore X21.here hx rfl (hb hby at_182) rfl (l' := #[.val (.long p1), .second, .val (.int p2), .val (.int p3), .val (.int bo), .val (.ref b9), .val (.ref b11), .val (.int (own_r cf_13 bo)), .val (.long (bo.toInt64)), .second, .val (.long ((4294967296 : Int64) / (bo.toInt64))), .second, .val (.long (XT.ushrL (own_mix ((p1 + (-7046029254386353131 : Int64)) + (-7046029254386353131 : Int64))) (32 : Int32))), .second, .val (.int (1 : Int32)), .val (.int (1 : Int32)), .val (.int (1 : Int32))]) rfl ht) ?_
        refine own_step (U' := (T21.setTop (mkF m 186 #[.val (.long p1), .second, .val (.int p2), .val (.int p3), .val (.int bo), .val (.ref b9), .val (.ref b11), .val (.int (own_r cf_13 bo)), .val (.long (bo.toInt64)), .second, .val (.long ((4294967296 : Int64) / (bo.toInt64))), .second, .val (.long (XT.ushrL (own_mix ((p1 + (-7046029254386353131 : Int64)) + (-7046029254386353131 : Int64))) (32 : Int32))), .second, .val (.int (1 : Int32)), .val (.int (1 : Int32)), .val (.int (1 : Int32))] [(.int (1 : Int32))]))) (fun t ht => XS.iload X21.here hx rfl (hb hby at_184) rfl ht) ?_
        refine own_step (U' := (T21.setTop (mkF m 189 #[.val (.long p1), .second, .val (.int p2), .val (.int p3), .val (.int bo), .val (.ref b9), .val (.ref b11), .val (.int (own_r cf_13 bo)), .val (.long (bo.toInt64)), .second, .val (.long ((4294967296 : Int64) / (bo.toInt64))), .second, .val (.long (XT.ushrL (own_mix ((p1 + (-7046029254386353131 : Int64)) + (-7046029254386353131 : Int64))) (32 : Int32))), .second, .val (.int (1 : Int32)), .val (.int (1 : Int32)), .val (.int (1 : Int32))] []))) (fun t ht => XS.ifNo X21.here hx rfl (hb hby at_186) rfl (XT.i0_eq_f ((by decide) : ¬ ((1 : Int32) = 0))) ht) ?_
        refine own_step (U' := (T21.setTop (mkF m 191 #[.val (.long p1), .second, .val (.int p2), .val (.int p3), .val (.int bo), .val (.ref b9), .val (.ref b11), .val (.int (own_r cf_13 bo)), .val (.long (bo.toInt64)), .second, .val (.long ((4294967296 : Int64) / (bo.toInt64))), .second, .val (.long (XT.ushrL (own_mix ((p1 + (-7046029254386353131 : Int64)) + (-7046029254386353131 : Int64))) (32 : Int32))), .second, .val (.int (1 : Int32)), .val (.int (1 : Int32)), .val (.int (1 : Int32))] [(.int (1 : Int32))]))) (fun t ht => XS.iload X21.here hx rfl (hb hby at_189) rfl ht) ?_
        refine own_step (U' := (T21.setTop (mkF m 194 #[.val (.long p1), .second, .val (.int p2), .val (.int p3), .val (.int bo), .val (.ref b9), .val (.ref b11), .val (.int (own_r cf_13 bo)), .val (.long (bo.toInt64)), .second, .val (.long ((4294967296 : Int64) / (bo.toInt64))), .second, .val (.long (XT.ushrL (own_mix ((p1 + (-7046029254386353131 : Int64)) + (-7046029254386353131 : Int64))) (32 : Int32))), .second, .val (.int (1 : Int32)), .val (.int (1 : Int32)), .val (.int (1 : Int32))] []))) (fun t ht => XS.ifNo X21.here hx rfl (hb hby at_191) rfl (XT.i0_eq_f ((by decide) : ¬ ((1 : Int32) = 0))) ht) ?_
        refine own_step (U' := (T21.setTop (mkF m 196 #[.val (.long p1), .second, .val (.int p2), .val (.int p3), .val (.int bo), .val (.ref b9), .val (.ref b11), .val (.int (own_r cf_13 bo)), .val (.long (bo.toInt64)), .second, .val (.long ((4294967296 : Int64) / (bo.toInt64))), .second, .val (.long (XT.ushrL (own_mix ((p1 + (-7046029254386353131 : Int64)) + (-7046029254386353131 : Int64))) (32 : Int32))), .second, .val (.int (1 : Int32)), .val (.int (1 : Int32)), .val (.int (1 : Int32))] [(.int (1 : Int32))]))) (fun t ht => XS.iload X21.here hx rfl (hb hby at_194) rfl ht) ?_
        refine own_step (U' := (T21.setTop (mkF m 199 #[.val (.long p1), .second, .val (.int p2), .val (.int p3), .val (.int bo), .val (.ref b9), .val (.ref b11), .val (.int (own_r cf_13 bo)), .val (.long (bo.toInt64)), .second, .val (.long ((4294967296 : Int64) / (bo.toInt64))), .second, .val (.long (XT.ushrL (own_mix ((p1 + (-7046029254386353131 : Int64)) + (-7046029254386353131 : Int64))) (32 : Int32))), .second, .val (.int (1 : Int32)), .val (.int (1 : Int32)), .val (.int (1 : Int32))] []))) (fun t ht => XS.ifNo X21.here hx rfl (hb hby at_196) rfl (XT.i0_eq_f ((by decide) : ¬ ((1 : Int32) = 0))) ht) ?_
        refine own_step (U' := (T21.setTop (mkF m 200 #[.val (.long p1), .second, .val (.int p2), .val (.int p3), .val (.int bo), .val (.ref b9), .val (.ref b11), .val (.int (own_r cf_13 bo)), .val (.long (bo.toInt64)), .second, .val (.long ((4294967296 : Int64) / (bo.toInt64))), .second, .val (.long (XT.ushrL (own_mix ((p1 + (-7046029254386353131 : Int64)) + (-7046029254386353131 : Int64))) (32 : Int32))), .second, .val (.int (1 : Int32)), .val (.int (1 : Int32)), .val (.int (1 : Int32))] [(.int (1 : Int32))]))) (fun t ht => XS.iconst X21.here hx rfl (hb hby at_199) ht) ?_
        refine own_step (U' := (T21.setTop (mkF m 204 #[.val (.long p1), .second, .val (.int p2), .val (.int p3), .val (.int bo), .val (.ref b9), .val (.ref b11), .val (.int (own_r cf_13 bo)), .val (.long (bo.toInt64)), .second, .val (.long ((4294967296 : Int64) / (bo.toInt64))), .second, .val (.long (XT.ushrL (own_mix ((p1 + (-7046029254386353131 : Int64)) + (-7046029254386353131 : Int64))) (32 : Int32))), .second, .val (.int (1 : Int32)), .val (.int (1 : Int32)), .val (.int (1 : Int32))] [(.int (1 : Int32))]))) (fun t ht => XS.goto X21.here hx rfl (pc0 := 200) (pc' := 204) rfl (hb hby at_200) (by decide) (by decide) ht) ?_
        refine own_ret X21 (v := (some (.int (nar .boolean (1 : Int32))))) (fun h => by rw [Bd.returns] at h; cases h) Bd.notSynchronized (by decide) (by decide) ?_ (fun fs hr => retN X21 hx (t := .boolean) Bd.returns (by simp) (hb hby at_204) hr)
        show own_Q_law Z p1 p2 p3 h0 n0 _ T21.heap _
        show own_Q_law Z p1 p2 p3 h0 n0 _ T21.heap _
        exact ⟨rfl, N21⟩
      ·
        refine own_step (U' := (T18.setTop (mkF m 103 #[.val (.long p1), .second, .val (.int p2), .val (.int p3), .val (.int bo), .val (.ref b9), .val (.ref b11), .val (.int (own_r cf_13 bo)), .val (.long (bo.toInt64)), .second, .val (.long ((4294967296 : Int64) / (bo.toInt64))), .second, .val (.long (XT.ushrL (own_mix ((p1 + (-7046029254386353131 : Int64)) + (-7046029254386353131 : Int64))) (32 : Int32))), .second, .unset, .unset, .unset] []))) (fun t ht => XS.ifNo X18.here hx rfl (hb hby at_100) rfl (XT.ll_lt_f hc100_19) ht) ?_
        refine own_step (U' := (T18.setTop (mkF m 105 #[.val (.long p1), .second, .val (.int p2), .val (.int p3), .val (.int bo), .val (.ref b9), .val (.ref b11), .val (.int (own_r cf_13 bo)), .val (.long (bo.toInt64)), .second, .val (.long ((4294967296 : Int64) / (bo.toInt64))), .second, .val (.long (XT.ushrL (own_mix ((p1 + (-7046029254386353131 : Int64)) + (-7046029254386353131 : Int64))) (32 : Int32))), .second, .unset, .unset, .unset] [(.ref b11)]))) (fun t ht => XS.aload X18.here hx rfl (hb hby at_103) rfl rfl ht) ?_
        obtain ⟨cq22, kq22, q22a, q22b, q22c⟩ := isOf hZ rfl Fq18_1
        obtain ⟨_, _, ⟨T22, L22, k22, n22⟩, -, X22, ⟨Lc22, hQ22, l22, y22, z22⟩, st22⟩ := X18.virtualBack hx (y := (⟨"com/example/eigentuple/eigentuple/io/SplitMix", "nextLong", "()J"⟩ : MethodName)) (z := (⟨"com/example/eigentuple/eigentuple/io/SplitMix", "nextLong", "()J"⟩ : MethodName)) hown (mvT hZ (hw _ (List.mem_of_getElem? (i := 27) rfl))) (mvT hZ (hw _ (List.mem_of_getElem? (i := 19) rfl))) (notFace_of_selects (args := #[]) (mvT hZ (hw _ (List.mem_of_getElem? (i := 21) rfl)))) (mvT hZ (hw _ (List.mem_of_getElem? (i := 21) rfl))) (mvT hZ (hw _ (List.mem_of_getElem? (i := 20) rfl))) (by decide) (backOf (W := 0) (own_m_nl l Z a0 hw [] (b11) (((p1 + (-7046029254386353131 : Int64)) + (-7046029254386353131 : Int64))) T18.heap n0 (Nat.le_trans Z0 K18.1) g_b11 Fq18_0 Fq18_1) hZ (hw _ (List.mem_of_getElem? (i := 22) rfl)) (hw _ (List.mem_of_getElem? (i := 3) rfl)) (by decide) (by decide)) q22a q22c (g := (mkF m 105 #[.val (.long p1), .second, .val (.int p2), .val (.int p3), .val (.int bo), .val (.ref b9), .val (.ref b11), .val (.int (own_r cf_13 bo)), .val (.long (bo.toInt64)), .second, .val (.long ((4294967296 : Int64) / (bo.toInt64))), .second, .val (.long (XT.ushrL (own_mix ((p1 + (-7046029254386353131 : Int64)) + (-7046029254386353131 : Int64))) (32 : Int32))), .second, .unset, .unset, .unset] [(.ref b11)])) rfl (by rw [hml]; rfl) (Steps.refl _) (argsL := []) (rest := []) (lenOf own_pd0 rfl) rfl (by show 2 * 0 + _ ≤ _; exact Nat.le_of_eq rfl) (hb hby at_105) (fun _ _ => ⟨rfl, rfl, (by decide : 2 + 0 ≤ _), (by decide : 2 + 0 ≤ _)⟩)
        dsimp only [Pt.U, Pt.locs, Pt.cells, Pt.slots] at X22 l22 y22 z22 st22 hQ22
        subst l22 y22 z22
        obtain ⟨rfl, Nq22, Kq22, Fq22_0, Fq22_1⟩ := hQ22
        have N22 := Fr.app N18 Nq22
        have f22_0 : Fld Z T22.heap b9 "com/example/eigentuple/eigentuple/io/SplitMix" "state" "J" (.long cf_13) := f18_0.keep Kq22 (ninS ne_b9_b11 nin0)
        have f22_1 : Exa Z T22.heap b9 "com/example/eigentuple/eigentuple/io/SplitMix" := f18_1.keep Kq22
        have f22_3 : Exa Z T22.heap b11 "com/example/eigentuple/eigentuple/io/SplitMix" := Fq18_1.keep Kq22
        have K22 : Keep h0 T22.heap [] := K18.trans Kq22 (allS (Or.inr sz_b11) all0)
        refine own_step (U' := (T22.setTop (mkF m 108 #[.val (.long p1), .second, .val (.int p2), .val (.int p3), .val (.int bo), .val (.ref b9), .val (.ref b11), .val (.int (own_r cf_13 bo)), .val (.long (bo.toInt64)), .second, .val (.long ((4294967296 : Int64) / (bo.toInt64))), .second, .val (.long (XT.ushrL (own_mix ((p1 + (-7046029254386353131 : Int64)) + (-7046029254386353131 : Int64))) (32 : Int32))), .second, .unset, .unset, .unset] [(.long (own_mix (((p1 + (-7046029254386353131 : Int64)) + (-7046029254386353131 : Int64)) + (-7046029254386353131 : Int64))))]))) (fun t ht => st22.trans ht) ?_
        refine own_step (U' := (T22.setTop (mkF m 110 #[.val (.long p1), .second, .val (.int p2), .val (.int p3), .val (.int bo), .val (.ref b9), .val (.ref b11), .val (.int (own_r cf_13 bo)), .val (.long (bo.toInt64)), .second, .val (.long ((4294967296 : Int64) / (bo.toInt64))), .second, .val (.long (XT.ushrL (own_mix ((p1 + (-7046029254386353131 : Int64)) + (-7046029254386353131 : Int64))) (32 : Int32))), .second, .unset, .unset, .unset] [(.int (32 : Int32)), (.long (own_mix (((p1 + (-7046029254386353131 : Int64)) + (-7046029254386353131 : Int64)) + (-7046029254386353131 : Int64))))]))) (fun t ht => XS.bipush X22.here hx rfl (hb hby at_108) ht) ?_
        refine own_step (U' := (T22.setTop (mkF m 111 #[.val (.long p1), .second, .val (.int p2), .val (.int p3), .val (.int bo), .val (.ref b9), .val (.ref b11), .val (.int (own_r cf_13 bo)), .val (.long (bo.toInt64)), .second, .val (.long ((4294967296 : Int64) / (bo.toInt64))), .second, .val (.long (XT.ushrL (own_mix ((p1 + (-7046029254386353131 : Int64)) + (-7046029254386353131 : Int64))) (32 : Int32))), .second, .unset, .unset, .unset] [(.long (XT.ushrL (own_mix (((p1 + (-7046029254386353131 : Int64)) + (-7046029254386353131 : Int64)) + (-7046029254386353131 : Int64))) (32 : Int32)))]))) (fun t ht => XT.lushr X22.here hx rfl (hb hby at_110) rfl ht) ?_
        refine own_step (U' := (T22.setTop (mkF m 113 #[.val (.long p1), .second, .val (.int p2), .val (.int p3), .val (.int bo), .val (.ref b9), .val (.ref b11), .val (.int (own_r cf_13 bo)), .val (.long (bo.toInt64)), .second, .val (.long ((4294967296 : Int64) / (bo.toInt64))), .second, .val (.long (XT.ushrL (own_mix (((p1 + (-7046029254386353131 : Int64)) + (-7046029254386353131 : Int64)) + (-7046029254386353131 : Int64))) (32 : Int32))), .second, .unset, .unset, .unset] []))) (fun t ht => XT.lstore X22.here hx rfl (hb hby at_111) rfl (l' := #[.val (.long p1), .second, .val (.int p2), .val (.int p3), .val (.int bo), .val (.ref b9), .val (.ref b11), .val (.int (own_r cf_13 bo)), .val (.long (bo.toInt64)), .second, .val (.long ((4294967296 : Int64) / (bo.toInt64))), .second, .val (.long (XT.ushrL (own_mix (((p1 + (-7046029254386353131 : Int64)) + (-7046029254386353131 : Int64)) + (-7046029254386353131 : Int64))) (32 : Int32))), .second, .unset, .unset, .unset]) rfl ht) ?_
        refine own_step (U' := (T22.setTop (mkF m 115 #[.val (.long p1), .second, .val (.int p2), .val (.int p3), .val (.int bo), .val (.ref b9), .val (.ref b11), .val (.int (own_r cf_13 bo)), .val (.long (bo.toInt64)), .second, .val (.long ((4294967296 : Int64) / (bo.toInt64))), .second, .val (.long (XT.ushrL (own_mix (((p1 + (-7046029254386353131 : Int64)) + (-7046029254386353131 : Int64)) + (-7046029254386353131 : Int64))) (32 : Int32))), .second, .unset, .unset, .unset] [(.long (XT.ushrL (own_mix (((p1 + (-7046029254386353131 : Int64)) + (-7046029254386353131 : Int64)) + (-7046029254386353131 : Int64))) (32 : Int32)))]))) (fun t ht => XT.lload X22.here hx rfl (hb hby at_113) rfl ht) ?_
        refine own_step (U' := (T22.setTop (mkF m 117 #[.val (.long p1), .second, .val (.int p2), .val (.int p3), .val (.int bo), .val (.ref b9), .val (.ref b11), .val (.int (own_r cf_13 bo)), .val (.long (bo.toInt64)), .second, .val (.long ((4294967296 : Int64) / (bo.toInt64))), .second, .val (.long (XT.ushrL (own_mix (((p1 + (-7046029254386353131 : Int64)) + (-7046029254386353131 : Int64)) + (-7046029254386353131 : Int64))) (32 : Int32))), .second, .unset, .unset, .unset] [(.long (bo.toInt64)), (.long (XT.ushrL (own_mix (((p1 + (-7046029254386353131 : Int64)) + (-7046029254386353131 : Int64)) + (-7046029254386353131 : Int64))) (32 : Int32)))]))) (fun t ht => XT.lload X22.here hx rfl (hb hby at_115) rfl ht) ?_
        refine own_step (U' := (T22.setTop (mkF m 118 #[.val (.long p1), .second, .val (.int p2), .val (.int p3), .val (.int bo), .val (.ref b9), .val (.ref b11), .val (.int (own_r cf_13 bo)), .val (.long (bo.toInt64)), .second, .val (.long ((4294967296 : Int64) / (bo.toInt64))), .second, .val (.long (XT.ushrL (own_mix (((p1 + (-7046029254386353131 : Int64)) + (-7046029254386353131 : Int64)) + (-7046029254386353131 : Int64))) (32 : Int32))), .second, .unset, .unset, .unset] [(.long ((XT.ushrL (own_mix (((p1 + (-7046029254386353131 : Int64)) + (-7046029254386353131 : Int64)) + (-7046029254386353131 : Int64))) (32 : Int32)) / (bo.toInt64)))]))) (fun t ht => XT.ldiv X22.here hx rfl (hb hby at_117) rfl (own_nz hbd) ht) ?_
        refine own_step (U' := (T22.setTop (mkF m 120 #[.val (.long p1), .second, .val (.int p2), .val (.int p3), .val (.int bo), .val (.ref b9), .val (.ref b11), .val (.int (own_r cf_13 bo)), .val (.long (bo.toInt64)), .second, .val (.long ((4294967296 : Int64) / (bo.toInt64))), .second, .val (.long (XT.ushrL (own_mix (((p1 + (-7046029254386353131 : Int64)) + (-7046029254386353131 : Int64)) + (-7046029254386353131 : Int64))) (32 : Int32))), .second, .unset, .unset, .unset] [(.long ((4294967296 : Int64) / (bo.toInt64))), (.long ((XT.ushrL (own_mix (((p1 + (-7046029254386353131 : Int64)) + (-7046029254386353131 : Int64)) + (-7046029254386353131 : Int64))) (32 : Int32)) / (bo.toInt64)))]))) (fun t ht => XT.lload X22.here hx rfl (hb hby at_118) rfl ht) ?_
        refine own_step (U' := (T22.setTop (mkF m 121 #[.val (.long p1), .second, .val (.int p2), .val (.int p3), .val (.int bo), .val (.ref b9), .val (.ref b11), .val (.int (own_r cf_13 bo)), .val (.long (bo.toInt64)), .second, .val (.long ((4294967296 : Int64) / (bo.toInt64))), .second, .val (.long (XT.ushrL (own_mix (((p1 + (-7046029254386353131 : Int64)) + (-7046029254386353131 : Int64)) + (-7046029254386353131 : Int64))) (32 : Int32))), .second, .unset, .unset, .unset] [(.int (XT.cmpL ((XT.ushrL (own_mix (((p1 + (-7046029254386353131 : Int64)) + (-7046029254386353131 : Int64)) + (-7046029254386353131 : Int64))) (32 : Int32)) / (bo.toInt64)) ((4294967296 : Int64) / (bo.toInt64))))]))) (fun t ht => XT.lcmp X22.here hx rfl (hb hby at_120) rfl ht) ?_
        by_cases hc121_23 : ((XT.ushrL (own_mix (((p1 + (-7046029254386353131 : Int64)) + (-7046029254386353131 : Int64)) + (-7046029254386353131 : Int64))) (32 : Int32)) / (bo.toInt64)) < ((4294967296 : Int64) / (bo.toInt64))
        ·
          refine own_step (U' := (T22.setTop (mkF m 126 #[.val (.long p1), .second, .val (.int p2), .val (.int p3), .val (.int bo), .val (.ref b9), .val (.ref b11), .val (.int (own_r cf_13 bo)), .val (.long (bo.toInt64)), .second, .val (.long ((4294967296 : Int64) / (bo.toInt64))), .second, .val (.long (XT.ushrL (own_mix (((p1 + (-7046029254386353131 : Int64)) + (-7046029254386353131 : Int64)) + (-7046029254386353131 : Int64))) (32 : Int32))), .second, .unset, .unset, .unset] []))) (fun t ht => XS.ifYes X22.here hx rfl (pc0 := 121) (pc' := 126) rfl (hb hby at_121) rfl (XT.ll_lt_t hc121_23) (by decide) (by decide) ht) ?_
          have hcf : cf_13 = (((p1 + (-7046029254386353131 : Int64)) + (-7046029254386353131 : Int64)) + (-7046029254386353131 : Int64)) := (own_c3 p13_0 p13_1 (fun q => hc79_15 ((own_acc hbd _).mpr q)) (fun q => hc100_19 ((own_acc hbd _).mpr q)) ((own_acc hbd _).mp hc121_23))
          refine own_step (U' := (T22.setTop (mkF m 128 #[.val (.long p1), .second, .val (.int p2), .val (.int p3), .val (.int bo), .val (.ref b9), .val (.ref b11), .val (.int (own_r cf_13 bo)), .val (.long (bo.toInt64)), .second, .val (.long ((4294967296 : Int64) / (bo.toInt64))), .second, .val (.long (XT.ushrL (own_mix (((p1 + (-7046029254386353131 : Int64)) + (-7046029254386353131 : Int64)) + (-7046029254386353131 : Int64))) (32 : Int32))), .second, .unset, .unset, .unset] [(.int (own_r cf_13 bo))]))) (fun t ht => XS.iload X22.here hx rfl (hb hby at_126) rfl ht) ?_
          refine own_step (U' := (T22.setTop (mkF m 131 #[.val (.long p1), .second, .val (.int p2), .val (.int p3), .val (.int bo), .val (.ref b9), .val (.ref b11), .val (.int (own_r cf_13 bo)), .val (.long (bo.toInt64)), .second, .val (.long ((4294967296 : Int64) / (bo.toInt64))), .second, .val (.long (XT.ushrL (own_mix (((p1 + (-7046029254386353131 : Int64)) + (-7046029254386353131 : Int64)) + (-7046029254386353131 : Int64))) (32 : Int32))), .second, .unset, .unset, .unset] []))) (fun t ht => XS.ifNo X22.here hx rfl (hb hby at_128) rfl (XT.i0_lt_f ((own_r0 hbd _) : ¬ ((own_r cf_13 bo) < 0))) ht) ?_
          refine own_step (U' := (T22.setTop (mkF m 133 #[.val (.long p1), .second, .val (.int p2), .val (.int p3), .val (.int bo), .val (.ref b9), .val (.ref b11), .val (.int (own_r cf_13 bo)), .val (.long (bo.toInt64)), .second, .val (.long ((4294967296 : Int64) / (bo.toInt64))), .second, .val (.long (XT.ushrL (own_mix (((p1 + (-7046029254386353131 : Int64)) + (-7046029254386353131 : Int64)) + (-7046029254386353131 : Int64))) (32 : Int32))), .second, .unset, .unset, .unset] [(.int (own_r cf_13 bo))]))) (fun t ht => XS.iload X22.here hx rfl (hb hby at_131) rfl ht) ?_
          refine own_step (U' := (T22.setTop (mkF m 135 #[.val (.long p1), .second, .val (.int p2), .val (.int p3), .val (.int bo), .val (.ref b9), .val (.ref b11), .val (.int (own_r cf_13 bo)), .val (.long (bo.toInt64)), .second, .val (.long ((4294967296 : Int64) / (bo.toInt64))), .second, .val (.long (XT.ushrL (own_mix (((p1 + (-7046029254386353131 : Int64)) + (-7046029254386353131 : Int64)) + (-7046029254386353131 : Int64))) (32 : Int32))), .second, .unset, .unset, .unset] [(.int bo), (.int (own_r cf_13 bo))]))) (fun t ht => XS.iload X22.here hx rfl (hb hby at_133) rfl ht) ?_
          refine own_step (U' := (T22.setTop (mkF m 138 #[.val (.long p1), .second, .val (.int p2), .val (.int p3), .val (.int bo), .val (.ref b9), .val (.ref b11), .val (.int (own_r cf_13 bo)), .val (.long (bo.toInt64)), .second, .val (.long ((4294967296 : Int64) / (bo.toInt64))), .second, .val (.long (XT.ushrL (own_mix (((p1 + (-7046029254386353131 : Int64)) + (-7046029254386353131 : Int64)) + (-7046029254386353131 : Int64))) (32 : Int32))), .second, .unset, .unset, .unset] []))) (fun t ht => XS.icmpNo X22.here hx rfl (hb hby at_135) rfl (XT.ii_ge_f ((own_rb hbd _) : (own_r cf_13 bo) < bo)) ht) ?_
          refine own_step (U' := (T22.setTop (mkF m 139 #[.val (.long p1), .second, .val (.int p2), .val (.int p3), .val (.int bo), .val (.ref b9), .val (.ref b11), .val (.int (own_r cf_13 bo)), .val (.long (bo.toInt64)), .second, .val (.long ((4294967296 : Int64) / (bo.toInt64))), .second, .val (.long (XT.ushrL (own_mix (((p1 + (-7046029254386353131 : Int64)) + (-7046029254386353131 : Int64)) + (-7046029254386353131 : Int64))) (32 : Int32))), .second, .unset, .unset, .unset] [(.int (1 : Int32))]))) (fun t ht => XS.iconst X22.here hx rfl (hb hby at_138) ht) ?_
          refine own_step (U' := (T22.setTop (mkF m 143 #[.val (.long p1), .second, .val (.int p2), .val (.int p3), .val (.int bo), .val (.ref b9), .val (.ref b11), .val (.int (own_r cf_13 bo)), .val (.long (bo.toInt64)), .second, .val (.long ((4294967296 : Int64) / (bo.toInt64))), .second, .val (.long (XT.ushrL (own_mix (((p1 + (-7046029254386353131 : Int64)) + (-7046029254386353131 : Int64)) + (-7046029254386353131 : Int64))) (32 : Int32))), .second, .unset, .unset, .unset] [(.int (1 : Int32))]))) (fun t ht => XS.goto X22.here hx rfl (pc0 := 139) (pc' := 143) rfl (hb hby at_139) (by decide) (by decide) ht) ?_
          refine own_step (U' := (T22.setTop (mkF m 145 #[.val (.long p1), .second, .val (.int p2), .val (.int p3), .val (.int bo), .val (.ref b9), .val (.ref b11), .val (.int (own_r cf_13 bo)), .val (.long (bo.toInt64)), .second, .val (.long ((4294967296 : Int64) / (bo.toInt64))), .second, .val (.long (XT.ushrL (own_mix (((p1 + (-7046029254386353131 : Int64)) + (-7046029254386353131 : Int64)) + (-7046029254386353131 : Int64))) (32 : Int32))), .second, .val (.int (1 : Int32)), .unset, .unset] []))) (fun t ht => XS.istore X22.here hx rfl (hb hby at_143) rfl (l' := #[.val (.long p1), .second, .val (.int p2), .val (.int p3), .val (.int bo), .val (.ref b9), .val (.ref b11), .val (.int (own_r cf_13 bo)), .val (.long (bo.toInt64)), .second, .val (.long ((4294967296 : Int64) / (bo.toInt64))), .second, .val (.long (XT.ushrL (own_mix (((p1 + (-7046029254386353131 : Int64)) + (-7046029254386353131 : Int64)) + (-7046029254386353131 : Int64))) (32 : Int32))), .second, .val (.int (1 : Int32)), .unset, .unset]) rfl ht) ?_
          refine own_step (U' := (T22.setTop (mkF m 147 #[.val (.long p1), .second, .val (.int p2), .val (.int p3), .val (.int bo), .val (.ref b9), .val (.ref b11), .val (.int (own_r cf_13 bo)), .val (.long (bo.toInt64)), .second, .val (.long ((4294967296 : Int64) / (bo.toInt64))), .second, .val (.long (XT.ushrL (own_mix (((p1 + (-7046029254386353131 : Int64)) + (-7046029254386353131 : Int64)) + (-7046029254386353131 : Int64))) (32 : Int32))), .second, .val (.int (1 : Int32)), .unset, .unset] [(.int (own_r cf_13 bo))]))) (fun t ht => XS.iload X22.here hx rfl (hb hby at_145) rfl ht) ?_
          refine own_step (U' := (T22.setTop (mkF m 149 #[.val (.long p1), .second, .val (.int p2), .val (.int p3), .val (.int bo), .val (.ref b9), .val (.ref b11), .val (.int (own_r cf_13 bo)), .val (.long (bo.toInt64)), .second, .val (.long ((4294967296 : Int64) / (bo.toInt64))), .second, .val (.long (XT.ushrL (own_mix (((p1 + (-7046029254386353131 : Int64)) + (-7046029254386353131 : Int64)) + (-7046029254386353131 : Int64))) (32 : Int32))), .second, .val (.int (1 : Int32)), .unset, .unset] [(.long (XT.ushrL (own_mix (((p1 + (-7046029254386353131 : Int64)) + (-7046029254386353131 : Int64)) + (-7046029254386353131 : Int64))) (32 : Int32))), (.int (own_r cf_13 bo))]))) (fun t ht => XT.lload X22.here hx rfl (hb hby at_147) rfl ht) ?_
          refine own_step (U' := (T22.setTop (mkF m 151 #[.val (.long p1), .second, .val (.int p2), .val (.int p3), .val (.int bo), .val (.ref b9), .val (.ref b11), .val (.int (own_r cf_13 bo)), .val (.long (bo.toInt64)), .second, .val (.long ((4294967296 : Int64) / (bo.toInt64))), .second, .val (.long (XT.ushrL (own_mix (((p1 + (-7046029254386353131 : Int64)) + (-7046029254386353131 : Int64)) + (-7046029254386353131 : Int64))) (32 : Int32))), .second, .val (.int (1 : Int32)), .unset, .unset] [(.long (bo.toInt64)), (.long (XT.ushrL (own_mix (((p1 + (-7046029254386353131 : Int64)) + (-7046029254386353131 : Int64)) + (-7046029254386353131 : Int64))) (32 : Int32))), (.int (own_r cf_13 bo))]))) (fun t ht => XT.lload X22.here hx rfl (hb hby at_149) rfl ht) ?_
          refine own_step (U' := (T22.setTop (mkF m 152 #[.val (.long p1), .second, .val (.int p2), .val (.int p3), .val (.int bo), .val (.ref b9), .val (.ref b11), .val (.int (own_r cf_13 bo)), .val (.long (bo.toInt64)), .second, .val (.long ((4294967296 : Int64) / (bo.toInt64))), .second, .val (.long (XT.ushrL (own_mix (((p1 + (-7046029254386353131 : Int64)) + (-7046029254386353131 : Int64)) + (-7046029254386353131 : Int64))) (32 : Int32))), .second, .val (.int (1 : Int32)), .unset, .unset] [(.long (own_lrem (XT.ushrL (own_mix (((p1 + (-7046029254386353131 : Int64)) + (-7046029254386353131 : Int64)) + (-7046029254386353131 : Int64))) (32 : Int32)) (bo.toInt64))), (.int (own_r cf_13 bo))]))) (fun t ht => XT.lrem X22.here hx rfl (hb hby at_151) rfl (own_nz hbd) ht) ?_
          refine own_step (U' := (T22.setTop (mkF m 153 #[.val (.long p1), .second, .val (.int p2), .val (.int p3), .val (.int bo), .val (.ref b9), .val (.ref b11), .val (.int (own_r cf_13 bo)), .val (.long (bo.toInt64)), .second, .val (.long ((4294967296 : Int64) / (bo.toInt64))), .second, .val (.long (XT.ushrL (own_mix (((p1 + (-7046029254386353131 : Int64)) + (-7046029254386353131 : Int64)) + (-7046029254386353131 : Int64))) (32 : Int32))), .second, .val (.int (1 : Int32)), .unset, .unset] [(.int ((own_lrem (XT.ushrL (own_mix (((p1 + (-7046029254386353131 : Int64)) + (-7046029254386353131 : Int64)) + (-7046029254386353131 : Int64))) (32 : Int32)) (bo.toInt64)).toInt32)), (.int (own_r cf_13 bo))]))) (fun t ht => XT.l2i X22.here hx rfl (hb hby at_152) rfl ht) ?_
          refine own_step (U' := (T22.setTop (mkF m 156 #[.val (.long p1), .second, .val (.int p2), .val (.int p3), .val (.int bo), .val (.ref b9), .val (.ref b11), .val (.int (own_r cf_13 bo)), .val (.long (bo.toInt64)), .second, .val (.long ((4294967296 : Int64) / (bo.toInt64))), .second, .val (.long (XT.ushrL (own_mix (((p1 + (-7046029254386353131 : Int64)) + (-7046029254386353131 : Int64)) + (-7046029254386353131 : Int64))) (32 : Int32))), .second, .val (.int (1 : Int32)), .unset, .unset] []))) (fun t ht => XS.icmpNo X22.here hx rfl (hb hby at_153) rfl (XT.ii_ne_f ((by rw [hcf]; rfl) : (own_r cf_13 bo) = ((own_lrem (XT.ushrL (own_mix (((p1 + (-7046029254386353131 : Int64)) + (-7046029254386353131 : Int64)) + (-7046029254386353131 : Int64))) (32 : Int32)) (bo.toInt64)).toInt32))) ht) ?_
          refine own_step (U' := (T22.setTop (mkF m 157 #[.val (.long p1), .second, .val (.int p2), .val (.int p3), .val (.int bo), .val (.ref b9), .val (.ref b11), .val (.int (own_r cf_13 bo)), .val (.long (bo.toInt64)), .second, .val (.long ((4294967296 : Int64) / (bo.toInt64))), .second, .val (.long (XT.ushrL (own_mix (((p1 + (-7046029254386353131 : Int64)) + (-7046029254386353131 : Int64)) + (-7046029254386353131 : Int64))) (32 : Int32))), .second, .val (.int (1 : Int32)), .unset, .unset] [(.int (1 : Int32))]))) (fun t ht => XS.iconst X22.here hx rfl (hb hby at_156) ht) ?_
          refine own_step (U' := (T22.setTop (mkF m 161 #[.val (.long p1), .second, .val (.int p2), .val (.int p3), .val (.int bo), .val (.ref b9), .val (.ref b11), .val (.int (own_r cf_13 bo)), .val (.long (bo.toInt64)), .second, .val (.long ((4294967296 : Int64) / (bo.toInt64))), .second, .val (.long (XT.ushrL (own_mix (((p1 + (-7046029254386353131 : Int64)) + (-7046029254386353131 : Int64)) + (-7046029254386353131 : Int64))) (32 : Int32))), .second, .val (.int (1 : Int32)), .unset, .unset] [(.int (1 : Int32))]))) (fun t ht => XS.goto X22.here hx rfl (pc0 := 157) (pc' := 161) rfl (hb hby at_157) (by decide) (by decide) ht) ?_
          refine own_step (U' := (T22.setTop (mkF m 163 #[.val (.long p1), .second, .val (.int p2), .val (.int p3), .val (.int bo), .val (.ref b9), .val (.ref b11), .val (.int (own_r cf_13 bo)), .val (.long (bo.toInt64)), .second, .val (.long ((4294967296 : Int64) / (bo.toInt64))), .second, .val (.long (XT.ushrL (own_mix (((p1 + (-7046029254386353131 : Int64)) + (-7046029254386353131 : Int64)) + (-7046029254386353131 : Int64))) (32 : Int32))), .second, .val (.int (1 : Int32)), .val (.int (1 : Int32)), .unset] []))) (fun t ht => XS.istore X22.here hx rfl (hb hby at_161) rfl (l' := #[.val (.long p1), .second, .val (.int p2), .val (.int p3), .val (.int bo), .val (.ref b9), .val (.ref b11), .val (.int (own_r cf_13 bo)), .val (.long (bo.toInt64)), .second, .val (.long ((4294967296 : Int64) / (bo.toInt64))), .second, .val (.long (XT.ushrL (own_mix (((p1 + (-7046029254386353131 : Int64)) + (-7046029254386353131 : Int64)) + (-7046029254386353131 : Int64))) (32 : Int32))), .second, .val (.int (1 : Int32)), .val (.int (1 : Int32)), .unset]) rfl ht) ?_
          refine own_step (U' := (T22.setTop (mkF m 165 #[.val (.long p1), .second, .val (.int p2), .val (.int p3), .val (.int bo), .val (.ref b9), .val (.ref b11), .val (.int (own_r cf_13 bo)), .val (.long (bo.toInt64)), .second, .val (.long ((4294967296 : Int64) / (bo.toInt64))), .second, .val (.long (XT.ushrL (own_mix (((p1 + (-7046029254386353131 : Int64)) + (-7046029254386353131 : Int64)) + (-7046029254386353131 : Int64))) (32 : Int32))), .second, .val (.int (1 : Int32)), .val (.int (1 : Int32)), .unset] [(.ref b9)]))) (fun t ht => XS.aload X22.here hx rfl (hb hby at_163) rfl rfl ht) ?_
          obtain ⟨cq24, kq24, q24a, q24b, q24c⟩ := isOf hZ rfl f22_1
          obtain ⟨_, _, ⟨T24, L24, k24, n24⟩, -, X24, ⟨Lc24, hQ24, l24, y24, z24⟩, st24⟩ := X22.virtualBack hx (y := (⟨"com/example/eigentuple/eigentuple/io/SplitMix", "nextLong", "()J"⟩ : MethodName)) (z := (⟨"com/example/eigentuple/eigentuple/io/SplitMix", "nextLong", "()J"⟩ : MethodName)) hown (mvT hZ (hw _ (List.mem_of_getElem? (i := 27) rfl))) (mvT hZ (hw _ (List.mem_of_getElem? (i := 19) rfl))) (notFace_of_selects (args := #[]) (mvT hZ (hw _ (List.mem_of_getElem? (i := 21) rfl)))) (mvT hZ (hw _ (List.mem_of_getElem? (i := 21) rfl))) (mvT hZ (hw _ (List.mem_of_getElem? (i := 20) rfl))) (by decide) (backOf (W := 0) (own_m_nl l Z a0 hw [] (b9) (cf_13) T22.heap n0 (Nat.le_trans Z0 K22.1) g_b9 f22_0 f22_1) hZ (hw _ (List.mem_of_getElem? (i := 22) rfl)) (hw _ (List.mem_of_getElem? (i := 3) rfl)) (by decide) (by decide)) q24a q24c (g := (mkF m 165 #[.val (.long p1), .second, .val (.int p2), .val (.int p3), .val (.int bo), .val (.ref b9), .val (.ref b11), .val (.int (own_r cf_13 bo)), .val (.long (bo.toInt64)), .second, .val (.long ((4294967296 : Int64) / (bo.toInt64))), .second, .val (.long (XT.ushrL (own_mix (((p1 + (-7046029254386353131 : Int64)) + (-7046029254386353131 : Int64)) + (-7046029254386353131 : Int64))) (32 : Int32))), .second, .val (.int (1 : Int32)), .val (.int (1 : Int32)), .unset] [(.ref b9)])) rfl (by rw [hml]; rfl) (Steps.refl _) (argsL := []) (rest := []) (lenOf own_pd0 rfl) rfl (by show 2 * 0 + _ ≤ _; exact Nat.le_of_eq rfl) (hb hby at_165) (fun _ _ => ⟨rfl, rfl, (by decide : 2 + 0 ≤ _), (by decide : 2 + 0 ≤ _)⟩)
          dsimp only [Pt.U, Pt.locs, Pt.cells, Pt.slots] at X24 l24 y24 z24 st24 hQ24
          subst l24 y24 z24
          obtain ⟨rfl, Nq24, Kq24, Fq24_0, Fq24_1⟩ := hQ24
          have N24 := Fr.app N22 Nq24
          have f24_1 : Exa Z T24.heap b9 "com/example/eigentuple/eigentuple/io/SplitMix" := f22_1.keep Kq24
          have f24_2 : Fld Z T24.heap b11 "com/example/eigentuple/eigentuple/io/SplitMix" "state" "J" (.long (((p1 + (-7046029254386353131 : Int64)) + (-7046029254386353131 : Int64)) + (-7046029254386353131 : Int64))) := Fq22_0.keep Kq24 (ninS (Ne.symm ne_b9_b11) nin0)
          have f24_3 : Exa Z T24.heap b11 "com/example/eigentuple/eigentuple/io/SplitMix" := Fq22_1.keep Kq24
          have K24 : Keep h0 T24.heap [] := K22.trans Kq24 (allS (Or.inr sz_b9) all0)
          refine own_step (U' := (T24.setTop (mkF m 168 #[.val (.long p1), .second, .val (.int p2), .val (.int p3), .val (.int bo), .val (.ref b9), .val (.ref b11), .val (.int (own_r cf_13 bo)), .val (.long (bo.toInt64)), .second, .val (.long ((4294967296 : Int64) / (bo.toInt64))), .second, .val (.long (XT.ushrL (own_mix (((p1 + (-7046029254386353131 : Int64)) + (-7046029254386353131 : Int64)) + (-7046029254386353131 : Int64))) (32 : Int32))), .second, .val (.int (1 : Int32)), .val (.int (1 : Int32)), .unset] [(.long (own_mix (cf_13 + (-7046029254386353131 : Int64))))]))) (fun t ht => st24.trans ht) ?_
          refine own_step (U' := (T24.setTop (mkF m 170 #[.val (.long p1), .second, .val (.int p2), .val (.int p3), .val (.int bo), .val (.ref b9), .val (.ref b11), .val (.int (own_r cf_13 bo)), .val (.long (bo.toInt64)), .second, .val (.long ((4294967296 : Int64) / (bo.toInt64))), .second, .val (.long (XT.ushrL (own_mix (((p1 + (-7046029254386353131 : Int64)) + (-7046029254386353131 : Int64)) + (-7046029254386353131 : Int64))) (32 : Int32))), .second, .val (.int (1 : Int32)), .val (.int (1 : Int32)), .unset] [(.ref b11), (.long (own_mix (cf_13 + (-7046029254386353131 : Int64))))]))) (fun t ht => XS.aload X24.here hx rfl (hb hby at_168) rfl rfl ht) ?_
          obtain ⟨cq25, kq25, q25a, q25b, q25c⟩ := isOf hZ rfl f24_3
          obtain ⟨_, _, ⟨T25, L25, k25, n25⟩, -, X25, ⟨Lc25, hQ25, l25, y25, z25⟩, st25⟩ := X24.virtualBack hx (y := (⟨"com/example/eigentuple/eigentuple/io/SplitMix", "nextLong", "()J"⟩ : MethodName)) (z := (⟨"com/example/eigentuple/eigentuple/io/SplitMix", "nextLong", "()J"⟩ : MethodName)) hown (mvT hZ (hw _ (List.mem_of_getElem? (i := 27) rfl))) (mvT hZ (hw _ (List.mem_of_getElem? (i := 19) rfl))) (notFace_of_selects (args := #[]) (mvT hZ (hw _ (List.mem_of_getElem? (i := 21) rfl)))) (mvT hZ (hw _ (List.mem_of_getElem? (i := 21) rfl))) (mvT hZ (hw _ (List.mem_of_getElem? (i := 20) rfl))) (by decide) (backOf (W := 2) (own_m_nl l Z a0 hw [] (b11) ((((p1 + (-7046029254386353131 : Int64)) + (-7046029254386353131 : Int64)) + (-7046029254386353131 : Int64))) T24.heap n0 (Nat.le_trans Z0 K24.1) g_b11 f24_2 f24_3) hZ (hw _ (List.mem_of_getElem? (i := 22) rfl)) (hw _ (List.mem_of_getElem? (i := 3) rfl)) (by decide) (by decide)) q25a q25c (g := (mkF m 170 #[.val (.long p1), .second, .val (.int p2), .val (.int p3), .val (.int bo), .val (.ref b9), .val (.ref b11), .val (.int (own_r cf_13 bo)), .val (.long (bo.toInt64)), .second, .val (.long ((4294967296 : Int64) / (bo.toInt64))), .second, .val (.long (XT.ushrL (own_mix (((p1 + (-7046029254386353131 : Int64)) + (-7046029254386353131 : Int64)) + (-7046029254386353131 : Int64))) (32 : Int32))), .second, .val (.int (1 : Int32)), .val (.int (1 : Int32)), .unset] [(.ref b11), (.long (own_mix (cf_13 + (-7046029254386353131 : Int64))))])) rfl (by rw [hml]; rfl) (Steps.refl _) (argsL := []) (rest := [(.long (own_mix (cf_13 + (-7046029254386353131 : Int64))))]) (lenOf own_pd0 rfl) rfl (by show 2 * 0 + _ ≤ _; exact Nat.le_of_eq rfl) (hb hby at_170) (fun _ _ => ⟨rfl, rfl, (by decide : 2 + 0 ≤ _), (by decide : 2 + 0 ≤ _)⟩)
          dsimp only [Pt.U, Pt.locs, Pt.cells, Pt.slots] at X25 l25 y25 z25 st25 hQ25
          subst l25 y25 z25
          obtain ⟨rfl, Nq25, Kq25, Fq25_0, Fq25_1⟩ := hQ25
          have N25 := Fr.app N24 Nq25
          have f25_1 : Exa Z T25.heap b11 "com/example/eigentuple/eigentuple/io/SplitMix" := f24_3.keep Kq25
          have f25_2 : Fld Z T25.heap b9 "com/example/eigentuple/eigentuple/io/SplitMix" "state" "J" (.long (cf_13 + (-7046029254386353131 : Int64))) := Fq24_0.keep Kq25 (ninS ne_b9_b11 nin0)
          have f25_3 : Exa Z T25.heap b9 "com/example/eigentuple/eigentuple/io/SplitMix" := Fq24_1.keep Kq25
          have K25 : Keep h0 T25.heap [] := K24.trans Kq25 (allS (Or.inr sz_b11) all0)
          refine own_step (U' := (T25.setTop (mkF m 173 #[.val (.long p1), .second, .val (.int p2), .val (.int p3), .val (.int bo), .val (.ref b9), .val (.ref b11), .val (.int (own_r cf_13 bo)), .val (.long (bo.toInt64)), .second, .val (.long ((4294967296 : Int64) / (bo.toInt64))), .second, .val (.long (XT.ushrL (own_mix (((p1 + (-7046029254386353131 : Int64)) + (-7046029254386353131 : Int64)) + (-7046029254386353131 : Int64))) (32 : Int32))), .second, .val (.int (1 : Int32)), .val (.int (1 : Int32)), .unset] [(.long (own_mix ((((p1 + (-7046029254386353131 : Int64)) + (-7046029254386353131 : Int64)) + (-7046029254386353131 : Int64)) + (-7046029254386353131 : Int64)))), (.long (own_mix (cf_13 + (-7046029254386353131 : Int64))))]))) (fun t ht => st25.trans ht) ?_
          refine own_step (U' := (T25.setTop (mkF m 174 #[.val (.long p1), .second, .val (.int p2), .val (.int p3), .val (.int bo), .val (.ref b9), .val (.ref b11), .val (.int (own_r cf_13 bo)), .val (.long (bo.toInt64)), .second, .val (.long ((4294967296 : Int64) / (bo.toInt64))), .second, .val (.long (XT.ushrL (own_mix (((p1 + (-7046029254386353131 : Int64)) + (-7046029254386353131 : Int64)) + (-7046029254386353131 : Int64))) (32 : Int32))), .second, .val (.int (1 : Int32)), .val (.int (1 : Int32)), .unset] [(.int (XT.cmpL (own_mix (cf_13 + (-7046029254386353131 : Int64))) (own_mix ((((p1 + (-7046029254386353131 : Int64)) + (-7046029254386353131 : Int64)) + (-7046029254386353131 : Int64)) + (-7046029254386353131 : Int64)))))]))) (fun t ht => XT.lcmp X25.here hx rfl (hb hby at_173) rfl ht) ?_
          refine own_step (U' := (T25.setTop (mkF m 177 #[.val (.long p1), .second, .val (.int p2), .val (.int p3), .val (.int bo), .val (.ref b9), .val (.ref b11), .val (.int (own_r cf_13 bo)), .val (.long (bo.toInt64)), .second, .val (.long ((4294967296 : Int64) / (bo.toInt64))), .second, .val (.long (XT.ushrL (own_mix (((p1 + (-7046029254386353131 : Int64)) + (-7046029254386353131 : Int64)) + (-7046029254386353131 : Int64))) (32 : Int32))), .second, .val (.int (1 : Int32)), .val (.int (1 : Int32)), .unset] []))) (fun t ht => XS.ifNo X25.here hx rfl (hb hby at_174) rfl (XT.ll_ne_f ((by rw [hcf]) : (own_mix (cf_13 + (-7046029254386353131 : Int64))) = (own_mix ((((p1 + (-7046029254386353131 : Int64)) + (-7046029254386353131 : Int64)) + (-7046029254386353131 : Int64)) + (-7046029254386353131 : Int64))))) ht) ?_
          refine own_step (U' := (T25.setTop (mkF m 178 #[.val (.long p1), .second, .val (.int p2), .val (.int p3), .val (.int bo), .val (.ref b9), .val (.ref b11), .val (.int (own_r cf_13 bo)), .val (.long (bo.toInt64)), .second, .val (.long ((4294967296 : Int64) / (bo.toInt64))), .second, .val (.long (XT.ushrL (own_mix (((p1 + (-7046029254386353131 : Int64)) + (-7046029254386353131 : Int64)) + (-7046029254386353131 : Int64))) (32 : Int32))), .second, .val (.int (1 : Int32)), .val (.int (1 : Int32)), .unset] [(.int (1 : Int32))]))) (fun t ht => XS.iconst X25.here hx rfl (hb hby at_177) ht) ?_
          refine own_step (U' := (T25.setTop (mkF m 182 #[.val (.long p1), .second, .val (.int p2), .val (.int p3), .val (.int bo), .val (.ref b9), .val (.ref b11), .val (.int (own_r cf_13 bo)), .val (.long (bo.toInt64)), .second, .val (.long ((4294967296 : Int64) / (bo.toInt64))), .second, .val (.long (XT.ushrL (own_mix (((p1 + (-7046029254386353131 : Int64)) + (-7046029254386353131 : Int64)) + (-7046029254386353131 : Int64))) (32 : Int32))), .second, .val (.int (1 : Int32)), .val (.int (1 : Int32)), .unset] [(.int (1 : Int32))]))) (fun t ht => XS.goto X25.here hx rfl (pc0 := 178) (pc' := 182) rfl (hb hby at_178) (by decide) (by decide) ht) ?_
          refine own_step (U' := (T25.setTop (mkF m 184 #[.val (.long p1), .second, .val (.int p2), .val (.int p3), .val (.int bo), .val (.ref b9), .val (.ref b11), .val (.int (own_r cf_13 bo)), .val (.long (bo.toInt64)), .second, .val (.long ((4294967296 : Int64) / (bo.toInt64))), .second, .val (.long (XT.ushrL (own_mix (((p1 + (-7046029254386353131 : Int64)) + (-7046029254386353131 : Int64)) + (-7046029254386353131 : Int64))) (32 : Int32))), .second, .val (.int (1 : Int32)), .val (.int (1 : Int32)), .val (.int (1 : Int32))] []))) (fun t ht => XS.istore X25.here hx rfl (hb hby at_182) rfl (l' := #[.val (.long p1), .second, .val (.int p2), .val (.int p3), .val (.int bo), .val (.ref b9), .val (.ref b11), .val (.int (own_r cf_13 bo)), .val (.long (bo.toInt64)), .second, .val (.long ((4294967296 : Int64) / (bo.toInt64))), .second, .val (.long (XT.ushrL (own_mix (((p1 + (-7046029254386353131 : Int64)) + (-7046029254386353131 : Int64)) + (-7046029254386353131 : Int64))) (32 : Int32))), .second, .val (.int (1 : Int32)), .val (.int (1 : Int32)), .val (.int (1 : Int32))]) rfl ht) ?_
          refine own_step (U' := (T25.setTop (mkF m 186 #[.val (.long p1), .second, .val (.int p2), .val (.int p3), .val (.int bo), .val (.ref b9), .val (.ref b11), .val (.int (own_r cf_13 bo)), .val (.long (bo.toInt64)), .second, .val (.long ((4294967296 : Int64) / (bo.toInt64))), .second, .val (.long (XT.ushrL (own_mix (((p1 + (-7046029254386353131 : Int64)) + (-7046029254386353131 : Int64)) + (-7046029254386353131 : Int64))) (32 : Int32))), .second, .val (.int (1 : Int32)), .val (.int (1 : Int32)), .val (.int (1 : Int32))] [(.int (1 : Int32))]))) (fun t ht => XS.iload X25.here hx rfl (hb hby at_184) rfl ht) ?_
          refine own_step (U' := (T25.setTop (mkF m 189 #[.val (.long p1), .second, .val (.int p2), .val (.int p3), .val (.int bo), .val (.ref b9), .val (.ref b11), .val (.int (own_r cf_13 bo)), .val (.long (bo.toInt64)), .second, .val (.long ((4294967296 : Int64) / (bo.toInt64))), .second, .val (.long (XT.ushrL (own_mix (((p1 + (-7046029254386353131 : Int64)) + (-7046029254386353131 : Int64)) + (-7046029254386353131 : Int64))) (32 : Int32))), .second, .val (.int (1 : Int32)), .val (.int (1 : Int32)), .val (.int (1 : Int32))] []))) (fun t ht => XS.ifNo X25.here hx rfl (hb hby at_186) rfl (XT.i0_eq_f ((by decide) : ¬ ((1 : Int32) = 0))) ht) ?_
          refine own_step (U' := (T25.setTop (mkF m 191 #[.val (.long p1), .second, .val (.int p2), .val (.int p3), .val (.int bo), .val (.ref b9), .val (.ref b11), .val (.int (own_r cf_13 bo)), .val (.long (bo.toInt64)), .second, .val (.long ((4294967296 : Int64) / (bo.toInt64))), .second, .val (.long (XT.ushrL (own_mix (((p1 + (-7046029254386353131 : Int64)) + (-7046029254386353131 : Int64)) + (-7046029254386353131 : Int64))) (32 : Int32))), .second, .val (.int (1 : Int32)), .val (.int (1 : Int32)), .val (.int (1 : Int32))] [(.int (1 : Int32))]))) (fun t ht => XS.iload X25.here hx rfl (hb hby at_189) rfl ht) ?_
          refine own_step (U' := (T25.setTop (mkF m 194 #[.val (.long p1), .second, .val (.int p2), .val (.int p3), .val (.int bo), .val (.ref b9), .val (.ref b11), .val (.int (own_r cf_13 bo)), .val (.long (bo.toInt64)), .second, .val (.long ((4294967296 : Int64) / (bo.toInt64))), .second, .val (.long (XT.ushrL (own_mix (((p1 + (-7046029254386353131 : Int64)) + (-7046029254386353131 : Int64)) + (-7046029254386353131 : Int64))) (32 : Int32))), .second, .val (.int (1 : Int32)), .val (.int (1 : Int32)), .val (.int (1 : Int32))] []))) (fun t ht => XS.ifNo X25.here hx rfl (hb hby at_191) rfl (XT.i0_eq_f ((by decide) : ¬ ((1 : Int32) = 0))) ht) ?_
          refine own_step (U' := (T25.setTop (mkF m 196 #[.val (.long p1), .second, .val (.int p2), .val (.int p3), .val (.int bo), .val (.ref b9), .val (.ref b11), .val (.int (own_r cf_13 bo)), .val (.long (bo.toInt64)), .second, .val (.long ((4294967296 : Int64) / (bo.toInt64))), .second, .val (.long (XT.ushrL (own_mix (((p1 + (-7046029254386353131 : Int64)) + (-7046029254386353131 : Int64)) + (-7046029254386353131 : Int64))) (32 : Int32))), .second, .val (.int (1 : Int32)), .val (.int (1 : Int32)), .val (.int (1 : Int32))] [(.int (1 : Int32))]))) (fun t ht => XS.iload X25.here hx rfl (hb hby at_194) rfl ht) ?_
          refine own_step (U' := (T25.setTop (mkF m 199 #[.val (.long p1), .second, .val (.int p2), .val (.int p3), .val (.int bo), .val (.ref b9), .val (.ref b11), .val (.int (own_r cf_13 bo)), .val (.long (bo.toInt64)), .second, .val (.long ((4294967296 : Int64) / (bo.toInt64))), .second, .val (.long (XT.ushrL (own_mix (((p1 + (-7046029254386353131 : Int64)) + (-7046029254386353131 : Int64)) + (-7046029254386353131 : Int64))) (32 : Int32))), .second, .val (.int (1 : Int32)), .val (.int (1 : Int32)), .val (.int (1 : Int32))] []))) (fun t ht => XS.ifNo X25.here hx rfl (hb hby at_196) rfl (XT.i0_eq_f ((by decide) : ¬ ((1 : Int32) = 0))) ht) ?_
          refine own_step (U' := (T25.setTop (mkF m 200 #[.val (.long p1), .second, .val (.int p2), .val (.int p3), .val (.int bo), .val (.ref b9), .val (.ref b11), .val (.int (own_r cf_13 bo)), .val (.long (bo.toInt64)), .second, .val (.long ((4294967296 : Int64) / (bo.toInt64))), .second, .val (.long (XT.ushrL (own_mix (((p1 + (-7046029254386353131 : Int64)) + (-7046029254386353131 : Int64)) + (-7046029254386353131 : Int64))) (32 : Int32))), .second, .val (.int (1 : Int32)), .val (.int (1 : Int32)), .val (.int (1 : Int32))] [(.int (1 : Int32))]))) (fun t ht => XS.iconst X25.here hx rfl (hb hby at_199) ht) ?_
          refine own_step (U' := (T25.setTop (mkF m 204 #[.val (.long p1), .second, .val (.int p2), .val (.int p3), .val (.int bo), .val (.ref b9), .val (.ref b11), .val (.int (own_r cf_13 bo)), .val (.long (bo.toInt64)), .second, .val (.long ((4294967296 : Int64) / (bo.toInt64))), .second, .val (.long (XT.ushrL (own_mix (((p1 + (-7046029254386353131 : Int64)) + (-7046029254386353131 : Int64)) + (-7046029254386353131 : Int64))) (32 : Int32))), .second, .val (.int (1 : Int32)), .val (.int (1 : Int32)), .val (.int (1 : Int32))] [(.int (1 : Int32))]))) (fun t ht => XS.goto X25.here hx rfl (pc0 := 200) (pc' := 204) rfl (hb hby at_200) (by decide) (by decide) ht) ?_
          refine own_ret X25 (v := (some (.int (nar .boolean (1 : Int32))))) (fun h => by rw [Bd.returns] at h; cases h) Bd.notSynchronized (by decide) (by decide) ?_ (fun fs hr => retN X25 hx (t := .boolean) Bd.returns (by simp) (hb hby at_204) hr)
          show own_Q_law Z p1 p2 p3 h0 n0 _ T25.heap _
          show own_Q_law Z p1 p2 p3 h0 n0 _ T25.heap _
          exact ⟨rfl, N25⟩
        ·
          refine own_step (U' := (T22.setTop (mkF m 124 #[.val (.long p1), .second, .val (.int p2), .val (.int p3), .val (.int bo), .val (.ref b9), .val (.ref b11), .val (.int (own_r cf_13 bo)), .val (.long (bo.toInt64)), .second, .val (.long ((4294967296 : Int64) / (bo.toInt64))), .second, .val (.long (XT.ushrL (own_mix (((p1 + (-7046029254386353131 : Int64)) + (-7046029254386353131 : Int64)) + (-7046029254386353131 : Int64))) (32 : Int32))), .second, .unset, .unset, .unset] []))) (fun t ht => XS.ifNo X22.here hx rfl (hb hby at_121) rfl (XT.ll_lt_f hc121_23) ht) ?_
          refine own_step (U' := (T22.setTop (mkF m 125 #[.val (.long p1), .second, .val (.int p2), .val (.int p3), .val (.int bo), .val (.ref b9), .val (.ref b11), .val (.int (own_r cf_13 bo)), .val (.long (bo.toInt64)), .second, .val (.long ((4294967296 : Int64) / (bo.toInt64))), .second, .val (.long (XT.ushrL (own_mix (((p1 + (-7046029254386353131 : Int64)) + (-7046029254386353131 : Int64)) + (-7046029254386353131 : Int64))) (32 : Int32))), .second, .unset, .unset, .unset] [(.int (1 : Int32))]))) (fun t ht => XS.iconst X22.here hx rfl (hb hby at_124) ht) ?_
          refine own_ret X22 (v := (some (.int (nar .boolean (1 : Int32))))) (fun h => by rw [Bd.returns] at h; cases h) Bd.notSynchronized (by decide) (by decide) ?_ (fun fs hr => retN X22 hx (t := .boolean) Bd.returns (by simp) (hb hby at_125) hr)
          show own_Q_law Z p1 p2 p3 h0 n0 _ T22.heap _
          show own_Q_law Z p1 p2 p3 h0 n0 _ T22.heap _
          exact ⟨rfl, N22⟩
  refine own_step (U' := (s₁.setTop (mkF m 1 #[.val (.long p1), .second, .val (.int p2), .val (.int p3), .unset, .unset, .unset, .unset, .unset, .unset, .unset, .unset, .unset, .unset, .unset, .unset, .unset] [(.int p2)]))) (fun t ht => XS.iloadN X0.here hx rfl (hb hby at_0) rfl ht) ?_
  refine own_step (U' := (s₁.setTop (mkF m 3 #[.val (.long p1), .second, .val (.int p2), .val (.int p3), .unset, .unset, .unset, .unset, .unset, .unset, .unset, .unset, .unset, .unset, .unset, .unset, .unset] [(.int (2147483647 : Int32)), (.int p2)]))) (fun t ht => X0.ldcInt hx hown (mvT hZ (hw _ (List.mem_of_getElem? (i := 0) rfl))) (g := (mkF m 1 #[.val (.long p1), .second, .val (.int p2), .val (.int p3), .unset, .unset, .unset, .unset, .unset, .unset, .unset, .unset, .unset, .unset, .unset, .unset, .unset] [(.int p2)])) rfl (hb hby at_1) _ ht) ?_
  refine own_step (U' := (s₁.setTop (mkF m 4 #[.val (.long p1), .second, .val (.int p2), .val (.int p3), .unset, .unset, .unset, .unset, .unset, .unset, .unset, .unset, .unset, .unset, .unset, .unset, .unset] [(.int (p2 &&& (2147483647 : Int32)))]))) (fun t ht => XS.iand X0.here hx rfl (hb hby at_3) rfl ht) ?_
  refine own_step (U' := (s₁.setTop (mkF m 5 #[.val (.long p1), .second, .val (.int p2), .val (.int p3), .unset, .unset, .unset, .unset, .unset, .unset, .unset, .unset, .unset, .unset, .unset, .unset, .unset] [(.int p3), (.int (p2 &&& (2147483647 : Int32)))]))) (fun t ht => XS.iloadN X0.here hx rfl (hb hby at_4) rfl ht) ?_
  refine own_step (U' := (s₁.setTop (mkF m 7 #[.val (.long p1), .second, .val (.int p2), .val (.int p3), .unset, .unset, .unset, .unset, .unset, .unset, .unset, .unset, .unset, .unset, .unset, .unset, .unset] [(.int (31 : Int32)), (.int p3), (.int (p2 &&& (2147483647 : Int32)))]))) (fun t ht => XS.bipush X0.here hx rfl (hb hby at_5) ht) ?_
  refine own_step (U' := (s₁.setTop (mkF m 8 #[.val (.long p1), .second, .val (.int p2), .val (.int p3), .unset, .unset, .unset, .unset, .unset, .unset, .unset, .unset, .unset, .unset, .unset, .unset, .unset] [(.int (p3 &&& (31 : Int32))), (.int (p2 &&& (2147483647 : Int32)))]))) (fun t ht => XS.iand X0.here hx rfl (hb hby at_7) rfl ht) ?_
  refine own_step (U' := (s₁.setTop (mkF m 9 #[.val (.long p1), .second, .val (.int p2), .val (.int p3), .unset, .unset, .unset, .unset, .unset, .unset, .unset, .unset, .unset, .unset, .unset, .unset, .unset] [(.int (XT.ushr (p2 &&& (2147483647 : Int32)) (p3 &&& (31 : Int32))))]))) (fun t ht => XT.iushr X0.here hx rfl (hb hby at_8) rfl ht) ?_
  refine own_step (U' := (s₁.setTop (mkF m 11 #[.val (.long p1), .second, .val (.int p2), .val (.int p3), .val (.int (XT.ushr (p2 &&& (2147483647 : Int32)) (p3 &&& (31 : Int32)))), .unset, .unset, .unset, .unset, .unset, .unset, .unset, .unset, .unset, .unset, .unset, .unset] []))) (fun t ht => XS.istore X0.here hx rfl (hb hby at_9) rfl (l' := #[.val (.long p1), .second, .val (.int p2), .val (.int p3), .val (.int (XT.ushr (p2 &&& (2147483647 : Int32)) (p3 &&& (31 : Int32)))), .unset, .unset, .unset, .unset, .unset, .unset, .unset, .unset, .unset, .unset, .unset, .unset]) rfl ht) ?_
  generalize h_bd : (XT.ushr (p2 &&& (2147483647 : Int32)) (p3 &&& (31 : Int32))) = bd
  refine own_step (U' := (s₁.setTop (mkF m 13 #[.val (.long p1), .second, .val (.int p2), .val (.int p3), .val (.int bd), .unset, .unset, .unset, .unset, .unset, .unset, .unset, .unset, .unset, .unset, .unset, .unset] [(.int bd)]))) (fun t ht => XS.iload X0.here hx rfl (hb hby at_11) rfl ht) ?_
  by_cases hc13_26 : bd = 0
  ·
    refine own_step (U' := (s₁.setTop (mkF m 16 #[.val (.long p1), .second, .val (.int p2), .val (.int p3), .val (.int bd), .unset, .unset, .unset, .unset, .unset, .unset, .unset, .unset, .unset, .unset, .unset, .unset] []))) (fun t ht => XS.ifNo X0.here hx rfl (hb hby at_13) rfl (XT.i0_ne_f hc13_26) ht) ?_
    refine own_step (U' := (s₁.setTop (mkF m 17 #[.val (.long p1), .second, .val (.int p2), .val (.int p3), .val (.int bd), .unset, .unset, .unset, .unset, .unset, .unset, .unset, .unset, .unset, .unset, .unset, .unset] [(.int (1 : Int32))]))) (fun t ht => XS.iconst X0.here hx rfl (hb hby at_16) ht) ?_
    refine own_step (U' := (s₁.setTop (mkF m 19 #[.val (.long p1), .second, .val (.int p2), .val (.int p3), .val (.int (1 : Int32)), .unset, .unset, .unset, .unset, .unset, .unset, .unset, .unset, .unset, .unset, .unset, .unset] []))) (fun t ht => XS.istore X0.here hx rfl (hb hby at_17) rfl (l' := #[.val (.long p1), .second, .val (.int p2), .val (.int p3), .val (.int (1 : Int32)), .unset, .unset, .unset, .unset, .unset, .unset, .unset, .unset, .unset, .unset, .unset, .unset]) rfl ht) ?_
    exact tail19 ((1 : Int32)) (by decide)
  ·
    refine own_step (U' := (s₁.setTop (mkF m 19 #[.val (.long p1), .second, .val (.int p2), .val (.int p3), .val (.int bd), .unset, .unset, .unset, .unset, .unset, .unset, .unset, .unset, .unset, .unset, .unset, .unset] []))) (fun t ht => XS.ifYes X0.here hx rfl (pc0 := 13) (pc' := 19) rfl (hb hby at_13) rfl (XT.i0_ne_t hc13_26) (by decide) (by decide) ht) ?_
    exact tail19 (bd) (own_bd h_bd hc13_26)
set_option maxRecDepth 65536 in
set_option maxHeartbeats 40000000 in
theorem own_comes {Post : Tables → Env → Array Value → State → Outcome → State → Prop} (hpost : ∀ tb e args s v u, (limb_1_1.after args s (.returned v) u = true ∧ limb_1_2.after args s (.returned v) u = true ∧ True) → FrameEnd s (.returned v) u (Jvm.fieldLocs frame_1_writes args s ++ Jvm.arrayLocs frame_1_arrays args s ++ Jvm.staticLocs frame_1_statics s) 16 128 → Post tb e args s (.returned v) u) :
    ArmFor flags0 classFile x code maxLocals ret World_1 tables_1 room_1 Calls_1 rest_1 Pre_1 Post := by
  intro l hfl _ _ p e ha hc hk s m args below hf hA hF happ hP
  obtain ⟨hcalls, hrest, hpre⟩ := hP
  obtain ⟨-, -, -, hnamed, -, -, -, hat⟩ := (Spec.applies_iff hf).mp happ
  obtain ⟨hg, hn⟩ := and_e (Cond.before_iff.mp (show (Jvm.Cond.and given_1 narrow_1).before args s = true from hpre))
  obtain ⟨hcount, q0⟩ := and_e hg
  obtain ⟨a0, q1⟩ := and_e q0
  obtain ⟨a1, q2⟩ := and_e q1
  have a2 := q2
  obtain ⟨w0, w1, w2, rfl⟩ : ∃ w0 w1 w2 : Value, args = #[w0, w1, w2] := by
    have hs : args.size = 3 := by simpa [Cond.value, given_1] using hcount
    obtain ⟨L⟩ := args
    match L, hs with
    | [w0, w1, w2], _ => exact ⟨w0, w1, w2, rfl⟩
  obtain ⟨i0, e0⟩ := isL_v a0
  obtain rfl : w0 = (.long i0) := Option.some.inj e0
  obtain ⟨i1, e1⟩ := is_v a1
  obtain rfl : w1 = (.int i1) := Option.some.inj e1
  obtain ⟨i2, e2⟩ := is_v a2
  obtain rfl : w2 = (.int i2) := Option.some.inj e2
  have hw := fun d (hd : d ∈ tables_1) => atoms_spec (ws := Jvm.Cond.code x code maxLocals ret :: tables_1) hat d (List.mem_cons_of_mem _ hd)
  have hfit : Fit s := fun {y c} hc i hi => by
    obtain ⟨ha, rfl⟩ := Array.getElem?_eq_some_iff.mp hc
    have q := List.all_eq_true.mp ((Array.all_eq_true_iff_forall_mem.mp hF) _ (Array.getElem_mem ha)) i (List.mem_range.mpr hi)
    simpa [Array.getElem?_eq_getElem hi] using q

  obtain ⟨n, o, h1, h2, h3, _, L, rfl, ⟨rfl, N⟩, hq⟩ := own_m_law l s _ hw tables_1 i0 i1 i2  s.heap s.heap.size (Nat.le_refl _)  p e ha hc hk s m _ below hf ((Spec.applies_iff_loose hf).mp happ).1 ⟨rfl, State.Warmed39.refl s, rfl⟩ trivial
  refine ⟨n, _, h1, h2, h3, hpost _ _ _ _ _ _ ⟨Cond.after_iff.mpr rfl, Cond.after_iff.mpr (eq_i res_at (Term.int_eval (1)) rfl), trivial⟩ ⟨hq.1, hq.2.1, (hq.2.2.sift fun y hy => Or.inr (N y hy)).mono (by decide) (by decide)⟩⟩
theorem main_1_1 : Claimed_1_1 := own_comes fun _ _ _ _ _ _ h hF => ⟨h.1, hF⟩
theorem main_1_2 : Claimed_1_2 := own_comes fun _ _ _ _ _ _ h hF => ⟨h.2.1, hF⟩
end Jvm.Pilot.@@N@@
namespace Jvm.Pilot.@@N@@
open Jvm Jvm.ClassFile Sem Op Lib Jvm.Free Jvm.Stand Jvm.Pilot.@@N@@.Jvm.D
/-! MADE BY PROGRAM (witnessworld.py) out of the Statement's table words and the real class files: 9 classes; the members and pool entries that the words name. The judged class is class 1, her method 1. -/
namespace start1
open Jvm.ClassFile
def u (s : String) : CpInfo := .utf8 (stringToUtf16 s)
/-- a pool by its gaps: so many unusable entries, then the entry; so many at the end -/
def gap : Nat → List CpInfo → List CpInfo
  | 0, r => r
  | n + 1, r => .unusable :: gap n r
def poolList (es : List (Nat × CpInfo)) (last : Nat) : List CpInfo := es.foldr (fun e r => gap e.1 (e.2 :: r)) (gap last [])
def pool (es : List (Nat × CpInfo)) (last : Nat) : Array CpInfo := ⟨poolList es last⟩
def fileOf (pool : Array CpInfo) (this : Nat) (attrs : Array Attribute := #[]) (ms : Array MethodInfo := #[]) (fl : Nat := 33) (sup : Nat := 0) (ifs : Array Nat := #[]) (fds : Array FieldInfo := #[]) : ClassFile where
  minorVersion := 0
  majorVersion := 65
  constantPool := pool
  accessFlags := fl
  thisClass := this
  superClass := sup
  interfaces := ifs
  fields := fds
  methods := ms
  attributes := attrs
def plain (name : String) (sup : Option ClassId) : Class where
  name := name
  kind := .ordinary
  loader := none
  accessFlags := 33
  super := sup
  interfaces := #[]
  cf := none
  fields := #[]
  methods := #[]
  instanceTypes := #[]
  staticTypes := #[]
  resolved := #[]
  callSites := []
  init := .initialized
  statics := none
  mirror := none

def pool0 : Array CpInfo := pool [(5, u "<init>"), (0, u "()V"), (1, .class_ 10), (1, u "java/lang/Object")] 113

def k0c0 : Code := { maxStack := 0, maxLocals := 1, code := object_method_1_code, exceptionTable := #[], attributes := #[] }
def k0m0 : Method := { name := "<init>", desc := "()V", sig := { parameters := [], returnType := none }, accessFlags := 1, code := some k0c0 }
/-- java/lang/Object -/
def k0 : Class := { plain "java/lang/Object" none with
  accessFlags := 33
  interfaces := #[]
  cf := some (fileOf pool0 8 #[] #[{ accessFlags := 1, nameIndex := 5, descriptorIndex := 6, attributes := #[] }] 33 0 #[] #[])
  fields := #[]
  methods := #[k0m0]
  instanceTypes := #[]
  staticTypes := #[]
  resolved := Array.replicate 124 none
  statics := none }

def pool1 : Array CpInfo := pool [(2, .class_ 4), (1, u "java/lang/Object"), (0, u "<init>"), (0, u "()V"), (0, .integer 2147483647), (0, .class_ 9), (0, u "com/example/eigentuple/eigentuple/io/SplitMix"), (0, .methodref 8 11), (0, .nameAndType 5 12), (0, u "(J)V"), (0, .methodref 8 14), (0, .nameAndType 15 16), (0, u "nextInt"), (0, u "(I)I"), (0, .long 4294967296), (1, .methodref 8 20), (0, .nameAndType 21 22), (0, u "nextLong"), (0, u "()J"), (0, .class_ 24), (0, u "com/example/eigentuple/eigentuple/io/SplitMixNextIntPinLaw"), (2, u "law"), (0, u "(JII)Z")] 3

def k1m0 : Method := { name := "<init>", desc := "()V", sig := { parameters := [], returnType := none }, accessFlags := 1, code := none }
def k1c1 : Code := { maxStack := 5, maxLocals := 17, code := code, exceptionTable := #[], attributes := #[] }
def k1m1 : Method := { name := "law", desc := "(JII)Z", sig := { parameters := [.long, .int, .int], returnType := some .boolean }, accessFlags := 9, code := some k1c1 }
/-- com/example/eigentuple/eigentuple/io/SplitMixNextIntPinLaw -/
def k1 : Class := { plain "com/example/eigentuple/eigentuple/io/SplitMixNextIntPinLaw" (some 0) with
  accessFlags := 49
  interfaces := #[]
  cf := some (fileOf pool1 23 #[] #[{ accessFlags := 1, nameIndex := 5, descriptorIndex := 6, attributes := #[] }, { accessFlags := 9, nameIndex := 27, descriptorIndex := 28, attributes := #[] }] 49 2 #[] #[])
  fields := #[]
  methods := #[k1m0, k1m1]
  instanceTypes := #[]
  staticTypes := #[]
  resolved := Array.replicate 32 none
  statics := none }

def pool2 : Array CpInfo := pool [(1, .methodref 2 3), (0, .class_ 4), (0, .nameAndType 5 6), (0, u "java/lang/Object"), (0, u "<init>"), (0, u "()V"), (0, .fieldref 8 9), (0, .class_ 10), (0, .nameAndType 11 12), (0, u "com/example/eigentuple/eigentuple/io/SplitMix"), (0, u "state"), (0, u "J"), (0, .long 11400714819323198485), (1, .long 13787848793156543929), (1, .long 10723151780598845931), (1, .methodref 8 20), (0, .nameAndType 21 22), (0, u "nextLong"), (0, u "()J"), (2, .long 4294967296), (1, u "GAMMA"), (1, u "RANGE_32"), (0, u "(J)V"), (4, u "nextInt"), (0, u "(I)I")] 3

def k2c0 : Code := { maxStack := 3, maxLocals := 3, code := prog_4_method_1_code, exceptionTable := #[], attributes := #[] }
def k2m0 : Method := { name := "<init>", desc := "(J)V", sig := { parameters := [.long], returnType := none }, accessFlags := 0, code := some k2c0 }
def k2c1 : Code := { maxStack := 5, maxLocals := 3, code := prog_4_method_2_code, exceptionTable := #[], attributes := #[] }
def k2m1 : Method := { name := "nextLong", desc := "()J", sig := { parameters := [], returnType := some .long }, accessFlags := 0, code := some k2c1 }
def k2c2 : Code := { maxStack := 6, maxLocals := 6, code := prog_4_method_4_code, exceptionTable := #[], attributes := #[] }
def k2m2 : Method := { name := "nextInt", desc := "(I)I", sig := { parameters := [.int], returnType := some .int }, accessFlags := 0, code := some k2c2 }
/-- com/example/eigentuple/eigentuple/io/SplitMix -/
def k2 : Class := { plain "com/example/eigentuple/eigentuple/io/SplitMix" (some 0) with
  accessFlags := 32
  interfaces := #[]
  cf := some (fileOf pool2 8 #[] #[{ accessFlags := 0, nameIndex := 5, descriptorIndex := 30, attributes := #[] }, { accessFlags := 0, nameIndex := 21, descriptorIndex := 22, attributes := #[] }, { accessFlags := 0, nameIndex := 35, descriptorIndex := 36, attributes := #[] }] 32 2 #[] #[{ accessFlags := 26, nameIndex := 27, descriptorIndex := 12, attributes := #[] }, { accessFlags := 26, nameIndex := 29, descriptorIndex := 12, attributes := #[] }, { accessFlags := 2, nameIndex := 11, descriptorIndex := 12, attributes := #[] }])
  fields := #[{ name := "GAMMA", type := .long, accessFlags := 26, slot := 0, constantValue := 0 }, { name := "RANGE_32", type := .long, accessFlags := 26, slot := 1, constantValue := 0 }, { name := "state", type := .long, accessFlags := 2, slot := 0, constantValue := 0 }]
  methods := #[k2m0, k2m1, k2m2]
  instanceTypes := #[.long]
  staticTypes := #[.long, .long]
  resolved := Array.replicate 40 none
  statics := none }

def pool3 : Array CpInfo := pool [(1, u "java/lang/Cloneable"), (0, .class_ 1), (0, u "java/lang/Object"), (0, .class_ 3)] 3

/-- java/lang/Cloneable -/
def k3 : Class := { plain "java/lang/Cloneable" (some 0) with
  accessFlags := 1537
  interfaces := #[]
  cf := some (fileOf pool3 2 #[] #[] 1537 4 #[] #[])
  fields := #[]
  methods := #[]
  instanceTypes := #[]
  staticTypes := #[]
  resolved := Array.replicate 8 none
  statics := none }

def pool4 : Array CpInfo := pool [(1, u "java/io/Serializable"), (0, .class_ 1), (0, u "java/lang/Object"), (0, .class_ 3)] 3

/-- java/io/Serializable -/
def k4 : Class := { plain "java/io/Serializable" (some 0) with
  accessFlags := 1537
  interfaces := #[]
  cf := some (fileOf pool4 2 #[] #[] 1537 4 #[] #[])
  fields := #[]
  methods := #[]
  instanceTypes := #[]
  staticTypes := #[]
  resolved := Array.replicate 8 none
  statics := none }

/-- the primitive byte -/
def k5 : Class := { plain "byte" none with kind := .primitive 'B', accessFlags := 0x411 }
/-- [B -/
def k6 : Class := { plain "[B" (some 0) with kind := .array 5 .byte, interfaces := #[3, 4], accessFlags := 1041 }

/-- the primitive int -/
def k7 : Class := { plain "int" none with kind := .primitive 'I', accessFlags := 0x411 }
/-- [I -/
def k8 : Class := { plain "[I" (some 0) with kind := .array 7 .int, interfaces := #[3, 4], accessFlags := 1041 }

def heap : Heap := #[]
def classes : Array Class := #[k0, k1, k2, k3, k4, k5, k6, k7, k8]
def interned : List (Array UInt16 × Addr) := []
def slotsUsed : Nat := 0
def theMethod : MethodId := ⟨1, 1⟩
def args0 : Array Value := #[.long 5, .int 7, .int 3]
def aboutOver (below : List Frame) : State where
  vm := { classes := classes, interned := interned.toArray }
  heap := heap
  slotsUsed := slotsUsed
  threads := #[{ frames := .invoking theMethod args0 :: below }]
def below0 : List Frame := [.native { method := ⟨0, 0⟩, args := #[] }]
def about1 : State := aboutOver below0
def p0 : Program := .bare "" "" ""
def e0 : Env := launch0.env 0 0 0
theorem w_frames : about1.frames = Frame.invoking theMethod args0 :: below0 := rfl
set_option maxRecDepth 65536 in
theorem w_args : argsFit about1.vm theMethod args0 = true := by decide +kernel
set_option maxRecDepth 65536 in
theorem w_heap : heapFits about1 = true := by decide +kernel
set_option maxRecDepth 65536 in
theorem w_runnable : about1.curStatus? = some .runnable := by decide +kernel
set_option maxRecDepth 65536 in
theorem w_alone : about1.alone = true := by decide +kernel
set_option maxRecDepth 65536 in
theorem w_named : about1.methodNamed? x = some theMethod := by decide +kernel
set_option maxRecDepth 65536 in
theorem w_hears : about1.hears theMethod below0 = true := by decide +kernel
set_option maxRecDepth 65536 in
theorem w_ripe : about1.ripe theMethod args0 below0 = true := by decide +kernel
theorem w_running : about1.status = .running := rfl
set_option maxRecDepth 65536 in
theorem w_room : about1.hasRoom e0.platform room_1 = true :=
  launch0.hasRoom_least _ room_1 (by decide +kernel) (by decide +kernel) (by decide +kernel) (by decide +kernel) (by decide +kernel) (by decide +kernel)
theorem allAtoms_all (ts : List Jvm.Cond) (a : Array Jvm.Value) (st : Jvm.State) : (allAtoms ts).before a st = ts.all (fun c => c.before a st) := by
  induction ts with
  | nil => rfl
  | cons c t ih =>
    show (Jvm.Cond.and c (allAtoms t)).before a st = _
    rw [Jvm.Cond.before_and, ih, List.all_cons]
def words1 : List Jvm.Cond := Jvm.Cond.code x code maxLocals ret :: tables_1
/-- a 'code' word, met by the world's own term for the bytes: nothing is compared byte by byte -/
theorem code_word {y : MethodName} {bytes : ByteArray} {mx : Nat} {rt : Option FieldType} {a : Array Value} {s : State} {m : MethodId} {meth : Method} {c : Code} (h1 : s.methodNamed? y = some m) (h2 : s.vm.method? m = some meth) (h3 : meth.code = some c) (h4 : c.code = bytes)
    (h5 : (c.maxLocals == mx && c.exceptionTable.isEmpty && decide (c.maxStack ≤ mostOperands) && decide (meth.sig.returnType = rt) && !meth.locks && decide (parseMethodDescriptor y.desc = some meth.sig)) = true) : (Jvm.Cond.code y bytes mx rt).before a s = true := by
  simp only [Bool.and_eq_true, beq_iff_eq, Bool.not_eq_true', decide_eq_true_eq] at h5
  obtain ⟨⟨⟨⟨⟨g1, g2⟩, g3⟩, g4⟩, g5⟩, g6⟩ := h5
  simp [Cond.before, Cond.holds, Cond.value, h1, h2, h3, h4, g1, g2, g3, g4, g5, g6]
def isCode : Jvm.Cond → Bool
  | .code _ _ _ _ => true
  | _ => false
theorem all_split {L : List Jvm.Cond} {P : Jvm.Cond → Bool} (h1 : L.all (fun c => isCode c || P c) = true) (h2 : ∀ c ∈ L.filter isCode, P c = true) : L.all P = true := by
  refine List.all_eq_true.mpr fun c hc => ?_
  have h := List.all_eq_true.mp h1 c hc
  rcases Bool.eq_false_or_eq_true (isCode c) with hi | hi
  · exact h2 c (List.mem_filter.mpr ⟨hc, hi⟩)
  · simpa [hi] using h
set_option maxRecDepth 65536 in
theorem w_c0 : (Jvm.Cond.code x code maxLocals ret).before args0 about1 = true := code_word (m := ⟨1, 1⟩) (meth := k1m1) (c := k1c1) (by decide +kernel) rfl rfl rfl (by decide +kernel)
set_option maxRecDepth 65536 in
theorem w_c1 : (Jvm.Cond.code ({ cls := "com/example/eigentuple/eigentuple/io/SplitMix", name := "<init>", desc := "(J)V" } : Jvm.MethodName) prog_4_method_1_code (3 : Nat) (Option.none : Option Jvm.ClassFile.FieldType)).before args0 about1 = true := code_word (m := ⟨2, 0⟩) (meth := k2m0) (c := k2c0) (by decide +kernel) rfl rfl rfl (by decide +kernel)
set_option maxRecDepth 65536 in
theorem w_c2 : (Jvm.Cond.code ({ cls := "java/lang/Object", name := "<init>", desc := "()V" } : Jvm.MethodName) object_method_1_code (1 : Nat) (Option.none : Option Jvm.ClassFile.FieldType)).before args0 about1 = true := code_word (m := ⟨0, 0⟩) (meth := k0m0) (c := k0c0) (by decide +kernel) rfl rfl rfl (by decide +kernel)
set_option maxRecDepth 65536 in
theorem w_c3 : (Jvm.Cond.code ({ cls := "com/example/eigentuple/eigentuple/io/SplitMix", name := "nextInt", desc := "(I)I" } : Jvm.MethodName) prog_4_method_4_code (6 : Nat) (Option.some Jvm.ClassFile.FieldType.int)).before args0 about1 = true := code_word (m := ⟨2, 2⟩) (meth := k2m2) (c := k2c2) (by decide +kernel) rfl rfl rfl (by decide +kernel)
set_option maxRecDepth 65536 in
theorem w_c4 : (Jvm.Cond.code ({ cls := "com/example/eigentuple/eigentuple/io/SplitMix", name := "nextLong", desc := "()J" } : Jvm.MethodName) prog_4_method_2_code (3 : Nat) (Option.some Jvm.ClassFile.FieldType.long)).before args0 about1 = true := code_word (m := ⟨2, 1⟩) (meth := k2m1) (c := k2c1) (by decide +kernel) rfl rfl rfl (by decide +kernel)
def codes1 : List Jvm.Cond := [Jvm.Cond.code x code maxLocals ret, Jvm.Cond.code ({ cls := "com/example/eigentuple/eigentuple/io/SplitMix", name := "<init>", desc := "(J)V" } : Jvm.MethodName) prog_4_method_1_code (3 : Nat) (Option.none : Option Jvm.ClassFile.FieldType), Jvm.Cond.code ({ cls := "java/lang/Object", name := "<init>", desc := "()V" } : Jvm.MethodName) object_method_1_code (1 : Nat) (Option.none : Option Jvm.ClassFile.FieldType), Jvm.Cond.code ({ cls := "com/example/eigentuple/eigentuple/io/SplitMix", name := "nextInt", desc := "(I)I" } : Jvm.MethodName) prog_4_method_4_code (6 : Nat) (Option.some Jvm.ClassFile.FieldType.int), Jvm.Cond.code ({ cls := "com/example/eigentuple/eigentuple/io/SplitMix", name := "nextLong", desc := "()J" } : Jvm.MethodName) prog_4_method_2_code (3 : Nat) (Option.some Jvm.ClassFile.FieldType.long)]
set_option maxRecDepth 65536 in
theorem codes_eq : words1.filter isCode = codes1 := rfl
theorem w_codes : ∀ c ∈ words1.filter isCode, c.before args0 about1 = true := by
  rw [codes_eq]
  intro c hc
  simp only [codes1, List.mem_cons, List.not_mem_nil, or_false] at hc
  rcases hc with rfl | rfl | rfl | rfl | rfl
  · exact w_c0
  · exact w_c1
  · exact w_c2
  · exact w_c3
  · exact w_c4
set_option maxRecDepth 65536 in
theorem w_t1 : (words1.take 24).all (fun c => isCode c || c.before args0 about1) = true := by decide +kernel
set_option maxRecDepth 65536 in
theorem w_t2 : (words1.drop 24).all (fun c => isCode c || c.before args0 about1) = true := by decide +kernel
theorem w_tables : (allAtoms (Jvm.Cond.code x code maxLocals ret :: tables_1)).before args0 about1 = true := by
  rw [allAtoms_all]
  show words1.all (fun c => c.before args0 about1) = true
  refine all_split ?_ w_codes
  rw [← List.take_append_drop 24 words1, List.all_append, w_t1, w_t2]
  rfl
set_option maxRecDepth 65536 in
theorem w_case : (Jvm.Cond.and given_1 narrow_1).before args0 about1 = true := by decide +kernel
theorem w_applies : (headSpec (Jvm.Cond.code x code maxLocals ret :: tables_1) room_1).applies x e0.platform about1 = true :=
  (Spec.applies_iff w_frames).mpr ⟨w_running, w_runnable, w_alone, w_named, w_hears, w_ripe, w_room, w_tables⟩
theorem atStart : AtStart classFile x code maxLocals ret World_1 tables_1 room_1 Calls_1 rest_1 Pre_1 launch0 p0 e0 about1 theMethod args0 below0 :=
  ⟨lists_1, trivial, launch0.admits_env _ _ _, launch0.least_env, fairChoices_fair.cas, fairChoices_fair.clock, w_frames, w_args, w_heap, w_applies, trivial, trivial, w_case⟩
end start1
theorem witness_1 : WitnessClaimed_1 := ⟨start1.p0, start1.e0, start1.about1, start1.theMethod, start1.args0, start1.below0, start1.atStart⟩
end Jvm.Pilot.@@N@@
