import JvmDerived
import JvmDerived.Pilot.@@N@@Statement
import JvmDerived.Pilot.@@N@@Code
set_option linter.unusedVariables false
set_option linter.unusedSimpArgs false
namespace Jvm.RoadKit
open Sem ClassFile Op Lib Jvm.Stand Jvm.Free Jvm.LawKit
section New
variable {p : Program} {l : Launch} {e : Env} {R : Room} {s : State} {m : MethodId} {args : Array Value} {below : List Frame} {meth : Method} {c : Code} {T : State} {locs : List Loc} {cells slots : Nat}
theorem retI (X : Stand p l e R s m args below meth c T locs cells slots) (hx : p.tables.exec = Jvm.exec) {pc : Nat} {Ls : Array Slot} {z : Int32} {rest : List Value} (hret : meth.sig.returnType = some .int) (hd : decode c.code pc = .ok (.ireturn, 1)) {fs : List Frame}
    (hl : ∀ (f : JFrame) (acts : List Action), f.method = m → f.locked = none → f.entered = [] → (doReturn e (T.setTop f) acts (some (.int z))).1 = T.setFrames fs) : Steps p.tables e below (T.setTop (mkF m pc Ls (.int z :: rest))) (T.setFrames fs) := by
  have hm' : T.vm.method? m = some meth := X.method'
  have hn : narrow .int (.int z) = .int z := rfl
  show Steps p.tables e below (T.setTop { method := m, pc := pc, locals := Ls, stack := _ :: rest, locked := none }) _
  jvm_step X.here [X.here.top, hx, hd, hm', hret, hn]
  first | (intro acts; rw [hl _ acts rfl rfl rfl]) | rw [hl _ _ rfl rfl rfl]
  exact Steps.refl _
end New
end Jvm.RoadKit
namespace Jvm.Pilot.@@N@@
open Jvm Jvm.ClassFile Sem Op Lib Jvm.Free Jvm.Stand Jvm.LawKit Jvm.RoadKit Bundle Jvm.Pilot.@@N@@.Jvm.D
section Own
variable {p : Program} {l : Launch} {e : Env} {R : Room} {s : State} {m : MethodId} {args : Array Value} {below : List Frame} {meth : Method} {c : Code} {T : State} {locs : List Loc} {cells slots : Nat}
/-- from U the run comes to an end that Q allows -/
def own_Go (p : Program) (e : Env) (below : List Frame) (s : State) (kc ks : Nat) (Q : Option Value → Heap → List Loc → Prop) (U : State) : Prop :=
  ∃ s₂ o, Steps p.tables e below U s₂ ∧ s₂.status = .running ∧ Ended s₂ below o ∧ ∃ v L, o = .returned v ∧ Q v s₂.heap L ∧ FrameEnd s o s₂ L kc ks
theorem own_step {kc ks : Nat} {Q : Option Value → Heap → List Loc → Prop} {U U' : State} (k : ∀ t, Steps p.tables e below U' t → Steps p.tables e below U t) (g : own_Go p e below s kc ks Q U') : own_Go p e below s kc ks Q U := by
  obtain ⟨s₂, o, h, r⟩ := g
  exact ⟨s₂, o, k _ h, r⟩
theorem own_ret {kc ks : Nat} {Q : Option Value → Heap → List Loc → Prop} {U : State} (X : Stand p l e R s m args below meth c T locs cells slots) {v : Option Value} (hv : meth.sig.returnType = none → v = none) (hlocks : meth.locks = false) (hk : cells ≤ kc) (hs : slots ≤ ks) (hq : Q v T.heap locs)
    (k : ∀ fs, (∀ (f : JFrame) (acts : List Action), f.method = m → f.locked = none → f.entered = [] → (doReturn e (T.setTop f) acts v).1 = T.setFrames fs) → Steps p.tables e below U (T.setFrames fs)) : own_Go p e below s kc ks Q U := by
  obtain ⟨fs, hr, hrun, hended, hW, hsame⟩ := X.leave (v := v) hv hlocks
  exact ⟨_, _, k fs hr, hrun, hended, v, locs, rfl, hq, ⟨_, rfl⟩, hW, hsame.mono hk hs⟩
theorem own_narR {t : FieldType} {v : Value} (h : v.isRef = true) : narrow t v = v := by cases v <;> first | (cases h; done) | (cases t <;> rfl)
theorem own_fitR {t : String} {v : Value} (h : v.isRef = true) : fits (.object t) v = true := by cases v <;> first | (cases h; done) | rfl
theorem own_at {h : Heap} {a : Addr} {k : Cell} (e : T.heap = h) (q : h[a]? = some k) : T.heap[a]? = some k := e ▸ q
theorem own_pl0 {h : Heap} : ∀ a ∈ ([] : List Addr), ∀ c : Cell, h[a]? = some c → c.vm.isStatics = false := fun _ q => nomatch q
theorem own_plE {Z : State} {h : Heap} {a : Addr} {C : String} {ws : List Addr} (E : Exa Z h a C) (r : ∀ x ∈ ws, ∀ c : Cell, h[x]? = some c → c.vm.isStatics = false) : ∀ x ∈ a :: ws, ∀ c : Cell, h[x]? = some c → c.vm.isStatics = false := fun x hx c hc => by
  rcases List.mem_cons.mp hx with rfl | q
  · obtain ⟨cell, k, h1, -, -, h4, -⟩ := E
    cases h1.symm.trans hc; exact h4
  · exact r x q c hc
theorem own_plF {Z : State} {h : Heap} {a : Addr} {C n d : String} {v : Value} {ws : List Addr} (E : Fld Z h a C n d v) (r : ∀ x ∈ ws, ∀ c : Cell, h[x]? = some c → c.vm.isStatics = false) : ∀ x ∈ a :: ws, ∀ c : Cell, h[x]? = some c → c.vm.isStatics = false := fun x hx c hc => by
  rcases List.mem_cons.mp hx with rfl | q
  · exact old_plain E c hc
  · exact r x q c hc
theorem own_plV {Z : State} {h : Heap} {a : Addr} {k : ClassId} {ty : FieldType} {z : Int32} {vs : List Value} {d : Value} {ws : List Addr} (E : Arv Z h a k ty z vs d) (r : ∀ x ∈ ws, ∀ c : Cell, h[x]? = some c → c.vm.isStatics = false) : ∀ x ∈ a :: ws, ∀ c : Cell, h[x]? = some c → c.vm.isStatics = false := fun x hx c hc => by
  rcases List.mem_cons.mp hx with rfl | q
  · obtain ⟨cl, A, -⟩ := E
    cases A.1.symm.trans hc; exact A.plain
  · exact r x q c hc
theorem own_sta_keep {Z : State} {h h' : Heap} {C n d : String} {w : Value} {ws : List Addr} (F : Sta Z h C n d w) (K : Keep h h' ws) (r : ∀ x ∈ ws, ∀ c : Cell, h[x]? = some c → c.vm.isStatics = false) : Sta Z h' C n d w := by
  obtain ⟨cf, i, k, f, st, cell, h1, h2, h3, h4, h5, h6, h7⟩ := F
  exact ⟨cf, i, k, f, st, cell, h1, h2, h3, h4, K.2.1 st cell h5 (fun q => by rw [r st q cell h5] at h6; cases h6), h6, h7⟩
end Own
theorem own_andsplit (y M : Nat) : y &&& M = ((y % 16) &&& (M % 16)) + 16 * ((y / 16) &&& (M / 16)) := by
  have h1 : (y &&& M) % 2 ^ 4 = (y % 2 ^ 4) &&& (M % 2 ^ 4) := Nat.and_mod_two_pow
  have h2 : (y &&& M) / 2 ^ 4 = (y / 2 ^ 4) &&& (M / 2 ^ 4) := Nat.and_div_two_pow
  have h3 := Nat.mod_add_div (y &&& M) 16
  simp only [show (2:Nat)^4 = 16 from rfl] at h1 h2
  omega
def own_val : List Nat → Nat
  | [] => 0
  | n :: r => n + 16 * own_val r
def own_rep (d : Nat) : Nat → Nat
  | 0 => 0
  | k + 1 => d + 16 * own_rep d k
def own_A (n : Nat) : Nat := n - (n / 2 &&& 5)
def own_B (a : Nat) : Nat := (a &&& 3) + (a / 4 &&& 3)
theorem own_A5 : ∀ n < 16, ∀ r < 2, (n / 2 + 8 * r) &&& 5 = (n / 2) &&& 5 := by decide
theorem own_Ale : ∀ n < 16, (n / 2 &&& 5) ≤ n := by decide
theorem own_Alt : ∀ n < 16, own_A n < 16 := by decide
theorem own_half : ∀ l : List Nat, (∀ n ∈ l, n < 16) → (own_val l / 2 &&& own_rep 5 l.length) ≤ own_val l ∧ own_val l - (own_val l / 2 &&& own_rep 5 l.length) = own_val (l.map own_A)
  | [], _ => by simp [own_val, own_rep]
  | n :: r, h => by
    have hn : n < 16 := h n (List.mem_cons_self ..)
    obtain ⟨i1, i2⟩ := own_half r (fun x hx => h x (List.mem_cons_of_mem _ hx))
    have e1 : ((n + 16 * own_val r) / 2) % 16 = n / 2 + 8 * (own_val r % 2) := by omega
    have e2 : ((n + 16 * own_val r) / 2) / 16 = own_val r / 2 := by omega
    have e3 : (5 + 16 * own_rep 5 r.length) % 16 = 5 := by omega
    have e4 : (5 + 16 * own_rep 5 r.length) / 16 = own_rep 5 r.length := by omega
    have e : ((n + 16 * own_val r) / 2 &&& (5 + 16 * own_rep 5 r.length)) = (n / 2 &&& 5) + 16 * (own_val r / 2 &&& own_rep 5 r.length) := by
      rw [own_andsplit, e1, e2, e3, e4, own_A5 n hn _ (Nat.mod_lt _ (by decide))]
    have l1 := own_Ale n hn
    have d : own_A n = n - (n / 2 &&& 5) := rfl
    simp only [own_val, List.map_cons, List.length_cons, own_rep]
    rw [e]
    constructor
    · omega
    · omega
theorem own_B3 : ∀ a < 16, ∀ r < 4, (a / 4 + 4 * r) &&& 3 = (a / 4) &&& 3 := by decide
theorem own_quar : ∀ l : List Nat, (∀ n ∈ l, n < 16) → (own_val l &&& own_rep 3 l.length) + (own_val l / 4 &&& own_rep 3 l.length) = own_val (l.map own_B)
  | [], _ => by simp [own_val, own_rep]
  | n :: r, h => by
    have hn : n < 16 := h n (List.mem_cons_self ..)
    have i := own_quar r (fun x hx => h x (List.mem_cons_of_mem _ hx))
    have e0 : (n + 16 * own_val r) % 16 = n := by omega
    have e0' : (n + 16 * own_val r) / 16 = own_val r := by omega
    have e1 : ((n + 16 * own_val r) / 4) % 16 = n / 4 + 4 * (own_val r % 4) := by omega
    have e2 : ((n + 16 * own_val r) / 4) / 16 = own_val r / 4 := by omega
    have e3 : (3 + 16 * own_rep 3 r.length) % 16 = 3 := by omega
    have e4 : (3 + 16 * own_rep 3 r.length) / 16 = own_rep 3 r.length := by omega
    have a1 : ((n + 16 * own_val r) &&& (3 + 16 * own_rep 3 r.length)) = (n &&& 3) + 16 * (own_val r &&& own_rep 3 r.length) := by
      rw [own_andsplit, e0, e0', e3, e4]
    have a2 : ((n + 16 * own_val r) / 4 &&& (3 + 16 * own_rep 3 r.length)) = (n / 4 &&& 3) + 16 * (own_val r / 4 &&& own_rep 3 r.length) := by
      rw [own_andsplit, e1, e2, e3, e4, own_B3 n hn _ (Nat.mod_lt _ (by decide))]
    have d : own_B n = (n &&& 3) + (n / 4 &&& 3) := rfl
    simp only [own_val, List.map_cons, List.length_cons, own_rep]
    rw [a1, a2]
    omega
def own_pop (n : Nat) : Nat := n % 2 + n / 2 % 2 + n / 4 % 2 + n / 8 % 2
theorem own_BA : ∀ n < 16, own_B (own_A n) = own_pop n := by decide
theorem own_and15 : ∀ n < 16, n &&& 15 = n := by decide
theorem own_and0 (n : Nat) : n &&& 0 = 0 := Nat.and_zero n
theorem own_bytes (s0 s1 s2 s3 s4 s5 s6 s7 : Nat) (h0 : s0 < 16) (h1 : s1 < 16) (h2 : s2 < 16) (h3 : s3 < 16) (h4 : s4 < 16) (h5 : s5 < 16) (h6 : s6 < 16) (h7 : s7 < 16) :
    own_val [s0, s1, s2, s3, s4, s5, s6, s7] &&& 252645135 = s0 + 256 * s2 + 65536 * s4 + 16777216 * s6 := by
  simp only [own_val]
  have e : ∀ (n q M : Nat), n < 16 → ((n + 16 * q) &&& M) = (n &&& (M % 16)) + 16 * (q &&& (M / 16)) := fun n q M hn => by
    rw [own_andsplit, show (n + 16 * q) % 16 = n by omega, show (n + 16 * q) / 16 = q by omega]
  rw [e _ _ _ h0, e _ _ _ h1, e _ _ _ h2, e _ _ _ h3, e _ _ _ h4, e _ _ _ h5, e _ _ _ h6, e _ _ _ h7]
  simp only [show (252645135 % 16 = 15) from rfl, show (252645135 / 16 = 15790320) from rfl, show (15790320 % 16 = 0) from rfl, show (15790320 / 16 = 986895) from rfl,
    show (986895 % 16 = 15) from rfl, show (986895 / 16 = 61680) from rfl, show (61680 % 16 = 0) from rfl, show (61680 / 16 = 3855) from rfl, show (3855 % 16 = 15) from rfl, show (3855 / 16 = 240) from rfl,
    show (240 % 16 = 0) from rfl, show (240 / 16 = 15) from rfl, show (15 % 16 = 15) from rfl, show (15 / 16 = 0) from rfl, show (0 % 16 = 0) from rfl, show (0/16 = 0) from rfl, Nat.and_zero, own_and15 s0 h0, own_and15 s2 h2, own_and15 s4 h4, own_and15 s6 h6, Nat.zero_and]
  omega
def own_nb (x : Nat) : Nat :=
  let a := x - (x / 2 &&& 1431655765)
  let b := (a &&& 858993459) + (a / 4 &&& 858993459)
  let c := (b + b / 16) &&& 252645135
  let d := c + c / 256
  let e := d + d / 65536
  e % 64
theorem own_fold (c0 c1 c2 c3 : Nat) (h0 : c0 ≤ 8) (h1 : c1 ≤ 8) (h2 : c2 ≤ 8) (h3 : c3 ≤ 8) :
    (c0 + 256 * c1 + 65536 * c2 + 16777216 * c3 + (c0 + 256 * c1 + 65536 * c2 + 16777216 * c3) / 256 + (c0 + 256 * c1 + 65536 * c2 + 16777216 * c3 + (c0 + 256 * c1 + 65536 * c2 + 16777216 * c3) / 256) / 65536) % 64 = c0 + c1 + c2 + c3 := by
  have e1 : (c0 + 256 * c1 + 65536 * c2 + 16777216 * c3) / 256 = c1 + 256 * c2 + 65536 * c3 := by omega
  rw [e1]
  have e2 : (c0 + 256 * c1 + 65536 * c2 + 16777216 * c3 + (c1 + 256 * c2 + 65536 * c3)) / 65536 = (c2 + c3) + 256 * c3 := by omega
  rw [e2]
  omega
theorem own_one8 (q0 q1 q2 q3 q4 q5 q6 q7 : Nat) (h1 : q0 + q1 + q2 + q3 + q4 + q5 + q6 + q7 = 1) : q0 = 1 ∧ q1 = 0 ∧ q2 = 0 ∧ q3 = 0 ∧ q4 = 0 ∧ q5 = 0 ∧ q6 = 0 ∧ q7 = 0 ∨ q0 = 0 ∧ q1 = 1 ∧ q2 = 0 ∧ q3 = 0 ∧ q4 = 0 ∧ q5 = 0 ∧ q6 = 0 ∧ q7 = 0 ∨ q0 = 0 ∧ q1 = 0 ∧ q2 = 1 ∧ q3 = 0 ∧ q4 = 0 ∧ q5 = 0 ∧ q6 = 0 ∧ q7 = 0 ∨
    q0 = 0 ∧ q1 = 0 ∧ q2 = 0 ∧ q3 = 1 ∧ q4 = 0 ∧ q5 = 0 ∧ q6 = 0 ∧ q7 = 0 ∨ q0 = 0 ∧ q1 = 0 ∧ q2 = 0 ∧ q3 = 0 ∧ q4 = 1 ∧ q5 = 0 ∧ q6 = 0 ∧ q7 = 0 ∨ q0 = 0 ∧ q1 = 0 ∧ q2 = 0 ∧ q3 = 0 ∧ q4 = 0 ∧ q5 = 1 ∧ q6 = 0 ∧ q7 = 0 ∨
    q0 = 0 ∧ q1 = 0 ∧ q2 = 0 ∧ q3 = 0 ∧ q4 = 0 ∧ q5 = 0 ∧ q6 = 1 ∧ q7 = 0 ∨ q0 = 0 ∧ q1 = 0 ∧ q2 = 0 ∧ q3 = 0 ∧ q4 = 0 ∧ q5 = 0 ∧ q6 = 0 ∧ q7 = 1 := by
  by_cases g0 : q0 = 0
  · by_cases g1 : q1 = 0
    · by_cases g2 : q2 = 0
      · by_cases g3 : q3 = 0
        · by_cases g4 : q4 = 0
          · by_cases g5 : q5 = 0
            · by_cases g6 : q6 = 0
              · have g7 : q7 = 1 := by omega
                simp [g0, g1, g2, g3, g4, g5, g6, g7]
              · have : q6 = 1 ∧ q7 = 0 := by omega
                simp [g0, g1, g2, g3, g4, g5, this.1, this.2]
            · have : q5 = 1 ∧ q6 = 0 ∧ q7 = 0 := by omega
              simp [g0, g1, g2, g3, g4, this.1, this.2]
          · have : q4 = 1 ∧ q5 = 0 ∧ q6 = 0 ∧ q7 = 0 := by omega
            simp [g0, g1, g2, g3, this.1, this.2]
        · have : q3 = 1 ∧ q4 = 0 ∧ q5 = 0 ∧ q6 = 0 ∧ q7 = 0 := by omega
          simp [g0, g1, g2, this.1, this.2]
      · have : q2 = 1 ∧ q3 = 0 ∧ q4 = 0 ∧ q5 = 0 ∧ q6 = 0 ∧ q7 = 0 := by omega
        simp [g0, g1, this.1, this.2]
    · have : q1 = 1 ∧ q2 = 0 ∧ q3 = 0 ∧ q4 = 0 ∧ q5 = 0 ∧ q6 = 0 ∧ q7 = 0 := by omega
      simp [g0, this.1, this.2]
  · have : q0 = 1 ∧ q1 = 0 ∧ q2 = 0 ∧ q3 = 0 ∧ q4 = 0 ∧ q5 = 0 ∧ q6 = 0 ∧ q7 = 0 := by omega
    simp [this.1, this.2]
theorem own_addsh (a0 a1 a2 a3 a4 a5 a6 a7 : Nat) (h : a0 ≤ 4) : own_val [a0, a1, a2, a3, a4, a5, a6, a7] + own_val [a0, a1, a2, a3, a4, a5, a6, a7] / 16 = own_val [a0 + a1, a1 + a2, a2 + a3, a3 + a4, a4 + a5, a5 + a6, a6 + a7, a7] := by
  have e : own_val [a0, a1, a2, a3, a4, a5, a6, a7] / 16 = own_val [a1, a2, a3, a4, a5, a6, a7] := by
    show (a0 + 16 * own_val [a1, a2, a3, a4, a5, a6, a7]) / 16 = _
    generalize own_val [a1, a2, a3, a4, a5, a6, a7] = w
    omega
  rw [e]
  simp only [own_val]
  omega
theorem own_pop4 (n : Nat) : own_pop n ≤ 4 := by unfold own_pop; omega
theorem own_nb_val (n0 n1 n2 n3 n4 n5 n6 n7 : Nat) (h0 : n0 < 16) (h1 : n1 < 16) (h2 : n2 < 16) (h3 : n3 < 16) (h4 : n4 < 16) (h5 : n5 < 16) (h6 : n6 < 16) (h7 : n7 < 16) :
    own_nb (own_val [n0, n1, n2, n3, n4, n5, n6, n7]) = own_pop n0 + own_pop n1 + own_pop n2 + own_pop n3 + own_pop n4 + own_pop n5 + own_pop n6 + own_pop n7 := by
  have hl : ∀ n ∈ [n0, n1, n2, n3, n4, n5, n6, n7], n < 16 := by
    simp only [List.mem_cons, List.not_mem_nil, or_false]; rintro n (rfl | rfl | rfl | rfl | rfl | rfl | rfl | rfl) <;> assumption
  have s1 := (own_half _ hl).2
  have hl' : ∀ n ∈ [n0, n1, n2, n3, n4, n5, n6, n7].map own_A, n < 16 := by
    intro n hn; obtain ⟨k, hk, rfl⟩ := List.mem_map.mp hn; exact own_Alt k (hl k hk)
  have s2 := own_quar _ hl'
  rw [List.map_map] at s2
  have r5 : own_rep 5 [n0, n1, n2, n3, n4, n5, n6, n7].length = 1431655765 := rfl
  have r3 : own_rep 3 ([n0, n1, n2, n3, n4, n5, n6, n7].map own_A).length = 858993459 := rfl
  rw [r5] at s1
  rw [r3] at s2
  unfold own_nb
  simp only []
  rw [s1, s2]
  simp only [List.map_cons, List.map_nil, Function.comp, own_BA _ h0, own_BA _ h1, own_BA _ h2, own_BA _ h3, own_BA _ h4, own_BA _ h5, own_BA _ h6, own_BA _ h7]
  have p0 := own_pop4 n0; have p1 := own_pop4 n1; have p2 := own_pop4 n2; have p3 := own_pop4 n3
  have p4 := own_pop4 n4; have p5 := own_pop4 n5; have p6 := own_pop4 n6; have p7 := own_pop4 n7
  generalize own_pop n0 = a0 at *; generalize own_pop n1 = a1 at *; generalize own_pop n2 = a2 at *; generalize own_pop n3 = a3 at *
  generalize own_pop n4 = a4 at *; generalize own_pop n5 = a5 at *; generalize own_pop n6 = a6 at *; generalize own_pop n7 = a7 at *
  have e : own_val [a0, a1, a2, a3, a4, a5, a6, a7] + own_val [a0, a1, a2, a3, a4, a5, a6, a7] / 16 = own_val [a0 + a1, a1 + a2, a2 + a3, a3 + a4, a4 + a5, a5 + a6, a6 + a7, a7] := by
    exact own_addsh _ _ _ _ _ _ _ _ p0
  rw [e, own_bytes _ _ _ _ _ _ _ _ (by omega) (by omega) (by omega) (by omega) (by omega) (by omega) (by omega) (by omega)]
  clear e s1 s2 r5 r3 hl hl'
  have c0 : a0 + a1 ≤ 8 := by omega
  have c1 : a2 + a3 ≤ 8 := by omega
  have c2 : a4 + a5 ≤ 8 := by omega
  have c3 : a6 + a7 ≤ 8 := by omega
  have f : a0 + a1 + a2 + a3 + a4 + a5 + a6 + a7 = (a0 + a1) + (a2 + a3) + (a4 + a5) + (a6 + a7) := by omega
  rw [f]
  exact own_fold _ _ _ _ c0 c1 c2 c3
theorem own_nibs (x : Nat) (h : x < 4294967296) : x = own_val [x % 16, x / 16 % 16, x / 256 % 16, x / 4096 % 16, x / 65536 % 16, x / 1048576 % 16, x / 16777216 % 16, x / 268435456 % 16] := by
  simp only [own_val]; omega
theorem own_pow_nb : ∀ k < 32, own_nb (2 ^ k) = 1 := by decide
theorem own_pow_and : ∀ k < 32, (2 ^ k) &&& (2 ^ k - 1) = 0 := by decide
theorem own_pop0a : ∀ n < 16, own_pop n = 0 → n = 0 := by decide
theorem own_pop0 {n : Nat} (h : n < 16) (p : own_pop n = 0) : n = 0 := own_pop0a n h p
theorem own_pop1a : ∀ n < 16, own_pop n = 1 → n = 1 ∨ n = 2 ∨ n = 4 ∨ n = 8 := by decide
theorem own_pop1 {n : Nat} (h : n < 16) (p : own_pop n = 1) : n = 1 ∨ n = 2 ∨ n = 4 ∨ n = 8 := own_pop1a n h p
theorem own_nb_pow (x : Nat) (h : x < 4294967296) (h1 : own_nb x = 1) : ∃ k < 32, x = 2 ^ k := by
  have e := own_nibs x h
  have b0 : x % 16 < 16 := Nat.mod_lt _ (by decide)
  have b1 : x / 16 % 16 < 16 := Nat.mod_lt _ (by decide)
  have b2 : x / 256 % 16 < 16 := Nat.mod_lt _ (by decide)
  have b3 : x / 4096 % 16 < 16 := Nat.mod_lt _ (by decide)
  have b4 : x / 65536 % 16 < 16 := Nat.mod_lt _ (by decide)
  have b5 : x / 1048576 % 16 < 16 := Nat.mod_lt _ (by decide)
  have b6 : x / 16777216 % 16 < 16 := Nat.mod_lt _ (by decide)
  have b7 : x / 268435456 % 16 < 16 := Nat.mod_lt _ (by decide)
  generalize x % 16 = n0 at *; generalize x / 16 % 16 = n1 at *; generalize x / 256 % 16 = n2 at *; generalize x / 4096 % 16 = n3 at *
  generalize x / 65536 % 16 = n4 at *; generalize x / 1048576 % 16 = n5 at *; generalize x / 16777216 % 16 = n6 at *; generalize x / 268435456 % 16 = n7 at *
  rw [e, own_nb_val _ _ _ _ _ _ _ _ b0 b1 b2 b3 b4 b5 b6 b7] at h1
  simp only [own_val] at e
  have z0 := own_pop0 b0; have z1 := own_pop0 b1; have z2 := own_pop0 b2; have z3 := own_pop0 b3
  have z4 := own_pop0 b4; have z5 := own_pop0 b5; have z6 := own_pop0 b6; have z7 := own_pop0 b7
  have y0 := own_pop1 b0; have y1 := own_pop1 b1; have y2 := own_pop1 b2; have y3 := own_pop1 b3
  have y4 := own_pop1 b4; have y5 := own_pop1 b5; have y6 := own_pop1 b6; have y7 := own_pop1 b7
  generalize own_pop n0 = q0 at *; generalize own_pop n1 = q1 at *; generalize own_pop n2 = q2 at *; generalize own_pop n3 = q3 at *
  generalize own_pop n4 = q4 at *; generalize own_pop n5 = q5 at *; generalize own_pop n6 = q6 at *; generalize own_pop n7 = q7 at *
  have hd := own_one8 _ _ _ _ _ _ _ _ h1
  rcases hd with ⟨g0, g1, g2, g3, g4, g5, g6, g7⟩ | ⟨g0, g1, g2, g3, g4, g5, g6, g7⟩ | ⟨g0, g1, g2, g3, g4, g5, g6, g7⟩ | ⟨g0, g1, g2, g3, g4, g5, g6, g7⟩ | ⟨g0, g1, g2, g3, g4, g5, g6, g7⟩ | ⟨g0, g1, g2, g3, g4, g5, g6, g7⟩ | ⟨g0, g1, g2, g3, g4, g5, g6, g7⟩ | ⟨g0, g1, g2, g3, g4, g5, g6, g7⟩
  · rw [z1 g1, z2 g2, z3 g3, z4 g4, z5 g5, z6 g6, z7 g7] at e
    rcases y0 g0 with r | r | r | r <;> rw [r] at e
    · exact ⟨0, by decide, e⟩
    · exact ⟨1, by decide, e⟩
    · exact ⟨2, by decide, e⟩
    · exact ⟨3, by decide, e⟩
  · rw [z0 g0, z2 g2, z3 g3, z4 g4, z5 g5, z6 g6, z7 g7] at e
    rcases y1 g1 with r | r | r | r <;> rw [r] at e
    · exact ⟨4, by decide, e⟩
    · exact ⟨5, by decide, e⟩
    · exact ⟨6, by decide, e⟩
    · exact ⟨7, by decide, e⟩
  · rw [z0 g0, z1 g1, z3 g3, z4 g4, z5 g5, z6 g6, z7 g7] at e
    rcases y2 g2 with r | r | r | r <;> rw [r] at e
    · exact ⟨8, by decide, e⟩
    · exact ⟨9, by decide, e⟩
    · exact ⟨10, by decide, e⟩
    · exact ⟨11, by decide, e⟩
  · rw [z0 g0, z1 g1, z2 g2, z4 g4, z5 g5, z6 g6, z7 g7] at e
    rcases y3 g3 with r | r | r | r <;> rw [r] at e
    · exact ⟨12, by decide, e⟩
    · exact ⟨13, by decide, e⟩
    · exact ⟨14, by decide, e⟩
    · exact ⟨15, by decide, e⟩
  · rw [z0 g0, z1 g1, z2 g2, z3 g3, z5 g5, z6 g6, z7 g7] at e
    rcases y4 g4 with r | r | r | r <;> rw [r] at e
    · exact ⟨16, by decide, e⟩
    · exact ⟨17, by decide, e⟩
    · exact ⟨18, by decide, e⟩
    · exact ⟨19, by decide, e⟩
  · rw [z0 g0, z1 g1, z2 g2, z3 g3, z4 g4, z6 g6, z7 g7] at e
    rcases y5 g5 with r | r | r | r <;> rw [r] at e
    · exact ⟨20, by decide, e⟩
    · exact ⟨21, by decide, e⟩
    · exact ⟨22, by decide, e⟩
    · exact ⟨23, by decide, e⟩
  · rw [z0 g0, z1 g1, z2 g2, z3 g3, z4 g4, z5 g5, z7 g7] at e
    rcases y6 g6 with r | r | r | r <;> rw [r] at e
    · exact ⟨24, by decide, e⟩
    · exact ⟨25, by decide, e⟩
    · exact ⟨26, by decide, e⟩
    · exact ⟨27, by decide, e⟩
  · rw [z0 g0, z1 g1, z2 g2, z3 g3, z4 g4, z5 g5, z6 g6] at e
    rcases y7 g7 with r | r | r | r <;> rw [r] at e
    · exact ⟨28, by decide, e⟩
    · exact ⟨29, by decide, e⟩
    · exact ⟨30, by decide, e⟩
    · exact ⟨31, by decide, e⟩
theorem own_ushr_n (x y : Int32) (k : Nat) (h : (y &&& 31).toUInt32.toNat = k) (hk : k < 32) : (XT.ushr x y).toBitVec.toNat = x.toBitVec.toNat / 2 ^ k := by
  unfold XT.ushr
  show (x.toUInt32 >>> (y &&& 31).toUInt32).toBitVec.toNat = _
  rw [UInt32.toBitVec_shiftRight, BitVec.ushiftRight_eq', BitVec.toNat_ushiftRight]
  have e : ((y &&& 31).toUInt32.toBitVec % 32).toNat = k := by
    rw [BitVec.toNat_umod]
    show (y &&& 31).toUInt32.toNat % _ = _
    rw [h]; exact Nat.mod_eq_of_lt hk
  rw [e, Nat.shiftRight_eq_div_pow]
  rfl
theorem own_and_n (x y : Int32) : (x &&& y).toBitVec.toNat = x.toBitVec.toNat &&& y.toBitVec.toNat := by
  rw [Int32.toBitVec_and, BitVec.toNat_and]
theorem own_add_n {x y : Int32} (h : x.toBitVec.toNat + y.toBitVec.toNat < 4294967296) : (x + y).toBitVec.toNat = x.toBitVec.toNat + y.toBitVec.toNat := by
  rw [Int32.toBitVec_add, BitVec.toNat_add]; exact Nat.mod_eq_of_lt h
theorem own_sub_n {x y : Int32} (h : y.toBitVec.toNat ≤ x.toBitVec.toNat) : (x - y).toBitVec.toNat = x.toBitVec.toNat - y.toBitVec.toNat := by
  rw [Int32.toBitVec_sub, BitVec.toNat_sub]
  have := x.toBitVec.isLt
  omega
def own_bc (i : Int32) : Int32 :=
  let a := i - (XT.ushr i 1 &&& 1431655765)
  let b := (a &&& 858993459) + (XT.ushr a 2 &&& 858993459)
  let c := (b + XT.ushr b 4) &&& 252645135
  let d := c + XT.ushr c 8
  let e := d + XT.ushr d 16
  e &&& 63
theorem own_bc_nb (i : Int32) : (own_bc i).toBitVec.toNat = own_nb i.toBitVec.toNat := by
  have hx := i.toBitVec.isLt
  have hle : (i.toBitVec.toNat / 2 &&& 1431655765) ≤ i.toBitVec.toNat := Nat.le_trans Nat.and_le_left (Nat.div_le_self _ _)
  unfold own_bc own_nb
  simp only []
  generalize ea : i - (XT.ushr i 1 &&& 1431655765) = a
  have na : a.toBitVec.toNat = i.toBitVec.toNat - (i.toBitVec.toNat / 2 &&& 1431655765) := by
    rw [← ea, own_sub_n, own_and_n, own_ushr_n _ _ 1 (by decide) (by decide)]; rfl
    rw [own_and_n, own_ushr_n _ _ 1 (by decide) (by decide)]; exact hle
  rw [← na]
  generalize eb : (a &&& 858993459) + (XT.ushr a 2 &&& 858993459) = b
  have l1 : (a.toBitVec.toNat &&& 858993459) ≤ 858993459 := Nat.and_le_right
  have l2 : (a.toBitVec.toNat / 4 &&& 858993459) ≤ 858993459 := Nat.and_le_right
  have nb : b.toBitVec.toNat = (a.toBitVec.toNat &&& 858993459) + (a.toBitVec.toNat / 4 &&& 858993459) := by
    rw [← eb, own_add_n, own_and_n, own_and_n, own_ushr_n _ _ 2 (by decide) (by decide)]; rfl
    rw [own_and_n, own_and_n, own_ushr_n _ _ 2 (by decide) (by decide)]
    show (a.toBitVec.toNat &&& 858993459) + (a.toBitVec.toNat / 4 &&& 858993459) < _
    omega
  rw [← nb]
  generalize ec : (b + XT.ushr b 4) &&& 252645135 = c
  have nc : c.toBitVec.toNat = (b.toBitVec.toNat + b.toBitVec.toNat / 16) &&& 252645135 := by
    rw [← ec, own_and_n, own_add_n, own_ushr_n _ _ 4 (by decide) (by decide)]; rfl
    rw [own_ushr_n _ _ 4 (by decide) (by decide)]; omega
  rw [← nc]
  have l3 : c.toBitVec.toNat ≤ 252645135 := by rw [nc]; exact Nat.and_le_right
  generalize ed : c + XT.ushr c 8 = d
  have nd : d.toBitVec.toNat = c.toBitVec.toNat + c.toBitVec.toNat / 256 := by
    rw [← ed, own_add_n, own_ushr_n _ _ 8 (by decide) (by decide)]
    rw [own_ushr_n _ _ 8 (by decide) (by decide)]; omega
  rw [← nd]
  generalize ee : d + XT.ushr d 16 = e
  have ne : e.toBitVec.toNat = d.toBitVec.toNat + d.toBitVec.toNat / 65536 := by
    rw [← ee, own_add_n, own_ushr_n _ _ 16 (by decide) (by decide)]
    rw [own_ushr_n _ _ 16 (by decide) (by decide)]; omega
  rw [← ne, own_and_n]
  exact Nat.and_two_pow_sub_one_eq_mod _ 6
theorem own_bc_one (p : Int32) (h : 0 < p) : own_bc p = 1 ↔ p &&& (p - 1) = 0 := by
  have hpos : 0 < p.toInt := by rw [Int32.lt_iff_toInt_lt] at h; exact h
  have hx := p.toBitVec.isLt
  have hi : p.toInt = p.toBitVec.toNat := by
    have := BitVec.toInt_eq_toNat_cond p.toBitVec
    have h' : p.toBitVec.toInt = p.toInt := rfl
    split at this <;> omega
  have hs : (p - 1).toBitVec.toNat = p.toBitVec.toNat - 1 := by
    rw [own_sub_n]; rfl
    show 1 ≤ _; omega
  have e1 : own_bc p = 1 ↔ own_nb p.toBitVec.toNat = 1 := by
    rw [← own_bc_nb]
    constructor
    · intro q; rw [q]; rfl
    · intro q; apply Int32.toBitVec_inj.mp; apply BitVec.eq_of_toNat_eq; rw [q]; rfl
  have e2 : p &&& (p - 1) = 0 ↔ p.toBitVec.toNat &&& (p.toBitVec.toNat - 1) = 0 := by
    rw [← hs, ← own_and_n]
    constructor
    · intro q; rw [q]; rfl
    · intro q; apply Int32.toBitVec_inj.mp; apply BitVec.eq_of_toNat_eq; rw [q]; rfl
  rw [e1, e2]
  constructor
  · intro q
    obtain ⟨k, hk, e⟩ := own_nb_pow _ hx q
    rw [e]; exact own_pow_and k hk
  · intro q
    obtain ⟨k, e⟩ := (Nat.and_sub_one_eq_zero_iff_isPowerOfTwo (by omega)).mp q
    rw [e]
    refine own_pow_nb k ?_
    rw [e] at hx
    exact (Nat.pow_lt_pow_iff_right (by decide)).mp hx
def own_icp (p : Int32) : Int32 := if 0 < p then (if own_bc p = 1 then 1 else 0) else 0
theorem own_icp_0 {p : Int32} (h : ¬ 0 < p) : own_icp p = 0 := by simp [own_icp, h]
theorem own_icp_1 {p : Int32} (h : 0 < p) (q : p &&& (p - 1) = 0) : own_icp p = 1 := by simp [own_icp, h, own_bc_one p h, q]
theorem own_icp_2 {p : Int32} (h : 0 < p) (q : ¬ p &&& (p - 1) = 0) : own_icp p = 0 := by simp [own_icp, h, own_bc_one p h, q]
theorem own_k31 (s : Int32) : ∃ k : Fin 32, s &&& 31 = Int32.ofNat k.val := by
  have h : (s &&& 31).toBitVec.toNat < 32 := by
    rw [own_and_n]
    have : s.toBitVec.toNat &&& (31 : Int32).toBitVec.toNat ≤ 31 := Nat.and_le_right
    omega
  refine ⟨⟨_, h⟩, ?_⟩
  apply Int32.toBitVec_inj.mp
  show _ = BitVec.ofNat 32 _
  simp
theorem own_m1 : ∀ k : Fin 32, own_icp (1 <<< (Int32.ofNat k.val &&& 31)) = if Int32.ofNat k.val = 31 then 0 else 1 := by decide +kernel
theorem own_m2 : ∀ k : Fin 32, own_icp ((1 <<< (Int32.ofNat k.val &&& 31)) - 1) = if Int32.ofNat k.val = 1 then 1 else 0 := by decide +kernel
theorem own_m3 : ∀ k : Fin 32, own_icp ((1 <<< (Int32.ofNat k.val &&& 31)) + 1) = if Int32.ofNat k.val = 0 then 1 else 0 := by decide +kernel
theorem own_e1 {s k : Int32} (h : s &&& 31 = k) : own_icp (1 <<< (k &&& 31)) = if k = 31 then 0 else 1 := by
  obtain ⟨j, e⟩ := own_k31 s; rw [← h, e]; exact own_m1 j
theorem own_e2 {s k : Int32} (h : s &&& 31 = k) : own_icp ((1 <<< (k &&& 31)) - 1) = if k = 1 then 1 else 0 := by
  obtain ⟨j, e⟩ := own_k31 s; rw [← h, e]; exact own_m2 j
theorem own_e3 {s k : Int32} (h : s &&& 31 = k) : own_icp ((1 <<< (k &&& 31)) + 1) = if k = 0 then 1 else 0 := by
  obtain ⟨j, e⟩ := own_k31 s; rw [← h, e]; exact own_m3 j
theorem own_pn0 : plainName "java/lang/Integer" = true := by first | (simp [plainName, overriddenIn]; done) | decide +kernel
theorem own_d2_0 : decode jdk_33_method_49_code 0 = .ok (.iload_n 0, 1) := by decide +kernel
theorem own_d2_1 : decode jdk_33_method_49_code 1 = .ok (.iload_n 0, 1) := by decide +kernel
theorem own_d2_2 : decode jdk_33_method_49_code 2 = .ok (.iconst 1, 1) := by decide +kernel
theorem own_d2_3 : decode jdk_33_method_49_code 3 = .ok (.iushr, 1) := by decide +kernel
theorem own_d2_4 : decode jdk_33_method_49_code 4 = .ok (.ldc_w 265, 3) := by decide +kernel
theorem own_d2_7 : decode jdk_33_method_49_code 7 = .ok (.iand, 1) := by decide +kernel
theorem own_d2_8 : decode jdk_33_method_49_code 8 = .ok (.isub, 1) := by decide +kernel
theorem own_d2_9 : decode jdk_33_method_49_code 9 = .ok (.istore_n 0, 1) := by decide +kernel
theorem own_d2_10 : decode jdk_33_method_49_code 10 = .ok (.iload_n 0, 1) := by decide +kernel
theorem own_d2_11 : decode jdk_33_method_49_code 11 = .ok (.ldc_w 266, 3) := by decide +kernel
theorem own_d2_14 : decode jdk_33_method_49_code 14 = .ok (.iand, 1) := by decide +kernel
theorem own_d2_15 : decode jdk_33_method_49_code 15 = .ok (.iload_n 0, 1) := by decide +kernel
theorem own_d2_16 : decode jdk_33_method_49_code 16 = .ok (.iconst 2, 1) := by decide +kernel
theorem own_d2_17 : decode jdk_33_method_49_code 17 = .ok (.iushr, 1) := by decide +kernel
theorem own_d2_18 : decode jdk_33_method_49_code 18 = .ok (.ldc_w 266, 3) := by decide +kernel
theorem own_d2_21 : decode jdk_33_method_49_code 21 = .ok (.iand, 1) := by decide +kernel
theorem own_d2_22 : decode jdk_33_method_49_code 22 = .ok (.iadd, 1) := by decide +kernel
theorem own_d2_23 : decode jdk_33_method_49_code 23 = .ok (.istore_n 0, 1) := by decide +kernel
theorem own_d2_24 : decode jdk_33_method_49_code 24 = .ok (.iload_n 0, 1) := by decide +kernel
theorem own_d2_25 : decode jdk_33_method_49_code 25 = .ok (.iload_n 0, 1) := by decide +kernel
theorem own_d2_26 : decode jdk_33_method_49_code 26 = .ok (.iconst 4, 1) := by decide +kernel
theorem own_d2_27 : decode jdk_33_method_49_code 27 = .ok (.iushr, 1) := by decide +kernel
theorem own_d2_28 : decode jdk_33_method_49_code 28 = .ok (.iadd, 1) := by decide +kernel
theorem own_d2_29 : decode jdk_33_method_49_code 29 = .ok (.ldc_w 267, 3) := by decide +kernel
theorem own_d2_32 : decode jdk_33_method_49_code 32 = .ok (.iand, 1) := by decide +kernel
theorem own_d2_33 : decode jdk_33_method_49_code 33 = .ok (.istore_n 0, 1) := by decide +kernel
theorem own_d2_34 : decode jdk_33_method_49_code 34 = .ok (.iload_n 0, 1) := by decide +kernel
theorem own_d2_35 : decode jdk_33_method_49_code 35 = .ok (.iload_n 0, 1) := by decide +kernel
theorem own_d2_36 : decode jdk_33_method_49_code 36 = .ok (.bipush 8, 2) := by decide +kernel
theorem own_d2_38 : decode jdk_33_method_49_code 38 = .ok (.iushr, 1) := by decide +kernel
theorem own_d2_39 : decode jdk_33_method_49_code 39 = .ok (.iadd, 1) := by decide +kernel
theorem own_d2_40 : decode jdk_33_method_49_code 40 = .ok (.istore_n 0, 1) := by decide +kernel
theorem own_d2_41 : decode jdk_33_method_49_code 41 = .ok (.iload_n 0, 1) := by decide +kernel
theorem own_d2_42 : decode jdk_33_method_49_code 42 = .ok (.iload_n 0, 1) := by decide +kernel
theorem own_d2_43 : decode jdk_33_method_49_code 43 = .ok (.bipush 16, 2) := by decide +kernel
theorem own_d2_45 : decode jdk_33_method_49_code 45 = .ok (.iushr, 1) := by decide +kernel
theorem own_d2_46 : decode jdk_33_method_49_code 46 = .ok (.iadd, 1) := by decide +kernel
theorem own_d2_47 : decode jdk_33_method_49_code 47 = .ok (.istore_n 0, 1) := by decide +kernel
theorem own_d2_48 : decode jdk_33_method_49_code 48 = .ok (.iload_n 0, 1) := by decide +kernel
theorem own_d2_49 : decode jdk_33_method_49_code 49 = .ok (.bipush 63, 2) := by decide +kernel
theorem own_d2_51 : decode jdk_33_method_49_code 51 = .ok (.iand, 1) := by decide +kernel
theorem own_d2_52 : decode jdk_33_method_49_code 52 = .ok (.ireturn, 1) := by decide +kernel
def own_Q_bc (Z : State) (p1 : Int32) (h0 : Heap) (n0 : Nat) (v : Option Value) (h : Heap) (L : List Loc) : Prop := v = some (.int (own_bc p1)) ∧ Fr n0 L ∧ h = h0
set_option maxRecDepth 65536 in
set_option maxHeartbeats 40000000 in
theorem own_m_bc (l : Launch) (Z : State) (a0 : Array Value) (hw : ∀ d ∈ tables_1, d.before a0 Z = true) (ws : List Jvm.Cond) (p1 : Int32) (h0 : Heap) (n0 : Nat) (Z0 : n0 ≤ h0.size)  :
    MetFree l (⟨"java/lang/Integer", "bitCount", "(I)I"⟩ : MethodName) (head1 (Jvm.Cond.code (⟨"java/lang/Integer", "bitCount", "(I)I"⟩ : MethodName) jdk_33_method_49_code 1 (some .int) :: ws) ({ frames := 0, cells := 0, slots := 0, locals := 0 } : Room)) (fun a U => a = #[(.int p1)] ∧ Z.Warmed39 U.vm ∧ U.heap = h0) (fun _ _ _ _ _ => True) (fun _ U o U' => ∃ v L, o = .returned v ∧ own_Q_bc Z p1 h0 n0 v U'.heap L ∧ FrameEnd U o U' L ({ frames := 0, cells := 0, slots := 0, locals := 0 } : Room).cells ({ frames := 0, cells := 0, slots := 0, locals := 0 } : Room).slots) := by
  refine MetFree.of_bodySF (plainFor_of_name own_pn0) hisR ?_
  intro p e s m args below meth c s₁ Bd hml0 hP hK
  obtain ⟨rfl, hZ, hh⟩ := hP
  have hx := Bd.exec
  have hby := Bd.bytes
  have hml : c.maxLocals = 1 := hml0
  have hown : s.vm.findClass "java/lang/Integer" = some m.cls := findClass_of_methodNamed Bd.named
  have hnm := (name_of_methodNamed Bd.named Bd.method).1
  have X0 : Stand p l e ({ frames := 0, cells := 0, slots := 0, locals := 0 } : Room) s m #[(.int p1)] below meth c s₁ [] 0 0 := Stand.of_body Bd
  have e0 : s₁.heap = h0 := by rw [← hh, Bd.state]; rfl
  have N0 := Fr.nil n0
  have K0 : Keep h0 h0 [] := Keep.refl _ _
  show own_Go p e below s ({ frames := 0, cells := 0, slots := 0, locals := 0 } : Room).cells ({ frames := 0, cells := 0, slots := 0, locals := 0 } : Room).slots (own_Q_bc Z p1 h0 n0) (s₁.setTop (entryFrame m #[(.int p1)] 1))
  have ef : entryFrame m #[(.int p1)] 1 = (mkF m 0 #[.val (.int p1)] []) := by first | rfl | (simp [entryFrame, mkF, argsToLocals, Value.category, maxLocals]; done)
  rw [ef]
  show own_Go p e below s _ _ _ (s₁.setTop (mkF m 0 #[.val (.int p1)] []))
  refine own_step (U' := (s₁.setTop (mkF m 1 #[.val (.int p1)] [(.int p1)]))) (fun t ht => XS.iloadN X0.here hx rfl (hb hby own_d2_0) rfl ht) ?_
  refine own_step (U' := (s₁.setTop (mkF m 2 #[.val (.int p1)] [(.int p1), (.int p1)]))) (fun t ht => XS.iloadN X0.here hx rfl (hb hby own_d2_1) rfl ht) ?_
  refine own_step (U' := (s₁.setTop (mkF m 3 #[.val (.int p1)] [(.int (1 : Int32)), (.int p1), (.int p1)]))) (fun t ht => XS.iconst X0.here hx rfl (hb hby own_d2_2) ht) ?_
  refine own_step (U' := (s₁.setTop (mkF m 4 #[.val (.int p1)] [(.int (XT.ushr p1 (1 : Int32))), (.int p1)]))) (fun t ht => XT.iushr X0.here hx rfl (hb hby own_d2_3) rfl ht) ?_
  refine own_step (U' := (s₁.setTop (mkF m 7 #[.val (.int p1)] [(.int (1431655765 : Int32)), (.int (XT.ushr p1 (1 : Int32))), (.int p1)]))) (fun t ht => X0.ldcwInt hx hown (mvT hZ (hw _ (List.mem_of_getElem? (i := 8) rfl))) (g := (mkF m 4 #[.val (.int p1)] [(.int (XT.ushr p1 (1 : Int32))), (.int p1)])) rfl (hb hby own_d2_4) _ ht) ?_
  refine own_step (U' := (s₁.setTop (mkF m 8 #[.val (.int p1)] [(.int ((XT.ushr p1 (1 : Int32)) &&& (1431655765 : Int32))), (.int p1)]))) (fun t ht => XS.iand X0.here hx rfl (hb hby own_d2_7) rfl ht) ?_
  refine own_step (U' := (s₁.setTop (mkF m 9 #[.val (.int p1)] [(.int (p1 - ((XT.ushr p1 (1 : Int32)) &&& (1431655765 : Int32))))]))) (fun t ht => XS.isub X0.here hx rfl (hb hby own_d2_8) rfl ht) ?_
  refine own_step (U' := (s₁.setTop (mkF m 10 #[.val (.int (p1 - ((XT.ushr p1 (1 : Int32)) &&& (1431655765 : Int32))))] []))) (fun t ht => XS.istoreN X0.here hx rfl (hb hby own_d2_9) rfl (l' := #[.val (.int (p1 - ((XT.ushr p1 (1 : Int32)) &&& (1431655765 : Int32))))]) rfl ht) ?_
  refine own_step (U' := (s₁.setTop (mkF m 11 #[.val (.int (p1 - ((XT.ushr p1 (1 : Int32)) &&& (1431655765 : Int32))))] [(.int (p1 - ((XT.ushr p1 (1 : Int32)) &&& (1431655765 : Int32))))]))) (fun t ht => XS.iloadN X0.here hx rfl (hb hby own_d2_10) rfl ht) ?_
  refine own_step (U' := (s₁.setTop (mkF m 14 #[.val (.int (p1 - ((XT.ushr p1 (1 : Int32)) &&& (1431655765 : Int32))))] [(.int (858993459 : Int32)), (.int (p1 - ((XT.ushr p1 (1 : Int32)) &&& (1431655765 : Int32))))]))) (fun t ht => X0.ldcwInt hx hown (mvT hZ (hw _ (List.mem_of_getElem? (i := 9) rfl))) (g := (mkF m 11 #[.val (.int (p1 - ((XT.ushr p1 (1 : Int32)) &&& (1431655765 : Int32))))] [(.int (p1 - ((XT.ushr p1 (1 : Int32)) &&& (1431655765 : Int32))))])) rfl (hb hby own_d2_11) _ ht) ?_
  refine own_step (U' := (s₁.setTop (mkF m 15 #[.val (.int (p1 - ((XT.ushr p1 (1 : Int32)) &&& (1431655765 : Int32))))] [(.int ((p1 - ((XT.ushr p1 (1 : Int32)) &&& (1431655765 : Int32))) &&& (858993459 : Int32)))]))) (fun t ht => XS.iand X0.here hx rfl (hb hby own_d2_14) rfl ht) ?_
  refine own_step (U' := (s₁.setTop (mkF m 16 #[.val (.int (p1 - ((XT.ushr p1 (1 : Int32)) &&& (1431655765 : Int32))))] [(.int (p1 - ((XT.ushr p1 (1 : Int32)) &&& (1431655765 : Int32)))), (.int ((p1 - ((XT.ushr p1 (1 : Int32)) &&& (1431655765 : Int32))) &&& (858993459 : Int32)))]))) (fun t ht => XS.iloadN X0.here hx rfl (hb hby own_d2_15) rfl ht) ?_
  refine own_step (U' := (s₁.setTop (mkF m 17 #[.val (.int (p1 - ((XT.ushr p1 (1 : Int32)) &&& (1431655765 : Int32))))] [(.int (2 : Int32)), (.int (p1 - ((XT.ushr p1 (1 : Int32)) &&& (1431655765 : Int32)))), (.int ((p1 - ((XT.ushr p1 (1 : Int32)) &&& (1431655765 : Int32))) &&& (858993459 : Int32)))]))) (fun t ht => XS.iconst X0.here hx rfl (hb hby own_d2_16) ht) ?_
  refine own_step (U' := (s₁.setTop (mkF m 18 #[.val (.int (p1 - ((XT.ushr p1 (1 : Int32)) &&& (1431655765 : Int32))))] [(.int (XT.ushr (p1 - ((XT.ushr p1 (1 : Int32)) &&& (1431655765 : Int32))) (2 : Int32))), (.int ((p1 - ((XT.ushr p1 (1 : Int32)) &&& (1431655765 : Int32))) &&& (858993459 : Int32)))]))) (fun t ht => XT.iushr X0.here hx rfl (hb hby own_d2_17) rfl ht) ?_
  refine own_step (U' := (s₁.setTop (mkF m 21 #[.val (.int (p1 - ((XT.ushr p1 (1 : Int32)) &&& (1431655765 : Int32))))] [(.int (858993459 : Int32)), (.int (XT.ushr (p1 - ((XT.ushr p1 (1 : Int32)) &&& (1431655765 : Int32))) (2 : Int32))), (.int ((p1 - ((XT.ushr p1 (1 : Int32)) &&& (1431655765 : Int32))) &&& (858993459 : Int32)))]))) (fun t ht => X0.ldcwInt hx hown (mvT hZ (hw _ (List.mem_of_getElem? (i := 9) rfl))) (g := (mkF m 18 #[.val (.int (p1 - ((XT.ushr p1 (1 : Int32)) &&& (1431655765 : Int32))))] [(.int (XT.ushr (p1 - ((XT.ushr p1 (1 : Int32)) &&& (1431655765 : Int32))) (2 : Int32))), (.int ((p1 - ((XT.ushr p1 (1 : Int32)) &&& (1431655765 : Int32))) &&& (858993459 : Int32)))])) rfl (hb hby own_d2_18) _ ht) ?_
  refine own_step (U' := (s₁.setTop (mkF m 22 #[.val (.int (p1 - ((XT.ushr p1 (1 : Int32)) &&& (1431655765 : Int32))))] [(.int ((XT.ushr (p1 - ((XT.ushr p1 (1 : Int32)) &&& (1431655765 : Int32))) (2 : Int32)) &&& (858993459 : Int32))), (.int ((p1 - ((XT.ushr p1 (1 : Int32)) &&& (1431655765 : Int32))) &&& (858993459 : Int32)))]))) (fun t ht => XS.iand X0.here hx rfl (hb hby own_d2_21) rfl ht) ?_
  refine own_step (U' := (s₁.setTop (mkF m 23 #[.val (.int (p1 - ((XT.ushr p1 (1 : Int32)) &&& (1431655765 : Int32))))] [(.int (((p1 - ((XT.ushr p1 (1 : Int32)) &&& (1431655765 : Int32))) &&& (858993459 : Int32)) + ((XT.ushr (p1 - ((XT.ushr p1 (1 : Int32)) &&& (1431655765 : Int32))) (2 : Int32)) &&& (858993459 : Int32))))]))) (fun t ht => XS.iadd X0.here hx rfl (hb hby own_d2_22) rfl ht) ?_
  refine own_step (U' := (s₁.setTop (mkF m 24 #[.val (.int (((p1 - ((XT.ushr p1 (1 : Int32)) &&& (1431655765 : Int32))) &&& (858993459 : Int32)) + ((XT.ushr (p1 - ((XT.ushr p1 (1 : Int32)) &&& (1431655765 : Int32))) (2 : Int32)) &&& (858993459 : Int32))))] []))) (fun t ht => XS.istoreN X0.here hx rfl (hb hby own_d2_23) rfl (l' := #[.val (.int (((p1 - ((XT.ushr p1 (1 : Int32)) &&& (1431655765 : Int32))) &&& (858993459 : Int32)) + ((XT.ushr (p1 - ((XT.ushr p1 (1 : Int32)) &&& (1431655765 : Int32))) (2 : Int32)) &&& (858993459 : Int32))))]) rfl ht) ?_
  refine own_step (U' := (s₁.setTop (mkF m 25 #[.val (.int (((p1 - ((XT.ushr p1 (1 : Int32)) &&& (1431655765 : Int32))) &&& (858993459 : Int32)) + ((XT.ushr (p1 - ((XT.ushr p1 (1 : Int32)) &&& (1431655765 : Int32))) (2 : Int32)) &&& (858993459 : Int32))))] [(.int (((p1 - ((XT.ushr p1 (1 : Int32)) &&& (1431655765 : Int32))) &&& (858993459 : Int32)) + ((XT.ushr (p1 - ((XT.ushr p1 (1 : Int32)) &&& (1431655765 : Int32))) (2 : Int32)) &&& (858993459 : Int32))))]))) (fun t ht => XS.iloadN X0.here hx rfl (hb hby own_d2_24) rfl ht) ?_
  refine own_step (U' := (s₁.setTop (mkF m 26 #[.val (.int (((p1 - ((XT.ushr p1 (1 : Int32)) &&& (1431655765 : Int32))) &&& (858993459 : Int32)) + ((XT.ushr (p1 - ((XT.ushr p1 (1 : Int32)) &&& (1431655765 : Int32))) (2 : Int32)) &&& (858993459 : Int32))))] [(.int (((p1 - ((XT.ushr p1 (1 : Int32)) &&& (1431655765 : Int32))) &&& (858993459 : Int32)) + ((XT.ushr (p1 - ((XT.ushr p1 (1 : Int32)) &&& (1431655765 : Int32))) (2 : Int32)) &&& (858993459 : Int32)))), (.int (((p1 - ((XT.ushr p1 (1 : Int32)) &&& (1431655765 : Int32))) &&& (858993459 : Int32)) + ((XT.ushr (p1 - ((XT.ushr p1 (1 : Int32)) &&& (1431655765 : Int32))) (2 : Int32)) &&& (858993459 : Int32))))]))) (fun t ht => XS.iloadN X0.here hx rfl (hb hby own_d2_25) rfl ht) ?_
  refine own_step (U' := (s₁.setTop (mkF m 27 #[.val (.int (((p1 - ((XT.ushr p1 (1 : Int32)) &&& (1431655765 : Int32))) &&& (858993459 : Int32)) + ((XT.ushr (p1 - ((XT.ushr p1 (1 : Int32)) &&& (1431655765 : Int32))) (2 : Int32)) &&& (858993459 : Int32))))] [(.int (4 : Int32)), (.int (((p1 - ((XT.ushr p1 (1 : Int32)) &&& (1431655765 : Int32))) &&& (858993459 : Int32)) + ((XT.ushr (p1 - ((XT.ushr p1 (1 : Int32)) &&& (1431655765 : Int32))) (2 : Int32)) &&& (858993459 : Int32)))), (.int (((p1 - ((XT.ushr p1 (1 : Int32)) &&& (1431655765 : Int32))) &&& (858993459 : Int32)) + ((XT.ushr (p1 - ((XT.ushr p1 (1 : Int32)) &&& (1431655765 : Int32))) (2 : Int32)) &&& (858993459 : Int32))))]))) (fun t ht => XS.iconst X0.here hx rfl (hb hby own_d2_26) ht) ?_
  refine own_step (U' := (s₁.setTop (mkF m 28 #[.val (.int (((p1 - ((XT.ushr p1 (1 : Int32)) &&& (1431655765 : Int32))) &&& (858993459 : Int32)) + ((XT.ushr (p1 - ((XT.ushr p1 (1 : Int32)) &&& (1431655765 : Int32))) (2 : Int32)) &&& (858993459 : Int32))))] [(.int (XT.ushr (((p1 - ((XT.ushr p1 (1 : Int32)) &&& (1431655765 : Int32))) &&& (858993459 : Int32)) + ((XT.ushr (p1 - ((XT.ushr p1 (1 : Int32)) &&& (1431655765 : Int32))) (2 : Int32)) &&& (858993459 : Int32))) (4 : Int32))), (.int (((p1 - ((XT.ushr p1 (1 : Int32)) &&& (1431655765 : Int32))) &&& (858993459 : Int32)) + ((XT.ushr (p1 - ((XT.ushr p1 (1 : Int32)) &&& (1431655765 : Int32))) (2 : Int32)) &&& (858993459 : Int32))))]))) (fun t ht => XT.iushr X0.here hx rfl (hb hby own_d2_27) rfl ht) ?_
  refine own_step (U' := (s₁.setTop (mkF m 29 #[.val (.int (((p1 - ((XT.ushr p1 (1 : Int32)) &&& (1431655765 : Int32))) &&& (858993459 : Int32)) + ((XT.ushr (p1 - ((XT.ushr p1 (1 : Int32)) &&& (1431655765 : Int32))) (2 : Int32)) &&& (858993459 : Int32))))] [(.int ((((p1 - ((XT.ushr p1 (1 : Int32)) &&& (1431655765 : Int32))) &&& (858993459 : Int32)) + ((XT.ushr (p1 - ((XT.ushr p1 (1 : Int32)) &&& (1431655765 : Int32))) (2 : Int32)) &&& (858993459 : Int32))) + (XT.ushr (((p1 - ((XT.ushr p1 (1 : Int32)) &&& (1431655765 : Int32))) &&& (858993459 : Int32)) + ((XT.ushr (p1 - ((XT.ushr p1 (1 : Int32)) &&& (1431655765 : Int32))) (2 : Int32)) &&& (858993459 : Int32))) (4 : Int32))))]))) (fun t ht => XS.iadd X0.here hx rfl (hb hby own_d2_28) rfl ht) ?_
  refine own_step (U' := (s₁.setTop (mkF m 32 #[.val (.int (((p1 - ((XT.ushr p1 (1 : Int32)) &&& (1431655765 : Int32))) &&& (858993459 : Int32)) + ((XT.ushr (p1 - ((XT.ushr p1 (1 : Int32)) &&& (1431655765 : Int32))) (2 : Int32)) &&& (858993459 : Int32))))] [(.int (252645135 : Int32)), (.int ((((p1 - ((XT.ushr p1 (1 : Int32)) &&& (1431655765 : Int32))) &&& (858993459 : Int32)) + ((XT.ushr (p1 - ((XT.ushr p1 (1 : Int32)) &&& (1431655765 : Int32))) (2 : Int32)) &&& (858993459 : Int32))) + (XT.ushr (((p1 - ((XT.ushr p1 (1 : Int32)) &&& (1431655765 : Int32))) &&& (858993459 : Int32)) + ((XT.ushr (p1 - ((XT.ushr p1 (1 : Int32)) &&& (1431655765 : Int32))) (2 : Int32)) &&& (858993459 : Int32))) (4 : Int32))))]))) (fun t ht => X0.ldcwInt hx hown (mvT hZ (hw _ (List.mem_of_getElem? (i := 10) rfl))) (g := (mkF m 29 #[.val (.int (((p1 - ((XT.ushr p1 (1 : Int32)) &&& (1431655765 : Int32))) &&& (858993459 : Int32)) + ((XT.ushr (p1 - ((XT.ushr p1 (1 : Int32)) &&& (1431655765 : Int32))) (2 : Int32)) &&& (858993459 : Int32))))] [(.int ((((p1 - ((XT.ushr p1 (1 : Int32)) &&& (1431655765 : Int32))) &&& (858993459 : Int32)) + ((XT.ushr (p1 - ((XT.ushr p1 (1 : Int32)) &&& (1431655765 : Int32))) (2 : Int32)) &&& (858993459 : Int32))) + (XT.ushr (((p1 - ((XT.ushr p1 (1 : Int32)) &&& (1431655765 : Int32))) &&& (858993459 : Int32)) + ((XT.ushr (p1 - ((XT.ushr p1 (1 : Int32)) &&& (1431655765 : Int32))) (2 : Int32)) &&& (858993459 : Int32))) (4 : Int32))))])) rfl (hb hby own_d2_29) _ ht) ?_
  refine own_step (U' := (s₁.setTop (mkF m 33 #[.val (.int (((p1 - ((XT.ushr p1 (1 : Int32)) &&& (1431655765 : Int32))) &&& (858993459 : Int32)) + ((XT.ushr (p1 - ((XT.ushr p1 (1 : Int32)) &&& (1431655765 : Int32))) (2 : Int32)) &&& (858993459 : Int32))))] [(.int (((((p1 - ((XT.ushr p1 (1 : Int32)) &&& (1431655765 : Int32))) &&& (858993459 : Int32)) + ((XT.ushr (p1 - ((XT.ushr p1 (1 : Int32)) &&& (1431655765 : Int32))) (2 : Int32)) &&& (858993459 : Int32))) + (XT.ushr (((p1 - ((XT.ushr p1 (1 : Int32)) &&& (1431655765 : Int32))) &&& (858993459 : Int32)) + ((XT.ushr (p1 - ((XT.ushr p1 (1 : Int32)) &&& (1431655765 : Int32))) (2 : Int32)) &&& (858993459 : Int32))) (4 : Int32))) &&& (252645135 : Int32)))]))) (fun t ht => XS.iand X0.here hx rfl (hb hby own_d2_32) rfl ht) ?_
  refine own_step (U' := (s₁.setTop (mkF m 34 #[.val (.int (((((p1 - ((XT.ushr p1 (1 : Int32)) &&& (1431655765 : Int32))) &&& (858993459 : Int32)) + ((XT.ushr (p1 - ((XT.ushr p1 (1 : Int32)) &&& (1431655765 : Int32))) (2 : Int32)) &&& (858993459 : Int32))) + (XT.ushr (((p1 - ((XT.ushr p1 (1 : Int32)) &&& (1431655765 : Int32))) &&& (858993459 : Int32)) + ((XT.ushr (p1 - ((XT.ushr p1 (1 : Int32)) &&& (1431655765 : Int32))) (2 : Int32)) &&& (858993459 : Int32))) (4 : Int32))) &&& (252645135 : Int32)))] []))) (fun t ht => XS.istoreN X0.here hx rfl (hb hby own_d2_33) rfl (l' := #[.val (.int (((((p1 - ((XT.ushr p1 (1 : Int32)) &&& (1431655765 : Int32))) &&& (858993459 : Int32)) + ((XT.ushr (p1 - ((XT.ushr p1 (1 : Int32)) &&& (1431655765 : Int32))) (2 : Int32)) &&& (858993459 : Int32))) + (XT.ushr (((p1 - ((XT.ushr p1 (1 : Int32)) &&& (1431655765 : Int32))) &&& (858993459 : Int32)) + ((XT.ushr (p1 - ((XT.ushr p1 (1 : Int32)) &&& (1431655765 : Int32))) (2 : Int32)) &&& (858993459 : Int32))) (4 : Int32))) &&& (252645135 : Int32)))]) rfl ht) ?_
  refine own_step (U' := (s₁.setTop (mkF m 35 #[.val (.int (((((p1 - ((XT.ushr p1 (1 : Int32)) &&& (1431655765 : Int32))) &&& (858993459 : Int32)) + ((XT.ushr (p1 - ((XT.ushr p1 (1 : Int32)) &&& (1431655765 : Int32))) (2 : Int32)) &&& (858993459 : Int32))) + (XT.ushr (((p1 - ((XT.ushr p1 (1 : Int32)) &&& (1431655765 : Int32))) &&& (858993459 : Int32)) + ((XT.ushr (p1 - ((XT.ushr p1 (1 : Int32)) &&& (1431655765 : Int32))) (2 : Int32)) &&& (858993459 : Int32))) (4 : Int32))) &&& (252645135 : Int32)))] [(.int (((((p1 - ((XT.ushr p1 (1 : Int32)) &&& (1431655765 : Int32))) &&& (858993459 : Int32)) + ((XT.ushr (p1 - ((XT.ushr p1 (1 : Int32)) &&& (1431655765 : Int32))) (2 : Int32)) &&& (858993459 : Int32))) + (XT.ushr (((p1 - ((XT.ushr p1 (1 : Int32)) &&& (1431655765 : Int32))) &&& (858993459 : Int32)) + ((XT.ushr (p1 - ((XT.ushr p1 (1 : Int32)) &&& (1431655765 : Int32))) (2 : Int32)) &&& (858993459 : Int32))) (4 : Int32))) &&& (252645135 : Int32)))]))) (fun t ht => XS.iloadN X0.here hx rfl (hb hby own_d2_34) rfl ht) ?_
  refine own_step (U' := (s₁.setTop (mkF m 36 #[.val (.int (((((p1 - ((XT.ushr p1 (1 : Int32)) &&& (1431655765 : Int32))) &&& (858993459 : Int32)) + ((XT.ushr (p1 - ((XT.ushr p1 (1 : Int32)) &&& (1431655765 : Int32))) (2 : Int32)) &&& (858993459 : Int32))) + (XT.ushr (((p1 - ((XT.ushr p1 (1 : Int32)) &&& (1431655765 : Int32))) &&& (858993459 : Int32)) + ((XT.ushr (p1 - ((XT.ushr p1 (1 : Int32)) &&& (1431655765 : Int32))) (2 : Int32)) &&& (858993459 : Int32))) (4 : Int32))) &&& (252645135 : Int32)))] [(.int (((((p1 - ((XT.ushr p1 (1 : Int32)) &&& (1431655765 : Int32))) &&& (858993459 : Int32)) + ((XT.ushr (p1 - ((XT.ushr p1 (1 : Int32)) &&& (1431655765 : Int32))) (2 : Int32)) &&& (858993459 : Int32))) + (XT.ushr (((p1 - ((XT.ushr p1 (1 : Int32)) &&& (1431655765 : Int32))) &&& (858993459 : Int32)) + ((XT.ushr (p1 - ((XT.ushr p1 (1 : Int32)) &&& (1431655765 : Int32))) (2 : Int32)) &&& (858993459 : Int32))) (4 : Int32))) &&& (252645135 : Int32))), (.int (((((p1 - ((XT.ushr p1 (1 : Int32)) &&& (1431655765 : Int32))) &&& (858993459 : Int32)) + ((XT.ushr (p1 - ((XT.ushr p1 (1 : Int32)) &&& (1431655765 : Int32))) (2 : Int32)) &&& (858993459 : Int32))) + (XT.ushr (((p1 - ((XT.ushr p1 (1 : Int32)) &&& (1431655765 : Int32))) &&& (858993459 : Int32)) + ((XT.ushr (p1 - ((XT.ushr p1 (1 : Int32)) &&& (1431655765 : Int32))) (2 : Int32)) &&& (858993459 : Int32))) (4 : Int32))) &&& (252645135 : Int32)))]))) (fun t ht => XS.iloadN X0.here hx rfl (hb hby own_d2_35) rfl ht) ?_
  refine own_step (U' := (s₁.setTop (mkF m 38 #[.val (.int (((((p1 - ((XT.ushr p1 (1 : Int32)) &&& (1431655765 : Int32))) &&& (858993459 : Int32)) + ((XT.ushr (p1 - ((XT.ushr p1 (1 : Int32)) &&& (1431655765 : Int32))) (2 : Int32)) &&& (858993459 : Int32))) + (XT.ushr (((p1 - ((XT.ushr p1 (1 : Int32)) &&& (1431655765 : Int32))) &&& (858993459 : Int32)) + ((XT.ushr (p1 - ((XT.ushr p1 (1 : Int32)) &&& (1431655765 : Int32))) (2 : Int32)) &&& (858993459 : Int32))) (4 : Int32))) &&& (252645135 : Int32)))] [(.int (8 : Int32)), (.int (((((p1 - ((XT.ushr p1 (1 : Int32)) &&& (1431655765 : Int32))) &&& (858993459 : Int32)) + ((XT.ushr (p1 - ((XT.ushr p1 (1 : Int32)) &&& (1431655765 : Int32))) (2 : Int32)) &&& (858993459 : Int32))) + (XT.ushr (((p1 - ((XT.ushr p1 (1 : Int32)) &&& (1431655765 : Int32))) &&& (858993459 : Int32)) + ((XT.ushr (p1 - ((XT.ushr p1 (1 : Int32)) &&& (1431655765 : Int32))) (2 : Int32)) &&& (858993459 : Int32))) (4 : Int32))) &&& (252645135 : Int32))), (.int (((((p1 - ((XT.ushr p1 (1 : Int32)) &&& (1431655765 : Int32))) &&& (858993459 : Int32)) + ((XT.ushr (p1 - ((XT.ushr p1 (1 : Int32)) &&& (1431655765 : Int32))) (2 : Int32)) &&& (858993459 : Int32))) + (XT.ushr (((p1 - ((XT.ushr p1 (1 : Int32)) &&& (1431655765 : Int32))) &&& (858993459 : Int32)) + ((XT.ushr (p1 - ((XT.ushr p1 (1 : Int32)) &&& (1431655765 : Int32))) (2 : Int32)) &&& (858993459 : Int32))) (4 : Int32))) &&& (252645135 : Int32)))]))) (fun t ht => XS.bipush X0.here hx rfl (hb hby own_d2_36) ht) ?_
  refine own_step (U' := (s₁.setTop (mkF m 39 #[.val (.int (((((p1 - ((XT.ushr p1 (1 : Int32)) &&& (1431655765 : Int32))) &&& (858993459 : Int32)) + ((XT.ushr (p1 - ((XT.ushr p1 (1 : Int32)) &&& (1431655765 : Int32))) (2 : Int32)) &&& (858993459 : Int32))) + (XT.ushr (((p1 - ((XT.ushr p1 (1 : Int32)) &&& (1431655765 : Int32))) &&& (858993459 : Int32)) + ((XT.ushr (p1 - ((XT.ushr p1 (1 : Int32)) &&& (1431655765 : Int32))) (2 : Int32)) &&& (858993459 : Int32))) (4 : Int32))) &&& (252645135 : Int32)))] [(.int (XT.ushr (((((p1 - ((XT.ushr p1 (1 : Int32)) &&& (1431655765 : Int32))) &&& (858993459 : Int32)) + ((XT.ushr (p1 - ((XT.ushr p1 (1 : Int32)) &&& (1431655765 : Int32))) (2 : Int32)) &&& (858993459 : Int32))) + (XT.ushr (((p1 - ((XT.ushr p1 (1 : Int32)) &&& (1431655765 : Int32))) &&& (858993459 : Int32)) + ((XT.ushr (p1 - ((XT.ushr p1 (1 : Int32)) &&& (1431655765 : Int32))) (2 : Int32)) &&& (858993459 : Int32))) (4 : Int32))) &&& (252645135 : Int32)) (8 : Int32))), (.int (((((p1 - ((XT.ushr p1 (1 : Int32)) &&& (1431655765 : Int32))) &&& (858993459 : Int32)) + ((XT.ushr (p1 - ((XT.ushr p1 (1 : Int32)) &&& (1431655765 : Int32))) (2 : Int32)) &&& (858993459 : Int32))) + (XT.ushr (((p1 - ((XT.ushr p1 (1 : Int32)) &&& (1431655765 : Int32))) &&& (858993459 : Int32)) + ((XT.ushr (p1 - ((XT.ushr p1 (1 : Int32)) &&& (1431655765 : Int32))) (2 : Int32)) &&& (858993459 : Int32))) (4 : Int32))) &&& (252645135 : Int32)))]))) (fun t ht => XT.iushr X0.here hx rfl (hb hby own_d2_38) rfl ht) ?_
  refine own_step (U' := (s₁.setTop (mkF m 40 #[.val (.int (((((p1 - ((XT.ushr p1 (1 : Int32)) &&& (1431655765 : Int32))) &&& (858993459 : Int32)) + ((XT.ushr (p1 - ((XT.ushr p1 (1 : Int32)) &&& (1431655765 : Int32))) (2 : Int32)) &&& (858993459 : Int32))) + (XT.ushr (((p1 - ((XT.ushr p1 (1 : Int32)) &&& (1431655765 : Int32))) &&& (858993459 : Int32)) + ((XT.ushr (p1 - ((XT.ushr p1 (1 : Int32)) &&& (1431655765 : Int32))) (2 : Int32)) &&& (858993459 : Int32))) (4 : Int32))) &&& (252645135 : Int32)))] [(.int ((((((p1 - ((XT.ushr p1 (1 : Int32)) &&& (1431655765 : Int32))) &&& (858993459 : Int32)) + ((XT.ushr (p1 - ((XT.ushr p1 (1 : Int32)) &&& (1431655765 : Int32))) (2 : Int32)) &&& (858993459 : Int32))) + (XT.ushr (((p1 - ((XT.ushr p1 (1 : Int32)) &&& (1431655765 : Int32))) &&& (858993459 : Int32)) + ((XT.ushr (p1 - ((XT.ushr p1 (1 : Int32)) &&& (1431655765 : Int32))) (2 : Int32)) &&& (858993459 : Int32))) (4 : Int32))) &&& (252645135 : Int32)) + (XT.ushr (((((p1 - ((XT.ushr p1 (1 : Int32)) &&& (1431655765 : Int32))) &&& (858993459 : Int32)) + ((XT.ushr (p1 - ((XT.ushr p1 (1 : Int32)) &&& (1431655765 : Int32))) (2 : Int32)) &&& (858993459 : Int32))) + (XT.ushr (((p1 - ((XT.ushr p1 (1 : Int32)) &&& (1431655765 : Int32))) &&& (858993459 : Int32)) + ((XT.ushr (p1 - ((XT.ushr p1 (1 : Int32)) &&& (1431655765 : Int32))) (2 : Int32)) &&& (858993459 : Int32))) (4 : Int32))) &&& (252645135 : Int32)) (8 : Int32))))]))) (fun t ht => XS.iadd X0.here hx rfl (hb hby own_d2_39) rfl ht) ?_
  refine own_step (U' := (s₁.setTop (mkF m 41 #[.val (.int ((((((p1 - ((XT.ushr p1 (1 : Int32)) &&& (1431655765 : Int32))) &&& (858993459 : Int32)) + ((XT.ushr (p1 - ((XT.ushr p1 (1 : Int32)) &&& (1431655765 : Int32))) (2 : Int32)) &&& (858993459 : Int32))) + (XT.ushr (((p1 - ((XT.ushr p1 (1 : Int32)) &&& (1431655765 : Int32))) &&& (858993459 : Int32)) + ((XT.ushr (p1 - ((XT.ushr p1 (1 : Int32)) &&& (1431655765 : Int32))) (2 : Int32)) &&& (858993459 : Int32))) (4 : Int32))) &&& (252645135 : Int32)) + (XT.ushr (((((p1 - ((XT.ushr p1 (1 : Int32)) &&& (1431655765 : Int32))) &&& (858993459 : Int32)) + ((XT.ushr (p1 - ((XT.ushr p1 (1 : Int32)) &&& (1431655765 : Int32))) (2 : Int32)) &&& (858993459 : Int32))) + (XT.ushr (((p1 - ((XT.ushr p1 (1 : Int32)) &&& (1431655765 : Int32))) &&& (858993459 : Int32)) + ((XT.ushr (p1 - ((XT.ushr p1 (1 : Int32)) &&& (1431655765 : Int32))) (2 : Int32)) &&& (858993459 : Int32))) (4 : Int32))) &&& (252645135 : Int32)) (8 : Int32))))] []))) (fun t ht => XS.istoreN X0.here hx rfl (hb hby own_d2_40) rfl (l' := #[.val (.int ((((((p1 - ((XT.ushr p1 (1 : Int32)) &&& (1431655765 : Int32))) &&& (858993459 : Int32)) + ((XT.ushr (p1 - ((XT.ushr p1 (1 : Int32)) &&& (1431655765 : Int32))) (2 : Int32)) &&& (858993459 : Int32))) + (XT.ushr (((p1 - ((XT.ushr p1 (1 : Int32)) &&& (1431655765 : Int32))) &&& (858993459 : Int32)) + ((XT.ushr (p1 - ((XT.ushr p1 (1 : Int32)) &&& (1431655765 : Int32))) (2 : Int32)) &&& (858993459 : Int32))) (4 : Int32))) &&& (252645135 : Int32)) + (XT.ushr (((((p1 - ((XT.ushr p1 (1 : Int32)) &&& (1431655765 : Int32))) &&& (858993459 : Int32)) + ((XT.ushr (p1 - ((XT.ushr p1 (1 : Int32)) &&& (1431655765 : Int32))) (2 : Int32)) &&& (858993459 : Int32))) + (XT.ushr (((p1 - ((XT.ushr p1 (1 : Int32)) &&& (1431655765 : Int32))) &&& (858993459 : Int32)) + ((XT.ushr (p1 - ((XT.ushr p1 (1 : Int32)) &&& (1431655765 : Int32))) (2 : Int32)) &&& (858993459 : Int32))) (4 : Int32))) &&& (252645135 : Int32)) (8 : Int32))))]) rfl ht) ?_
  refine own_step (U' := (s₁.setTop (mkF m 42 #[.val (.int ((((((p1 - ((XT.ushr p1 (1 : Int32)) &&& (1431655765 : Int32))) &&& (858993459 : Int32)) + ((XT.ushr (p1 - ((XT.ushr p1 (1 : Int32)) &&& (1431655765 : Int32))) (2 : Int32)) &&& (858993459 : Int32))) + (XT.ushr (((p1 - ((XT.ushr p1 (1 : Int32)) &&& (1431655765 : Int32))) &&& (858993459 : Int32)) + ((XT.ushr (p1 - ((XT.ushr p1 (1 : Int32)) &&& (1431655765 : Int32))) (2 : Int32)) &&& (858993459 : Int32))) (4 : Int32))) &&& (252645135 : Int32)) + (XT.ushr (((((p1 - ((XT.ushr p1 (1 : Int32)) &&& (1431655765 : Int32))) &&& (858993459 : Int32)) + ((XT.ushr (p1 - ((XT.ushr p1 (1 : Int32)) &&& (1431655765 : Int32))) (2 : Int32)) &&& (858993459 : Int32))) + (XT.ushr (((p1 - ((XT.ushr p1 (1 : Int32)) &&& (1431655765 : Int32))) &&& (858993459 : Int32)) + ((XT.ushr (p1 - ((XT.ushr p1 (1 : Int32)) &&& (1431655765 : Int32))) (2 : Int32)) &&& (858993459 : Int32))) (4 : Int32))) &&& (252645135 : Int32)) (8 : Int32))))] [(.int ((((((p1 - ((XT.ushr p1 (1 : Int32)) &&& (1431655765 : Int32))) &&& (858993459 : Int32)) + ((XT.ushr (p1 - ((XT.ushr p1 (1 : Int32)) &&& (1431655765 : Int32))) (2 : Int32)) &&& (858993459 : Int32))) + (XT.ushr (((p1 - ((XT.ushr p1 (1 : Int32)) &&& (1431655765 : Int32))) &&& (858993459 : Int32)) + ((XT.ushr (p1 - ((XT.ushr p1 (1 : Int32)) &&& (1431655765 : Int32))) (2 : Int32)) &&& (858993459 : Int32))) (4 : Int32))) &&& (252645135 : Int32)) + (XT.ushr (((((p1 - ((XT.ushr p1 (1 : Int32)) &&& (1431655765 : Int32))) &&& (858993459 : Int32)) + ((XT.ushr (p1 - ((XT.ushr p1 (1 : Int32)) &&& (1431655765 : Int32))) (2 : Int32)) &&& (858993459 : Int32))) + (XT.ushr (((p1 - ((XT.ushr p1 (1 : Int32)) &&& (1431655765 : Int32))) &&& (858993459 : Int32)) + ((XT.ushr (p1 - ((XT.ushr p1 (1 : Int32)) &&& (1431655765 : Int32))) (2 : Int32)) &&& (858993459 : Int32))) (4 : Int32))) &&& (252645135 : Int32)) (8 : Int32))))]))) (fun t ht => XS.iloadN X0.here hx rfl (hb hby own_d2_41) rfl ht) ?_
  refine own_step (U' := (s₁.setTop (mkF m 43 #[.val (.int ((((((p1 - ((XT.ushr p1 (1 : Int32)) &&& (1431655765 : Int32))) &&& (858993459 : Int32)) + ((XT.ushr (p1 - ((XT.ushr p1 (1 : Int32)) &&& (1431655765 : Int32))) (2 : Int32)) &&& (858993459 : Int32))) + (XT.ushr (((p1 - ((XT.ushr p1 (1 : Int32)) &&& (1431655765 : Int32))) &&& (858993459 : Int32)) + ((XT.ushr (p1 - ((XT.ushr p1 (1 : Int32)) &&& (1431655765 : Int32))) (2 : Int32)) &&& (858993459 : Int32))) (4 : Int32))) &&& (252645135 : Int32)) + (XT.ushr (((((p1 - ((XT.ushr p1 (1 : Int32)) &&& (1431655765 : Int32))) &&& (858993459 : Int32)) + ((XT.ushr (p1 - ((XT.ushr p1 (1 : Int32)) &&& (1431655765 : Int32))) (2 : Int32)) &&& (858993459 : Int32))) + (XT.ushr (((p1 - ((XT.ushr p1 (1 : Int32)) &&& (1431655765 : Int32))) &&& (858993459 : Int32)) + ((XT.ushr (p1 - ((XT.ushr p1 (1 : Int32)) &&& (1431655765 : Int32))) (2 : Int32)) &&& (858993459 : Int32))) (4 : Int32))) &&& (252645135 : Int32)) (8 : Int32))))] [(.int ((((((p1 - ((XT.ushr p1 (1 : Int32)) &&& (1431655765 : Int32))) &&& (858993459 : Int32)) + ((XT.ushr (p1 - ((XT.ushr p1 (1 : Int32)) &&& (1431655765 : Int32))) (2 : Int32)) &&& (858993459 : Int32))) + (XT.ushr (((p1 - ((XT.ushr p1 (1 : Int32)) &&& (1431655765 : Int32))) &&& (858993459 : Int32)) + ((XT.ushr (p1 - ((XT.ushr p1 (1 : Int32)) &&& (1431655765 : Int32))) (2 : Int32)) &&& (858993459 : Int32))) (4 : Int32))) &&& (252645135 : Int32)) + (XT.ushr (((((p1 - ((XT.ushr p1 (1 : Int32)) &&& (1431655765 : Int32))) &&& (858993459 : Int32)) + ((XT.ushr (p1 - ((XT.ushr p1 (1 : Int32)) &&& (1431655765 : Int32))) (2 : Int32)) &&& (858993459 : Int32))) + (XT.ushr (((p1 - ((XT.ushr p1 (1 : Int32)) &&& (1431655765 : Int32))) &&& (858993459 : Int32)) + ((XT.ushr (p1 - ((XT.ushr p1 (1 : Int32)) &&& (1431655765 : Int32))) (2 : Int32)) &&& (858993459 : Int32))) (4 : Int32))) &&& (252645135 : Int32)) (8 : Int32)))), (.int ((((((p1 - ((XT.ushr p1 (1 : Int32)) &&& (1431655765 : Int32))) &&& (858993459 : Int32)) + ((XT.ushr (p1 - ((XT.ushr p1 (1 : Int32)) &&& (1431655765 : Int32))) (2 : Int32)) &&& (858993459 : Int32))) + (XT.ushr (((p1 - ((XT.ushr p1 (1 : Int32)) &&& (1431655765 : Int32))) &&& (858993459 : Int32)) + ((XT.ushr (p1 - ((XT.ushr p1 (1 : Int32)) &&& (1431655765 : Int32))) (2 : Int32)) &&& (858993459 : Int32))) (4 : Int32))) &&& (252645135 : Int32)) + (XT.ushr (((((p1 - ((XT.ushr p1 (1 : Int32)) &&& (1431655765 : Int32))) &&& (858993459 : Int32)) + ((XT.ushr (p1 - ((XT.ushr p1 (1 : Int32)) &&& (1431655765 : Int32))) (2 : Int32)) &&& (858993459 : Int32))) + (XT.ushr (((p1 - ((XT.ushr p1 (1 : Int32)) &&& (1431655765 : Int32))) &&& (858993459 : Int32)) + ((XT.ushr (p1 - ((XT.ushr p1 (1 : Int32)) &&& (1431655765 : Int32))) (2 : Int32)) &&& (858993459 : Int32))) (4 : Int32))) &&& (252645135 : Int32)) (8 : Int32))))]))) (fun t ht => XS.iloadN X0.here hx rfl (hb hby own_d2_42) rfl ht) ?_
  refine own_step (U' := (s₁.setTop (mkF m 45 #[.val (.int ((((((p1 - ((XT.ushr p1 (1 : Int32)) &&& (1431655765 : Int32))) &&& (858993459 : Int32)) + ((XT.ushr (p1 - ((XT.ushr p1 (1 : Int32)) &&& (1431655765 : Int32))) (2 : Int32)) &&& (858993459 : Int32))) + (XT.ushr (((p1 - ((XT.ushr p1 (1 : Int32)) &&& (1431655765 : Int32))) &&& (858993459 : Int32)) + ((XT.ushr (p1 - ((XT.ushr p1 (1 : Int32)) &&& (1431655765 : Int32))) (2 : Int32)) &&& (858993459 : Int32))) (4 : Int32))) &&& (252645135 : Int32)) + (XT.ushr (((((p1 - ((XT.ushr p1 (1 : Int32)) &&& (1431655765 : Int32))) &&& (858993459 : Int32)) + ((XT.ushr (p1 - ((XT.ushr p1 (1 : Int32)) &&& (1431655765 : Int32))) (2 : Int32)) &&& (858993459 : Int32))) + (XT.ushr (((p1 - ((XT.ushr p1 (1 : Int32)) &&& (1431655765 : Int32))) &&& (858993459 : Int32)) + ((XT.ushr (p1 - ((XT.ushr p1 (1 : Int32)) &&& (1431655765 : Int32))) (2 : Int32)) &&& (858993459 : Int32))) (4 : Int32))) &&& (252645135 : Int32)) (8 : Int32))))] [(.int (16 : Int32)), (.int ((((((p1 - ((XT.ushr p1 (1 : Int32)) &&& (1431655765 : Int32))) &&& (858993459 : Int32)) + ((XT.ushr (p1 - ((XT.ushr p1 (1 : Int32)) &&& (1431655765 : Int32))) (2 : Int32)) &&& (858993459 : Int32))) + (XT.ushr (((p1 - ((XT.ushr p1 (1 : Int32)) &&& (1431655765 : Int32))) &&& (858993459 : Int32)) + ((XT.ushr (p1 - ((XT.ushr p1 (1 : Int32)) &&& (1431655765 : Int32))) (2 : Int32)) &&& (858993459 : Int32))) (4 : Int32))) &&& (252645135 : Int32)) + (XT.ushr (((((p1 - ((XT.ushr p1 (1 : Int32)) &&& (1431655765 : Int32))) &&& (858993459 : Int32)) + ((XT.ushr (p1 - ((XT.ushr p1 (1 : Int32)) &&& (1431655765 : Int32))) (2 : Int32)) &&& (858993459 : Int32))) + (XT.ushr (((p1 - ((XT.ushr p1 (1 : Int32)) &&& (1431655765 : Int32))) &&& (858993459 : Int32)) + ((XT.ushr (p1 - ((XT.ushr p1 (1 : Int32)) &&& (1431655765 : Int32))) (2 : Int32)) &&& (858993459 : Int32))) (4 : Int32))) &&& (252645135 : Int32)) (8 : Int32)))), (.int ((((((p1 - ((XT.ushr p1 (1 : Int32)) &&& (1431655765 : Int32))) &&& (858993459 : Int32)) + ((XT.ushr (p1 - ((XT.ushr p1 (1 : Int32)) &&& (1431655765 : Int32))) (2 : Int32)) &&& (858993459 : Int32))) + (XT.ushr (((p1 - ((XT.ushr p1 (1 : Int32)) &&& (1431655765 : Int32))) &&& (858993459 : Int32)) + ((XT.ushr (p1 - ((XT.ushr p1 (1 : Int32)) &&& (1431655765 : Int32))) (2 : Int32)) &&& (858993459 : Int32))) (4 : Int32))) &&& (252645135 : Int32)) + (XT.ushr (((((p1 - ((XT.ushr p1 (1 : Int32)) &&& (1431655765 : Int32))) &&& (858993459 : Int32)) + ((XT.ushr (p1 - ((XT.ushr p1 (1 : Int32)) &&& (1431655765 : Int32))) (2 : Int32)) &&& (858993459 : Int32))) + (XT.ushr (((p1 - ((XT.ushr p1 (1 : Int32)) &&& (1431655765 : Int32))) &&& (858993459 : Int32)) + ((XT.ushr (p1 - ((XT.ushr p1 (1 : Int32)) &&& (1431655765 : Int32))) (2 : Int32)) &&& (858993459 : Int32))) (4 : Int32))) &&& (252645135 : Int32)) (8 : Int32))))]))) (fun t ht => XS.bipush X0.here hx rfl (hb hby own_d2_43) ht) ?_
  refine own_step (U' := (s₁.setTop (mkF m 46 #[.val (.int ((((((p1 - ((XT.ushr p1 (1 : Int32)) &&& (1431655765 : Int32))) &&& (858993459 : Int32)) + ((XT.ushr (p1 - ((XT.ushr p1 (1 : Int32)) &&& (1431655765 : Int32))) (2 : Int32)) &&& (858993459 : Int32))) + (XT.ushr (((p1 - ((XT.ushr p1 (1 : Int32)) &&& (1431655765 : Int32))) &&& (858993459 : Int32)) + ((XT.ushr (p1 - ((XT.ushr p1 (1 : Int32)) &&& (1431655765 : Int32))) (2 : Int32)) &&& (858993459 : Int32))) (4 : Int32))) &&& (252645135 : Int32)) + (XT.ushr (((((p1 - ((XT.ushr p1 (1 : Int32)) &&& (1431655765 : Int32))) &&& (858993459 : Int32)) + ((XT.ushr (p1 - ((XT.ushr p1 (1 : Int32)) &&& (1431655765 : Int32))) (2 : Int32)) &&& (858993459 : Int32))) + (XT.ushr (((p1 - ((XT.ushr p1 (1 : Int32)) &&& (1431655765 : Int32))) &&& (858993459 : Int32)) + ((XT.ushr (p1 - ((XT.ushr p1 (1 : Int32)) &&& (1431655765 : Int32))) (2 : Int32)) &&& (858993459 : Int32))) (4 : Int32))) &&& (252645135 : Int32)) (8 : Int32))))] [(.int (XT.ushr ((((((p1 - ((XT.ushr p1 (1 : Int32)) &&& (1431655765 : Int32))) &&& (858993459 : Int32)) + ((XT.ushr (p1 - ((XT.ushr p1 (1 : Int32)) &&& (1431655765 : Int32))) (2 : Int32)) &&& (858993459 : Int32))) + (XT.ushr (((p1 - ((XT.ushr p1 (1 : Int32)) &&& (1431655765 : Int32))) &&& (858993459 : Int32)) + ((XT.ushr (p1 - ((XT.ushr p1 (1 : Int32)) &&& (1431655765 : Int32))) (2 : Int32)) &&& (858993459 : Int32))) (4 : Int32))) &&& (252645135 : Int32)) + (XT.ushr (((((p1 - ((XT.ushr p1 (1 : Int32)) &&& (1431655765 : Int32))) &&& (858993459 : Int32)) + ((XT.ushr (p1 - ((XT.ushr p1 (1 : Int32)) &&& (1431655765 : Int32))) (2 : Int32)) &&& (858993459 : Int32))) + (XT.ushr (((p1 - ((XT.ushr p1 (1 : Int32)) &&& (1431655765 : Int32))) &&& (858993459 : Int32)) + ((XT.ushr (p1 - ((XT.ushr p1 (1 : Int32)) &&& (1431655765 : Int32))) (2 : Int32)) &&& (858993459 : Int32))) (4 : Int32))) &&& (252645135 : Int32)) (8 : Int32))) (16 : Int32))), (.int ((((((p1 - ((XT.ushr p1 (1 : Int32)) &&& (1431655765 : Int32))) &&& (858993459 : Int32)) + ((XT.ushr (p1 - ((XT.ushr p1 (1 : Int32)) &&& (1431655765 : Int32))) (2 : Int32)) &&& (858993459 : Int32))) + (XT.ushr (((p1 - ((XT.ushr p1 (1 : Int32)) &&& (1431655765 : Int32))) &&& (858993459 : Int32)) + ((XT.ushr (p1 - ((XT.ushr p1 (1 : Int32)) &&& (1431655765 : Int32))) (2 : Int32)) &&& (858993459 : Int32))) (4 : Int32))) &&& (252645135 : Int32)) + (XT.ushr (((((p1 - ((XT.ushr p1 (1 : Int32)) &&& (1431655765 : Int32))) &&& (858993459 : Int32)) + ((XT.ushr (p1 - ((XT.ushr p1 (1 : Int32)) &&& (1431655765 : Int32))) (2 : Int32)) &&& (858993459 : Int32))) + (XT.ushr (((p1 - ((XT.ushr p1 (1 : Int32)) &&& (1431655765 : Int32))) &&& (858993459 : Int32)) + ((XT.ushr (p1 - ((XT.ushr p1 (1 : Int32)) &&& (1431655765 : Int32))) (2 : Int32)) &&& (858993459 : Int32))) (4 : Int32))) &&& (252645135 : Int32)) (8 : Int32))))]))) (fun t ht => XT.iushr X0.here hx rfl (hb hby own_d2_45) rfl ht) ?_
  refine own_step (U' := (s₁.setTop (mkF m 47 #[.val (.int ((((((p1 - ((XT.ushr p1 (1 : Int32)) &&& (1431655765 : Int32))) &&& (858993459 : Int32)) + ((XT.ushr (p1 - ((XT.ushr p1 (1 : Int32)) &&& (1431655765 : Int32))) (2 : Int32)) &&& (858993459 : Int32))) + (XT.ushr (((p1 - ((XT.ushr p1 (1 : Int32)) &&& (1431655765 : Int32))) &&& (858993459 : Int32)) + ((XT.ushr (p1 - ((XT.ushr p1 (1 : Int32)) &&& (1431655765 : Int32))) (2 : Int32)) &&& (858993459 : Int32))) (4 : Int32))) &&& (252645135 : Int32)) + (XT.ushr (((((p1 - ((XT.ushr p1 (1 : Int32)) &&& (1431655765 : Int32))) &&& (858993459 : Int32)) + ((XT.ushr (p1 - ((XT.ushr p1 (1 : Int32)) &&& (1431655765 : Int32))) (2 : Int32)) &&& (858993459 : Int32))) + (XT.ushr (((p1 - ((XT.ushr p1 (1 : Int32)) &&& (1431655765 : Int32))) &&& (858993459 : Int32)) + ((XT.ushr (p1 - ((XT.ushr p1 (1 : Int32)) &&& (1431655765 : Int32))) (2 : Int32)) &&& (858993459 : Int32))) (4 : Int32))) &&& (252645135 : Int32)) (8 : Int32))))] [(.int (((((((p1 - ((XT.ushr p1 (1 : Int32)) &&& (1431655765 : Int32))) &&& (858993459 : Int32)) + ((XT.ushr (p1 - ((XT.ushr p1 (1 : Int32)) &&& (1431655765 : Int32))) (2 : Int32)) &&& (858993459 : Int32))) + (XT.ushr (((p1 - ((XT.ushr p1 (1 : Int32)) &&& (1431655765 : Int32))) &&& (858993459 : Int32)) + ((XT.ushr (p1 - ((XT.ushr p1 (1 : Int32)) &&& (1431655765 : Int32))) (2 : Int32)) &&& (858993459 : Int32))) (4 : Int32))) &&& (252645135 : Int32)) + (XT.ushr (((((p1 - ((XT.ushr p1 (1 : Int32)) &&& (1431655765 : Int32))) &&& (858993459 : Int32)) + ((XT.ushr (p1 - ((XT.ushr p1 (1 : Int32)) &&& (1431655765 : Int32))) (2 : Int32)) &&& (858993459 : Int32))) + (XT.ushr (((p1 - ((XT.ushr p1 (1 : Int32)) &&& (1431655765 : Int32))) &&& (858993459 : Int32)) + ((XT.ushr (p1 - ((XT.ushr p1 (1 : Int32)) &&& (1431655765 : Int32))) (2 : Int32)) &&& (858993459 : Int32))) (4 : Int32))) &&& (252645135 : Int32)) (8 : Int32))) + (XT.ushr ((((((p1 - ((XT.ushr p1 (1 : Int32)) &&& (1431655765 : Int32))) &&& (858993459 : Int32)) + ((XT.ushr (p1 - ((XT.ushr p1 (1 : Int32)) &&& (1431655765 : Int32))) (2 : Int32)) &&& (858993459 : Int32))) + (XT.ushr (((p1 - ((XT.ushr p1 (1 : Int32)) &&& (1431655765 : Int32))) &&& (858993459 : Int32)) + ((XT.ushr (p1 - ((XT.ushr p1 (1 : Int32)) &&& (1431655765 : Int32))) (2 : Int32)) &&& (858993459 : Int32))) (4 : Int32))) &&& (252645135 : Int32)) + (XT.ushr (((((p1 - ((XT.ushr p1 (1 : Int32)) &&& (1431655765 : Int32))) &&& (858993459 : Int32)) + ((XT.ushr (p1 - ((XT.ushr p1 (1 : Int32)) &&& (1431655765 : Int32))) (2 : Int32)) &&& (858993459 : Int32))) + (XT.ushr (((p1 - ((XT.ushr p1 (1 : Int32)) &&& (1431655765 : Int32))) &&& (858993459 : Int32)) + ((XT.ushr (p1 - ((XT.ushr p1 (1 : Int32)) &&& (1431655765 : Int32))) (2 : Int32)) &&& (858993459 : Int32))) (4 : Int32))) &&& (252645135 : Int32)) (8 : Int32))) (16 : Int32))))]))) (fun t ht => XS.iadd X0.here hx rfl (hb hby own_d2_46) rfl ht) ?_
  refine own_step (U' := (s₁.setTop (mkF m 48 #[.val (.int (((((((p1 - ((XT.ushr p1 (1 : Int32)) &&& (1431655765 : Int32))) &&& (858993459 : Int32)) + ((XT.ushr (p1 - ((XT.ushr p1 (1 : Int32)) &&& (1431655765 : Int32))) (2 : Int32)) &&& (858993459 : Int32))) + (XT.ushr (((p1 - ((XT.ushr p1 (1 : Int32)) &&& (1431655765 : Int32))) &&& (858993459 : Int32)) + ((XT.ushr (p1 - ((XT.ushr p1 (1 : Int32)) &&& (1431655765 : Int32))) (2 : Int32)) &&& (858993459 : Int32))) (4 : Int32))) &&& (252645135 : Int32)) + (XT.ushr (((((p1 - ((XT.ushr p1 (1 : Int32)) &&& (1431655765 : Int32))) &&& (858993459 : Int32)) + ((XT.ushr (p1 - ((XT.ushr p1 (1 : Int32)) &&& (1431655765 : Int32))) (2 : Int32)) &&& (858993459 : Int32))) + (XT.ushr (((p1 - ((XT.ushr p1 (1 : Int32)) &&& (1431655765 : Int32))) &&& (858993459 : Int32)) + ((XT.ushr (p1 - ((XT.ushr p1 (1 : Int32)) &&& (1431655765 : Int32))) (2 : Int32)) &&& (858993459 : Int32))) (4 : Int32))) &&& (252645135 : Int32)) (8 : Int32))) + (XT.ushr ((((((p1 - ((XT.ushr p1 (1 : Int32)) &&& (1431655765 : Int32))) &&& (858993459 : Int32)) + ((XT.ushr (p1 - ((XT.ushr p1 (1 : Int32)) &&& (1431655765 : Int32))) (2 : Int32)) &&& (858993459 : Int32))) + (XT.ushr (((p1 - ((XT.ushr p1 (1 : Int32)) &&& (1431655765 : Int32))) &&& (858993459 : Int32)) + ((XT.ushr (p1 - ((XT.ushr p1 (1 : Int32)) &&& (1431655765 : Int32))) (2 : Int32)) &&& (858993459 : Int32))) (4 : Int32))) &&& (252645135 : Int32)) + (XT.ushr (((((p1 - ((XT.ushr p1 (1 : Int32)) &&& (1431655765 : Int32))) &&& (858993459 : Int32)) + ((XT.ushr (p1 - ((XT.ushr p1 (1 : Int32)) &&& (1431655765 : Int32))) (2 : Int32)) &&& (858993459 : Int32))) + (XT.ushr (((p1 - ((XT.ushr p1 (1 : Int32)) &&& (1431655765 : Int32))) &&& (858993459 : Int32)) + ((XT.ushr (p1 - ((XT.ushr p1 (1 : Int32)) &&& (1431655765 : Int32))) (2 : Int32)) &&& (858993459 : Int32))) (4 : Int32))) &&& (252645135 : Int32)) (8 : Int32))) (16 : Int32))))] []))) (fun t ht => XS.istoreN X0.here hx rfl (hb hby own_d2_47) rfl (l' := #[.val (.int (((((((p1 - ((XT.ushr p1 (1 : Int32)) &&& (1431655765 : Int32))) &&& (858993459 : Int32)) + ((XT.ushr (p1 - ((XT.ushr p1 (1 : Int32)) &&& (1431655765 : Int32))) (2 : Int32)) &&& (858993459 : Int32))) + (XT.ushr (((p1 - ((XT.ushr p1 (1 : Int32)) &&& (1431655765 : Int32))) &&& (858993459 : Int32)) + ((XT.ushr (p1 - ((XT.ushr p1 (1 : Int32)) &&& (1431655765 : Int32))) (2 : Int32)) &&& (858993459 : Int32))) (4 : Int32))) &&& (252645135 : Int32)) + (XT.ushr (((((p1 - ((XT.ushr p1 (1 : Int32)) &&& (1431655765 : Int32))) &&& (858993459 : Int32)) + ((XT.ushr (p1 - ((XT.ushr p1 (1 : Int32)) &&& (1431655765 : Int32))) (2 : Int32)) &&& (858993459 : Int32))) + (XT.ushr (((p1 - ((XT.ushr p1 (1 : Int32)) &&& (1431655765 : Int32))) &&& (858993459 : Int32)) + ((XT.ushr (p1 - ((XT.ushr p1 (1 : Int32)) &&& (1431655765 : Int32))) (2 : Int32)) &&& (858993459 : Int32))) (4 : Int32))) &&& (252645135 : Int32)) (8 : Int32))) + (XT.ushr ((((((p1 - ((XT.ushr p1 (1 : Int32)) &&& (1431655765 : Int32))) &&& (858993459 : Int32)) + ((XT.ushr (p1 - ((XT.ushr p1 (1 : Int32)) &&& (1431655765 : Int32))) (2 : Int32)) &&& (858993459 : Int32))) + (XT.ushr (((p1 - ((XT.ushr p1 (1 : Int32)) &&& (1431655765 : Int32))) &&& (858993459 : Int32)) + ((XT.ushr (p1 - ((XT.ushr p1 (1 : Int32)) &&& (1431655765 : Int32))) (2 : Int32)) &&& (858993459 : Int32))) (4 : Int32))) &&& (252645135 : Int32)) + (XT.ushr (((((p1 - ((XT.ushr p1 (1 : Int32)) &&& (1431655765 : Int32))) &&& (858993459 : Int32)) + ((XT.ushr (p1 - ((XT.ushr p1 (1 : Int32)) &&& (1431655765 : Int32))) (2 : Int32)) &&& (858993459 : Int32))) + (XT.ushr (((p1 - ((XT.ushr p1 (1 : Int32)) &&& (1431655765 : Int32))) &&& (858993459 : Int32)) + ((XT.ushr (p1 - ((XT.ushr p1 (1 : Int32)) &&& (1431655765 : Int32))) (2 : Int32)) &&& (858993459 : Int32))) (4 : Int32))) &&& (252645135 : Int32)) (8 : Int32))) (16 : Int32))))]) rfl ht) ?_
  refine own_step (U' := (s₁.setTop (mkF m 49 #[.val (.int (((((((p1 - ((XT.ushr p1 (1 : Int32)) &&& (1431655765 : Int32))) &&& (858993459 : Int32)) + ((XT.ushr (p1 - ((XT.ushr p1 (1 : Int32)) &&& (1431655765 : Int32))) (2 : Int32)) &&& (858993459 : Int32))) + (XT.ushr (((p1 - ((XT.ushr p1 (1 : Int32)) &&& (1431655765 : Int32))) &&& (858993459 : Int32)) + ((XT.ushr (p1 - ((XT.ushr p1 (1 : Int32)) &&& (1431655765 : Int32))) (2 : Int32)) &&& (858993459 : Int32))) (4 : Int32))) &&& (252645135 : Int32)) + (XT.ushr (((((p1 - ((XT.ushr p1 (1 : Int32)) &&& (1431655765 : Int32))) &&& (858993459 : Int32)) + ((XT.ushr (p1 - ((XT.ushr p1 (1 : Int32)) &&& (1431655765 : Int32))) (2 : Int32)) &&& (858993459 : Int32))) + (XT.ushr (((p1 - ((XT.ushr p1 (1 : Int32)) &&& (1431655765 : Int32))) &&& (858993459 : Int32)) + ((XT.ushr (p1 - ((XT.ushr p1 (1 : Int32)) &&& (1431655765 : Int32))) (2 : Int32)) &&& (858993459 : Int32))) (4 : Int32))) &&& (252645135 : Int32)) (8 : Int32))) + (XT.ushr ((((((p1 - ((XT.ushr p1 (1 : Int32)) &&& (1431655765 : Int32))) &&& (858993459 : Int32)) + ((XT.ushr (p1 - ((XT.ushr p1 (1 : Int32)) &&& (1431655765 : Int32))) (2 : Int32)) &&& (858993459 : Int32))) + (XT.ushr (((p1 - ((XT.ushr p1 (1 : Int32)) &&& (1431655765 : Int32))) &&& (858993459 : Int32)) + ((XT.ushr (p1 - ((XT.ushr p1 (1 : Int32)) &&& (1431655765 : Int32))) (2 : Int32)) &&& (858993459 : Int32))) (4 : Int32))) &&& (252645135 : Int32)) + (XT.ushr (((((p1 - ((XT.ushr p1 (1 : Int32)) &&& (1431655765 : Int32))) &&& (858993459 : Int32)) + ((XT.ushr (p1 - ((XT.ushr p1 (1 : Int32)) &&& (1431655765 : Int32))) (2 : Int32)) &&& (858993459 : Int32))) + (XT.ushr (((p1 - ((XT.ushr p1 (1 : Int32)) &&& (1431655765 : Int32))) &&& (858993459 : Int32)) + ((XT.ushr (p1 - ((XT.ushr p1 (1 : Int32)) &&& (1431655765 : Int32))) (2 : Int32)) &&& (858993459 : Int32))) (4 : Int32))) &&& (252645135 : Int32)) (8 : Int32))) (16 : Int32))))] [(.int (((((((p1 - ((XT.ushr p1 (1 : Int32)) &&& (1431655765 : Int32))) &&& (858993459 : Int32)) + ((XT.ushr (p1 - ((XT.ushr p1 (1 : Int32)) &&& (1431655765 : Int32))) (2 : Int32)) &&& (858993459 : Int32))) + (XT.ushr (((p1 - ((XT.ushr p1 (1 : Int32)) &&& (1431655765 : Int32))) &&& (858993459 : Int32)) + ((XT.ushr (p1 - ((XT.ushr p1 (1 : Int32)) &&& (1431655765 : Int32))) (2 : Int32)) &&& (858993459 : Int32))) (4 : Int32))) &&& (252645135 : Int32)) + (XT.ushr (((((p1 - ((XT.ushr p1 (1 : Int32)) &&& (1431655765 : Int32))) &&& (858993459 : Int32)) + ((XT.ushr (p1 - ((XT.ushr p1 (1 : Int32)) &&& (1431655765 : Int32))) (2 : Int32)) &&& (858993459 : Int32))) + (XT.ushr (((p1 - ((XT.ushr p1 (1 : Int32)) &&& (1431655765 : Int32))) &&& (858993459 : Int32)) + ((XT.ushr (p1 - ((XT.ushr p1 (1 : Int32)) &&& (1431655765 : Int32))) (2 : Int32)) &&& (858993459 : Int32))) (4 : Int32))) &&& (252645135 : Int32)) (8 : Int32))) + (XT.ushr ((((((p1 - ((XT.ushr p1 (1 : Int32)) &&& (1431655765 : Int32))) &&& (858993459 : Int32)) + ((XT.ushr (p1 - ((XT.ushr p1 (1 : Int32)) &&& (1431655765 : Int32))) (2 : Int32)) &&& (858993459 : Int32))) + (XT.ushr (((p1 - ((XT.ushr p1 (1 : Int32)) &&& (1431655765 : Int32))) &&& (858993459 : Int32)) + ((XT.ushr (p1 - ((XT.ushr p1 (1 : Int32)) &&& (1431655765 : Int32))) (2 : Int32)) &&& (858993459 : Int32))) (4 : Int32))) &&& (252645135 : Int32)) + (XT.ushr (((((p1 - ((XT.ushr p1 (1 : Int32)) &&& (1431655765 : Int32))) &&& (858993459 : Int32)) + ((XT.ushr (p1 - ((XT.ushr p1 (1 : Int32)) &&& (1431655765 : Int32))) (2 : Int32)) &&& (858993459 : Int32))) + (XT.ushr (((p1 - ((XT.ushr p1 (1 : Int32)) &&& (1431655765 : Int32))) &&& (858993459 : Int32)) + ((XT.ushr (p1 - ((XT.ushr p1 (1 : Int32)) &&& (1431655765 : Int32))) (2 : Int32)) &&& (858993459 : Int32))) (4 : Int32))) &&& (252645135 : Int32)) (8 : Int32))) (16 : Int32))))]))) (fun t ht => XS.iloadN X0.here hx rfl (hb hby own_d2_48) rfl ht) ?_
  refine own_step (U' := (s₁.setTop (mkF m 51 #[.val (.int (((((((p1 - ((XT.ushr p1 (1 : Int32)) &&& (1431655765 : Int32))) &&& (858993459 : Int32)) + ((XT.ushr (p1 - ((XT.ushr p1 (1 : Int32)) &&& (1431655765 : Int32))) (2 : Int32)) &&& (858993459 : Int32))) + (XT.ushr (((p1 - ((XT.ushr p1 (1 : Int32)) &&& (1431655765 : Int32))) &&& (858993459 : Int32)) + ((XT.ushr (p1 - ((XT.ushr p1 (1 : Int32)) &&& (1431655765 : Int32))) (2 : Int32)) &&& (858993459 : Int32))) (4 : Int32))) &&& (252645135 : Int32)) + (XT.ushr (((((p1 - ((XT.ushr p1 (1 : Int32)) &&& (1431655765 : Int32))) &&& (858993459 : Int32)) + ((XT.ushr (p1 - ((XT.ushr p1 (1 : Int32)) &&& (1431655765 : Int32))) (2 : Int32)) &&& (858993459 : Int32))) + (XT.ushr (((p1 - ((XT.ushr p1 (1 : Int32)) &&& (1431655765 : Int32))) &&& (858993459 : Int32)) + ((XT.ushr (p1 - ((XT.ushr p1 (1 : Int32)) &&& (1431655765 : Int32))) (2 : Int32)) &&& (858993459 : Int32))) (4 : Int32))) &&& (252645135 : Int32)) (8 : Int32))) + (XT.ushr ((((((p1 - ((XT.ushr p1 (1 : Int32)) &&& (1431655765 : Int32))) &&& (858993459 : Int32)) + ((XT.ushr (p1 - ((XT.ushr p1 (1 : Int32)) &&& (1431655765 : Int32))) (2 : Int32)) &&& (858993459 : Int32))) + (XT.ushr (((p1 - ((XT.ushr p1 (1 : Int32)) &&& (1431655765 : Int32))) &&& (858993459 : Int32)) + ((XT.ushr (p1 - ((XT.ushr p1 (1 : Int32)) &&& (1431655765 : Int32))) (2 : Int32)) &&& (858993459 : Int32))) (4 : Int32))) &&& (252645135 : Int32)) + (XT.ushr (((((p1 - ((XT.ushr p1 (1 : Int32)) &&& (1431655765 : Int32))) &&& (858993459 : Int32)) + ((XT.ushr (p1 - ((XT.ushr p1 (1 : Int32)) &&& (1431655765 : Int32))) (2 : Int32)) &&& (858993459 : Int32))) + (XT.ushr (((p1 - ((XT.ushr p1 (1 : Int32)) &&& (1431655765 : Int32))) &&& (858993459 : Int32)) + ((XT.ushr (p1 - ((XT.ushr p1 (1 : Int32)) &&& (1431655765 : Int32))) (2 : Int32)) &&& (858993459 : Int32))) (4 : Int32))) &&& (252645135 : Int32)) (8 : Int32))) (16 : Int32))))] [(.int (63 : Int32)), (.int (((((((p1 - ((XT.ushr p1 (1 : Int32)) &&& (1431655765 : Int32))) &&& (858993459 : Int32)) + ((XT.ushr (p1 - ((XT.ushr p1 (1 : Int32)) &&& (1431655765 : Int32))) (2 : Int32)) &&& (858993459 : Int32))) + (XT.ushr (((p1 - ((XT.ushr p1 (1 : Int32)) &&& (1431655765 : Int32))) &&& (858993459 : Int32)) + ((XT.ushr (p1 - ((XT.ushr p1 (1 : Int32)) &&& (1431655765 : Int32))) (2 : Int32)) &&& (858993459 : Int32))) (4 : Int32))) &&& (252645135 : Int32)) + (XT.ushr (((((p1 - ((XT.ushr p1 (1 : Int32)) &&& (1431655765 : Int32))) &&& (858993459 : Int32)) + ((XT.ushr (p1 - ((XT.ushr p1 (1 : Int32)) &&& (1431655765 : Int32))) (2 : Int32)) &&& (858993459 : Int32))) + (XT.ushr (((p1 - ((XT.ushr p1 (1 : Int32)) &&& (1431655765 : Int32))) &&& (858993459 : Int32)) + ((XT.ushr (p1 - ((XT.ushr p1 (1 : Int32)) &&& (1431655765 : Int32))) (2 : Int32)) &&& (858993459 : Int32))) (4 : Int32))) &&& (252645135 : Int32)) (8 : Int32))) + (XT.ushr ((((((p1 - ((XT.ushr p1 (1 : Int32)) &&& (1431655765 : Int32))) &&& (858993459 : Int32)) + ((XT.ushr (p1 - ((XT.ushr p1 (1 : Int32)) &&& (1431655765 : Int32))) (2 : Int32)) &&& (858993459 : Int32))) + (XT.ushr (((p1 - ((XT.ushr p1 (1 : Int32)) &&& (1431655765 : Int32))) &&& (858993459 : Int32)) + ((XT.ushr (p1 - ((XT.ushr p1 (1 : Int32)) &&& (1431655765 : Int32))) (2 : Int32)) &&& (858993459 : Int32))) (4 : Int32))) &&& (252645135 : Int32)) + (XT.ushr (((((p1 - ((XT.ushr p1 (1 : Int32)) &&& (1431655765 : Int32))) &&& (858993459 : Int32)) + ((XT.ushr (p1 - ((XT.ushr p1 (1 : Int32)) &&& (1431655765 : Int32))) (2 : Int32)) &&& (858993459 : Int32))) + (XT.ushr (((p1 - ((XT.ushr p1 (1 : Int32)) &&& (1431655765 : Int32))) &&& (858993459 : Int32)) + ((XT.ushr (p1 - ((XT.ushr p1 (1 : Int32)) &&& (1431655765 : Int32))) (2 : Int32)) &&& (858993459 : Int32))) (4 : Int32))) &&& (252645135 : Int32)) (8 : Int32))) (16 : Int32))))]))) (fun t ht => XS.bipush X0.here hx rfl (hb hby own_d2_49) ht) ?_
  refine own_step (U' := (s₁.setTop (mkF m 52 #[.val (.int (((((((p1 - ((XT.ushr p1 (1 : Int32)) &&& (1431655765 : Int32))) &&& (858993459 : Int32)) + ((XT.ushr (p1 - ((XT.ushr p1 (1 : Int32)) &&& (1431655765 : Int32))) (2 : Int32)) &&& (858993459 : Int32))) + (XT.ushr (((p1 - ((XT.ushr p1 (1 : Int32)) &&& (1431655765 : Int32))) &&& (858993459 : Int32)) + ((XT.ushr (p1 - ((XT.ushr p1 (1 : Int32)) &&& (1431655765 : Int32))) (2 : Int32)) &&& (858993459 : Int32))) (4 : Int32))) &&& (252645135 : Int32)) + (XT.ushr (((((p1 - ((XT.ushr p1 (1 : Int32)) &&& (1431655765 : Int32))) &&& (858993459 : Int32)) + ((XT.ushr (p1 - ((XT.ushr p1 (1 : Int32)) &&& (1431655765 : Int32))) (2 : Int32)) &&& (858993459 : Int32))) + (XT.ushr (((p1 - ((XT.ushr p1 (1 : Int32)) &&& (1431655765 : Int32))) &&& (858993459 : Int32)) + ((XT.ushr (p1 - ((XT.ushr p1 (1 : Int32)) &&& (1431655765 : Int32))) (2 : Int32)) &&& (858993459 : Int32))) (4 : Int32))) &&& (252645135 : Int32)) (8 : Int32))) + (XT.ushr ((((((p1 - ((XT.ushr p1 (1 : Int32)) &&& (1431655765 : Int32))) &&& (858993459 : Int32)) + ((XT.ushr (p1 - ((XT.ushr p1 (1 : Int32)) &&& (1431655765 : Int32))) (2 : Int32)) &&& (858993459 : Int32))) + (XT.ushr (((p1 - ((XT.ushr p1 (1 : Int32)) &&& (1431655765 : Int32))) &&& (858993459 : Int32)) + ((XT.ushr (p1 - ((XT.ushr p1 (1 : Int32)) &&& (1431655765 : Int32))) (2 : Int32)) &&& (858993459 : Int32))) (4 : Int32))) &&& (252645135 : Int32)) + (XT.ushr (((((p1 - ((XT.ushr p1 (1 : Int32)) &&& (1431655765 : Int32))) &&& (858993459 : Int32)) + ((XT.ushr (p1 - ((XT.ushr p1 (1 : Int32)) &&& (1431655765 : Int32))) (2 : Int32)) &&& (858993459 : Int32))) + (XT.ushr (((p1 - ((XT.ushr p1 (1 : Int32)) &&& (1431655765 : Int32))) &&& (858993459 : Int32)) + ((XT.ushr (p1 - ((XT.ushr p1 (1 : Int32)) &&& (1431655765 : Int32))) (2 : Int32)) &&& (858993459 : Int32))) (4 : Int32))) &&& (252645135 : Int32)) (8 : Int32))) (16 : Int32))))] [(.int ((((((((p1 - ((XT.ushr p1 (1 : Int32)) &&& (1431655765 : Int32))) &&& (858993459 : Int32)) + ((XT.ushr (p1 - ((XT.ushr p1 (1 : Int32)) &&& (1431655765 : Int32))) (2 : Int32)) &&& (858993459 : Int32))) + (XT.ushr (((p1 - ((XT.ushr p1 (1 : Int32)) &&& (1431655765 : Int32))) &&& (858993459 : Int32)) + ((XT.ushr (p1 - ((XT.ushr p1 (1 : Int32)) &&& (1431655765 : Int32))) (2 : Int32)) &&& (858993459 : Int32))) (4 : Int32))) &&& (252645135 : Int32)) + (XT.ushr (((((p1 - ((XT.ushr p1 (1 : Int32)) &&& (1431655765 : Int32))) &&& (858993459 : Int32)) + ((XT.ushr (p1 - ((XT.ushr p1 (1 : Int32)) &&& (1431655765 : Int32))) (2 : Int32)) &&& (858993459 : Int32))) + (XT.ushr (((p1 - ((XT.ushr p1 (1 : Int32)) &&& (1431655765 : Int32))) &&& (858993459 : Int32)) + ((XT.ushr (p1 - ((XT.ushr p1 (1 : Int32)) &&& (1431655765 : Int32))) (2 : Int32)) &&& (858993459 : Int32))) (4 : Int32))) &&& (252645135 : Int32)) (8 : Int32))) + (XT.ushr ((((((p1 - ((XT.ushr p1 (1 : Int32)) &&& (1431655765 : Int32))) &&& (858993459 : Int32)) + ((XT.ushr (p1 - ((XT.ushr p1 (1 : Int32)) &&& (1431655765 : Int32))) (2 : Int32)) &&& (858993459 : Int32))) + (XT.ushr (((p1 - ((XT.ushr p1 (1 : Int32)) &&& (1431655765 : Int32))) &&& (858993459 : Int32)) + ((XT.ushr (p1 - ((XT.ushr p1 (1 : Int32)) &&& (1431655765 : Int32))) (2 : Int32)) &&& (858993459 : Int32))) (4 : Int32))) &&& (252645135 : Int32)) + (XT.ushr (((((p1 - ((XT.ushr p1 (1 : Int32)) &&& (1431655765 : Int32))) &&& (858993459 : Int32)) + ((XT.ushr (p1 - ((XT.ushr p1 (1 : Int32)) &&& (1431655765 : Int32))) (2 : Int32)) &&& (858993459 : Int32))) + (XT.ushr (((p1 - ((XT.ushr p1 (1 : Int32)) &&& (1431655765 : Int32))) &&& (858993459 : Int32)) + ((XT.ushr (p1 - ((XT.ushr p1 (1 : Int32)) &&& (1431655765 : Int32))) (2 : Int32)) &&& (858993459 : Int32))) (4 : Int32))) &&& (252645135 : Int32)) (8 : Int32))) (16 : Int32))) &&& (63 : Int32)))]))) (fun t ht => XS.iand X0.here hx rfl (hb hby own_d2_51) rfl ht) ?_
  refine own_ret X0 (v := (some (.int ((((((((p1 - ((XT.ushr p1 (1 : Int32)) &&& (1431655765 : Int32))) &&& (858993459 : Int32)) + ((XT.ushr (p1 - ((XT.ushr p1 (1 : Int32)) &&& (1431655765 : Int32))) (2 : Int32)) &&& (858993459 : Int32))) + (XT.ushr (((p1 - ((XT.ushr p1 (1 : Int32)) &&& (1431655765 : Int32))) &&& (858993459 : Int32)) + ((XT.ushr (p1 - ((XT.ushr p1 (1 : Int32)) &&& (1431655765 : Int32))) (2 : Int32)) &&& (858993459 : Int32))) (4 : Int32))) &&& (252645135 : Int32)) + (XT.ushr (((((p1 - ((XT.ushr p1 (1 : Int32)) &&& (1431655765 : Int32))) &&& (858993459 : Int32)) + ((XT.ushr (p1 - ((XT.ushr p1 (1 : Int32)) &&& (1431655765 : Int32))) (2 : Int32)) &&& (858993459 : Int32))) + (XT.ushr (((p1 - ((XT.ushr p1 (1 : Int32)) &&& (1431655765 : Int32))) &&& (858993459 : Int32)) + ((XT.ushr (p1 - ((XT.ushr p1 (1 : Int32)) &&& (1431655765 : Int32))) (2 : Int32)) &&& (858993459 : Int32))) (4 : Int32))) &&& (252645135 : Int32)) (8 : Int32))) + (XT.ushr ((((((p1 - ((XT.ushr p1 (1 : Int32)) &&& (1431655765 : Int32))) &&& (858993459 : Int32)) + ((XT.ushr (p1 - ((XT.ushr p1 (1 : Int32)) &&& (1431655765 : Int32))) (2 : Int32)) &&& (858993459 : Int32))) + (XT.ushr (((p1 - ((XT.ushr p1 (1 : Int32)) &&& (1431655765 : Int32))) &&& (858993459 : Int32)) + ((XT.ushr (p1 - ((XT.ushr p1 (1 : Int32)) &&& (1431655765 : Int32))) (2 : Int32)) &&& (858993459 : Int32))) (4 : Int32))) &&& (252645135 : Int32)) + (XT.ushr (((((p1 - ((XT.ushr p1 (1 : Int32)) &&& (1431655765 : Int32))) &&& (858993459 : Int32)) + ((XT.ushr (p1 - ((XT.ushr p1 (1 : Int32)) &&& (1431655765 : Int32))) (2 : Int32)) &&& (858993459 : Int32))) + (XT.ushr (((p1 - ((XT.ushr p1 (1 : Int32)) &&& (1431655765 : Int32))) &&& (858993459 : Int32)) + ((XT.ushr (p1 - ((XT.ushr p1 (1 : Int32)) &&& (1431655765 : Int32))) (2 : Int32)) &&& (858993459 : Int32))) (4 : Int32))) &&& (252645135 : Int32)) (8 : Int32))) (16 : Int32))) &&& (63 : Int32))))) (fun h => by rw [Bd.returns] at h; cases h) Bd.notSynchronized (by decide) (by decide) ?_ (fun fs hr => retI X0 hx Bd.returns (hb hby own_d2_52) hr)
  show own_Q_bc Z p1 h0 n0 _ s₁.heap _
  rw [e0]
  refine ⟨?_, N0, rfl⟩
  rfl
theorem own_pn1 : plainName "com/example/bitmend/bitmend/code/HammingCode" = true := by first | (simp [plainName, overriddenIn]; done) | decide +kernel
theorem own_pd0 : parseMethodDescriptor "(I)I" = some ⟨[.int], some .int⟩ := by decide +kernel
theorem own_d1_0 : decode prog_9_method_42_code 0 = .ok (.iload_n 0, 1) := by decide +kernel
theorem own_d1_1 : decode prog_9_method_42_code 1 = .ok (.ifCond .le 15, 3) := by decide +kernel
theorem own_d1_4 : decode prog_9_method_42_code 4 = .ok (.iload_n 0, 1) := by decide +kernel
theorem own_d1_5 : decode prog_9_method_42_code 5 = .ok (.invokestatic 357, 3) := by decide +kernel
theorem own_d1_8 : decode prog_9_method_42_code 8 = .ok (.iconst 1, 1) := by decide +kernel
theorem own_d1_9 : decode prog_9_method_42_code 9 = .ok (.if_icmp .ne 7, 3) := by decide +kernel
theorem own_d1_12 : decode prog_9_method_42_code 12 = .ok (.iconst 1, 1) := by decide +kernel
theorem own_d1_13 : decode prog_9_method_42_code 13 = .ok (.goto 4, 3) := by decide +kernel
theorem own_d1_16 : decode prog_9_method_42_code 16 = .ok (.iconst 0, 1) := by decide +kernel
theorem own_d1_17 : decode prog_9_method_42_code 17 = .ok (.ireturn, 1) := by decide +kernel
def own_Q_icp (Z : State) (p1 : Int32) (h0 : Heap) (n0 : Nat) (v : Option Value) (h : Heap) (L : List Loc) : Prop := v = some (.int (own_icp p1)) ∧ Fr n0 L ∧ h = h0
set_option maxRecDepth 65536 in
set_option maxHeartbeats 40000000 in
theorem own_m_icp (l : Launch) (Z : State) (a0 : Array Value) (hw : ∀ d ∈ tables_1, d.before a0 Z = true) (ws : List Jvm.Cond) (p1 : Int32) (h0 : Heap) (n0 : Nat) (Z0 : n0 ≤ h0.size)  :
    MetFree l (⟨"com/example/bitmend/bitmend/code/HammingCode", "isCheckPosition", "(I)Z"⟩ : MethodName) (head1 (Jvm.Cond.code (⟨"com/example/bitmend/bitmend/code/HammingCode", "isCheckPosition", "(I)Z"⟩ : MethodName) prog_9_method_42_code 1 (some .boolean) :: ws) ({ frames := 1, cells := 0, slots := 0, locals := 12 } : Room)) (fun a U => a = #[(.int p1)] ∧ Z.Warmed39 U.vm ∧ U.heap = h0) (fun _ _ _ _ _ => True) (fun _ U o U' => ∃ v L, o = .returned v ∧ own_Q_icp Z p1 h0 n0 v U'.heap L ∧ FrameEnd U o U' L ({ frames := 1, cells := 0, slots := 0, locals := 12 } : Room).cells ({ frames := 1, cells := 0, slots := 0, locals := 12 } : Room).slots) := by
  refine MetFree.of_bodySF (plainFor_of_name own_pn1) hisR ?_
  intro p e s m args below meth c s₁ Bd hml0 hP hK
  obtain ⟨rfl, hZ, hh⟩ := hP
  have hx := Bd.exec
  have hby := Bd.bytes
  have hml : c.maxLocals = 1 := hml0
  have hown : s.vm.findClass "com/example/bitmend/bitmend/code/HammingCode" = some m.cls := findClass_of_methodNamed Bd.named
  have hnm := (name_of_methodNamed Bd.named Bd.method).1
  have X0 : Stand p l e ({ frames := 1, cells := 0, slots := 0, locals := 12 } : Room) s m #[(.int p1)] below meth c s₁ [] 0 0 := Stand.of_body Bd
  have e0 : s₁.heap = h0 := by rw [← hh, Bd.state]; rfl
  have N0 := Fr.nil n0
  have K0 : Keep h0 h0 [] := Keep.refl _ _
  show own_Go p e below s ({ frames := 1, cells := 0, slots := 0, locals := 12 } : Room).cells ({ frames := 1, cells := 0, slots := 0, locals := 12 } : Room).slots (own_Q_icp Z p1 h0 n0) (s₁.setTop (entryFrame m #[(.int p1)] 1))
  have ef : entryFrame m #[(.int p1)] 1 = (mkF m 0 #[.val (.int p1)] []) := by first | rfl | (simp [entryFrame, mkF, argsToLocals, Value.category, maxLocals]; done)
  rw [ef]
  show own_Go p e below s _ _ _ (s₁.setTop (mkF m 0 #[.val (.int p1)] []))
  refine own_step (U' := (s₁.setTop (mkF m 1 #[.val (.int p1)] [(.int p1)]))) (fun t ht => XS.iloadN X0.here hx rfl (hb hby own_d1_0) rfl ht) ?_
  by_cases hc1_1 : 0 < p1
  ·
    refine own_step (U' := (s₁.setTop (mkF m 4 #[.val (.int p1)] []))) (fun t ht => XS.ifNo X0.here hx rfl (hb hby own_d1_1) rfl (XT.i0_le_f hc1_1) ht) ?_
    refine own_step (U' := (s₁.setTop (mkF m 5 #[.val (.int p1)] [(.int p1)]))) (fun t ht => XS.iloadN X0.here hx rfl (hb hby own_d1_4) rfl ht) ?_
    obtain ⟨_, _, ⟨T2, L2, k2, n2⟩, -, X2, ⟨Lc2, hQ2, l2, y2, z2⟩, st2⟩ := Jvm.LawKit.callS X0 hx (y := (⟨"java/lang/Integer", "bitCount", "(I)I"⟩ : MethodName)) hown (mvT hZ (hw _ (List.mem_of_getElem? (i := 4) rfl))) (mvT hZ (hw _ (List.mem_of_getElem? (i := 5) rfl))) (mvT hZ (hw _ (List.mem_of_getElem? (i := 6) rfl))) (mvT hZ (hw _ (List.mem_of_getElem? (i := 7) rfl))) (by decide) (backOf (W := 0) (own_m_bc l Z a0 hw [] (p1) h0 n0 Z0 ) hZ (hw _ (List.mem_of_getElem? (i := 7) rfl)) (hw _ (List.mem_of_getElem? (i := 6) rfl)) (by decide) (by decide)) (g := (mkF m 5 #[.val (.int p1)] [(.int p1)])) rfl (by rw [hml]; rfl) (argsL := [(.int p1)]) (rest := []) (lenOf own_pd0 rfl) rfl (by show 2 * 0 + _ ≤ _; exact Nat.le_of_eq rfl) (hb hby own_d1_5) (fun _ _ => ⟨rfl, e0, (by decide : 0 + 0 ≤ _), (by decide : 0 + 0 ≤ _)⟩)
    dsimp only [Pt.U, Pt.locs, Pt.cells, Pt.slots] at X2 l2 y2 z2 st2 hQ2
    subst l2 y2 z2
    obtain ⟨rfl, Nq2, Kq2⟩ := hQ2
    have N2 := Fr.app N0 Nq2
    have e2 : T2.heap = h0 := Kq2
    refine own_step (U' := (T2.setTop (mkF m 8 #[.val (.int p1)] [(.int (own_bc p1))]))) (fun t ht => st2 _ ht) ?_
    refine own_step (U' := (T2.setTop (mkF m 9 #[.val (.int p1)] [(.int (1 : Int32)), (.int (own_bc p1))]))) (fun t ht => XS.iconst X2.here hx rfl (hb hby own_d1_8) ht) ?_
    by_cases hc9_3 : (own_bc p1) = (1 : Int32)
    ·
      refine own_step (U' := (T2.setTop (mkF m 12 #[.val (.int p1)] []))) (fun t ht => XS.icmpNo X2.here hx rfl (hb hby own_d1_9) rfl (XT.ii_ne_f hc9_3) ht) ?_
      refine own_step (U' := (T2.setTop (mkF m 13 #[.val (.int p1)] [(.int (1 : Int32))]))) (fun t ht => XS.iconst X2.here hx rfl (hb hby own_d1_12) ht) ?_
      refine own_step (U' := (T2.setTop (mkF m 17 #[.val (.int p1)] [(.int (1 : Int32))]))) (fun t ht => XS.goto X2.here hx rfl (pc0 := 13) (pc' := 17) rfl (hb hby own_d1_13) (by decide) (by decide) ht) ?_
      refine own_ret X2 (v := (some (.int (nar .boolean (1 : Int32))))) (fun h => by rw [Bd.returns] at h; cases h) Bd.notSynchronized (by decide) (by decide) ?_ (fun fs hr => retN X2 hx (t := .boolean) Bd.returns (by simp) (hb hby own_d1_17) hr)
      show own_Q_icp Z p1 h0 n0 _ T2.heap _
      rw [e2]
      refine ⟨?_, N2, rfl⟩
      simp [own_icp, nar, hc1_1, hc9_3]
    ·
      refine own_step (U' := (T2.setTop (mkF m 16 #[.val (.int p1)] []))) (fun t ht => XS.icmpYes X2.here hx rfl (pc0 := 9) (pc' := 16) rfl (hb hby own_d1_9) rfl (XT.ii_ne_t hc9_3) (by decide) (by decide) ht) ?_
      refine own_step (U' := (T2.setTop (mkF m 17 #[.val (.int p1)] [(.int (0 : Int32))]))) (fun t ht => XS.iconst X2.here hx rfl (hb hby own_d1_16) ht) ?_
      refine own_ret X2 (v := (some (.int (nar .boolean (0 : Int32))))) (fun h => by rw [Bd.returns] at h; cases h) Bd.notSynchronized (by decide) (by decide) ?_ (fun fs hr => retN X2 hx (t := .boolean) Bd.returns (by simp) (hb hby own_d1_17) hr)
      show own_Q_icp Z p1 h0 n0 _ T2.heap _
      rw [e2]
      refine ⟨?_, N2, rfl⟩
      simp [own_icp, nar, hc1_1, hc9_3]
  ·
    refine own_step (U' := (s₁.setTop (mkF m 16 #[.val (.int p1)] []))) (fun t ht => XS.ifYes X0.here hx rfl (pc0 := 1) (pc' := 16) rfl (hb hby own_d1_1) rfl (XT.i0_le_t hc1_1) (by decide) (by decide) ht) ?_
    refine own_step (U' := (s₁.setTop (mkF m 17 #[.val (.int p1)] [(.int (0 : Int32))]))) (fun t ht => XS.iconst X0.here hx rfl (hb hby own_d1_16) ht) ?_
    refine own_ret X0 (v := (some (.int (nar .boolean (0 : Int32))))) (fun h => by rw [Bd.returns] at h; cases h) Bd.notSynchronized (by decide) (by decide) ?_ (fun fs hr => retN X0 hx (t := .boolean) Bd.returns (by simp) (hb hby own_d1_17) hr)
    show own_Q_icp Z p1 h0 n0 _ s₁.heap _
    rw [e0]
    refine ⟨?_, N0, rfl⟩
    simp [own_icp, nar, hc1_1]
theorem own_pn2 : plainName "com/example/bitmend/bitmend/code/HammingCodeIsCheckPositionPinLaw" = true := by first | (simp [plainName, overriddenIn]; done) | decide +kernel
theorem own_pd1 : parseMethodDescriptor "(I)Z" = some ⟨[.int], some .boolean⟩ := by decide +kernel
def own_Q_law (Z : State) (p1 : Int32) (p2 : Int32) (p3 : Int32) (h0 : Heap) (n0 : Nat) (v : Option Value) (h : Heap) (L : List Loc) : Prop := v = some (.int 1) ∧ Fr n0 L
set_option maxRecDepth 65536 in
set_option maxHeartbeats 40000000 in
theorem own_m_law (l : Launch) (Z : State) (a0 : Array Value) (hw : ∀ d ∈ tables_1, d.before a0 Z = true) (ws : List Jvm.Cond) (p1 : Int32) (p2 : Int32) (p3 : Int32) (h0 : Heap) (n0 : Nat) (Z0 : n0 ≤ h0.size)  :
    MetFree l x (head1 (Jvm.Cond.code x code maxLocals ret :: ws) room_1) (fun a U => a = #[(.int p1), (.int p2), (.int p3)] ∧ Z.Warmed39 U.vm ∧ U.heap = h0) (fun _ _ _ _ _ => True) (fun _ U o U' => ∃ v L, o = .returned v ∧ own_Q_law Z p1 p2 p3 h0 n0 v U'.heap L ∧ FrameEnd U o U' L 0 0) := by
  refine MetFree.of_bodySF (plainFor_of_name own_pn2) hisR ?_
  intro p e s m args below meth c s₁ Bd hml0 hP hK
  obtain ⟨rfl, hZ, hh⟩ := hP
  have hx := Bd.exec
  have hby := Bd.bytes
  have hml : c.maxLocals = 7 := hml0
  have hown : s.vm.findClass "com/example/bitmend/bitmend/code/HammingCodeIsCheckPositionPinLaw" = some m.cls := findClass_of_methodNamed Bd.named
  have hnm := (name_of_methodNamed Bd.named Bd.method).1
  have X0 : Stand p l e room_1 s m #[(.int p1), (.int p2), (.int p3)] below meth c s₁ [] 0 0 := Stand.of_body Bd
  have e0 : s₁.heap = h0 := by rw [← hh, Bd.state]; rfl
  have N0 := Fr.nil n0
  have K0 : Keep h0 h0 [] := Keep.refl _ _
  show own_Go p e below s 0 0 (own_Q_law Z p1 p2 p3 h0 n0) (s₁.setTop (entryFrame m #[(.int p1), (.int p2), (.int p3)] maxLocals))
  have ef : entryFrame m #[(.int p1), (.int p2), (.int p3)] maxLocals = (mkF m 0 #[.val (.int p1), .val (.int p2), .val (.int p3), .unset, .unset, .unset, .unset] []) := by first | rfl | (simp [entryFrame, mkF, argsToLocals, Value.category, maxLocals]; done)
  rw [ef]
  show own_Go p e below s _ _ _ (s₁.setTop (mkF m 0 #[.val (.int p1), .val (.int p2), .val (.int p3), .unset, .unset, .unset, .unset] []))
  have tail116 : ∀ (kk : Int32) (mm : Int32) (pp : Int32) (ex : Int32) (hpe : own_icp pp = ex), own_Go p e below s 0 0 (own_Q_law Z p1 p2 p3 h0 n0) (s₁.setTop (mkF m 116 #[.val (.int p1), .val (.int p2), .val (.int p3), .val (.int kk), .val (.int mm), .val (.int pp), .val (.int ex)] [])) := by
    intro kk mm pp ex hpe
    refine own_step (U' := (s₁.setTop (mkF m 118 #[.val (.int p1), .val (.int p2), .val (.int p3), .val (.int kk), .val (.int mm), .val (.int pp), .val (.int ex)] [(.int pp)]))) (fun t ht => XS.iload X0.here hx rfl (hb hby at_116) rfl ht) ?_
    obtain ⟨_, _, ⟨T4, L4, k4, n4⟩, -, X4, ⟨Lc4, hQ4, l4, y4, z4⟩, st4⟩ := Jvm.LawKit.callS X0 hx (y := (⟨"com/example/bitmend/bitmend/code/HammingCode", "isCheckPosition", "(I)Z"⟩ : MethodName)) hown (mvT hZ (hw _ (List.mem_of_getElem? (i := 0) rfl))) (mvT hZ (hw _ (List.mem_of_getElem? (i := 1) rfl))) (mvT hZ (hw _ (List.mem_of_getElem? (i := 2) rfl))) (mvT hZ (hw _ (List.mem_of_getElem? (i := 3) rfl))) (by decide) (backOf (W := 0) (own_m_icp l Z a0 hw [] (pp) h0 n0 Z0 ) hZ (hw _ (List.mem_of_getElem? (i := 3) rfl)) (hw _ (List.mem_of_getElem? (i := 2) rfl)) (by decide) (by decide)) (g := (mkF m 118 #[.val (.int p1), .val (.int p2), .val (.int p3), .val (.int kk), .val (.int mm), .val (.int pp), .val (.int ex)] [(.int pp)])) rfl (by rw [hml]; rfl) (argsL := [(.int pp)]) (rest := []) (lenOf own_pd1 rfl) rfl (by show 2 * 0 + _ ≤ _; exact Nat.le_of_eq rfl) (hb hby at_118) (fun _ _ => ⟨rfl, e0, (by decide : 0 + 0 ≤ _), (by decide : 0 + 0 ≤ _)⟩)
    dsimp only [Pt.U, Pt.locs, Pt.cells, Pt.slots] at X4 l4 y4 z4 st4 hQ4
    subst l4 y4 z4
    obtain ⟨rfl, Nq4, Kq4⟩ := hQ4
    have N4 := Fr.app N0 Nq4
    have e4 : T4.heap = h0 := Kq4
    refine own_step (U' := (T4.setTop (mkF m 121 #[.val (.int p1), .val (.int p2), .val (.int p3), .val (.int kk), .val (.int mm), .val (.int pp), .val (.int ex)] [(.int (own_icp pp))]))) (fun t ht => st4 _ ht) ?_
    refine own_step (U' := (T4.setTop (mkF m 123 #[.val (.int p1), .val (.int p2), .val (.int p3), .val (.int kk), .val (.int mm), .val (.int pp), .val (.int ex)] [(.int ex), (.int (own_icp pp))]))) (fun t ht => XS.iload X4.here hx rfl (hb hby at_121) rfl ht) ?_
    refine own_step (U' := (T4.setTop (mkF m 126 #[.val (.int p1), .val (.int p2), .val (.int p3), .val (.int kk), .val (.int mm), .val (.int pp), .val (.int ex)] []))) (fun t ht => XS.icmpNo X4.here hx rfl (hb hby at_123) rfl (XT.ii_ne_f (hpe : (own_icp pp) = ex)) ht) ?_
    refine own_step (U' := (T4.setTop (mkF m 127 #[.val (.int p1), .val (.int p2), .val (.int p3), .val (.int kk), .val (.int mm), .val (.int pp), .val (.int ex)] [(.int (1 : Int32))]))) (fun t ht => XS.iconst X4.here hx rfl (hb hby at_126) ht) ?_
    refine own_step (U' := (T4.setTop (mkF m 131 #[.val (.int p1), .val (.int p2), .val (.int p3), .val (.int kk), .val (.int mm), .val (.int pp), .val (.int ex)] [(.int (1 : Int32))]))) (fun t ht => XS.goto X4.here hx rfl (pc0 := 127) (pc' := 131) rfl (hb hby at_127) (by decide) (by decide) ht) ?_
    refine own_ret X4 (v := (some (.int (nar .boolean (1 : Int32))))) (fun h => by rw [Bd.returns] at h; cases h) Bd.notSynchronized (by decide) (by decide) ?_ (fun fs hr => retN X4 hx (t := .boolean) Bd.returns (by simp) (hb hby at_131) hr)
    show own_Q_law Z p1 p2 p3 h0 n0 _ T4.heap _
    rw [e4]
    exact ⟨rfl, N4⟩
  refine own_step (U' := (s₁.setTop (mkF m 1 #[.val (.int p1), .val (.int p2), .val (.int p3), .unset, .unset, .unset, .unset] [(.int p2)]))) (fun t ht => XS.iloadN X0.here hx rfl (hb hby at_0) rfl ht) ?_
  refine own_step (U' := (s₁.setTop (mkF m 3 #[.val (.int p1), .val (.int p2), .val (.int p3), .unset, .unset, .unset, .unset] [(.int (31 : Int32)), (.int p2)]))) (fun t ht => XS.bipush X0.here hx rfl (hb hby at_1) ht) ?_
  refine own_step (U' := (s₁.setTop (mkF m 4 #[.val (.int p1), .val (.int p2), .val (.int p3), .unset, .unset, .unset, .unset] [(.int (p2 &&& (31 : Int32)))]))) (fun t ht => XS.iand X0.here hx rfl (hb hby at_3) rfl ht) ?_
  refine own_step (U' := (s₁.setTop (mkF m 5 #[.val (.int p1), .val (.int p2), .val (.int p3), .val (.int (p2 &&& (31 : Int32))), .unset, .unset, .unset] []))) (fun t ht => XS.istoreN X0.here hx rfl (hb hby at_4) rfl (l' := #[.val (.int p1), .val (.int p2), .val (.int p3), .val (.int (p2 &&& (31 : Int32))), .unset, .unset, .unset]) rfl ht) ?_
  generalize h_k : (p2 &&& (31 : Int32)) = k
  refine own_step (U' := (s₁.setTop (mkF m 6 #[.val (.int p1), .val (.int p2), .val (.int p3), .val (.int k), .unset, .unset, .unset] [(.int p3)]))) (fun t ht => XS.iloadN X0.here hx rfl (hb hby at_5) rfl ht) ?_
  refine own_step (U' := (s₁.setTop (mkF m 7 #[.val (.int p1), .val (.int p2), .val (.int p3), .val (.int k), .unset, .unset, .unset] [(.int (3 : Int32)), (.int p3)]))) (fun t ht => XS.iconst X0.here hx rfl (hb hby at_6) ht) ?_
  refine own_step (U' := (s₁.setTop (mkF m 8 #[.val (.int p1), .val (.int p2), .val (.int p3), .val (.int k), .unset, .unset, .unset] [(.int (p3 &&& (3 : Int32)))]))) (fun t ht => XS.iand X0.here hx rfl (hb hby at_7) rfl ht) ?_
  refine own_step (U' := (s₁.setTop (mkF m 10 #[.val (.int p1), .val (.int p2), .val (.int p3), .val (.int k), .val (.int (p3 &&& (3 : Int32))), .unset, .unset] []))) (fun t ht => XS.istore X0.here hx rfl (hb hby at_8) rfl (l' := #[.val (.int p1), .val (.int p2), .val (.int p3), .val (.int k), .val (.int (p3 &&& (3 : Int32))), .unset, .unset]) rfl ht) ?_
  generalize h_mo : (p3 &&& (3 : Int32)) = mo
  refine own_step (U' := (s₁.setTop (mkF m 12 #[.val (.int p1), .val (.int p2), .val (.int p3), .val (.int k), .val (.int mo), .unset, .unset] [(.int mo)]))) (fun t ht => XS.iload X0.here hx rfl (hb hby at_10) rfl ht) ?_
  by_cases hc12_5 : mo = 0
  ·
    refine own_step (U' := (s₁.setTop (mkF m 15 #[.val (.int p1), .val (.int p2), .val (.int p3), .val (.int k), .val (.int mo), .unset, .unset] []))) (fun t ht => XS.ifNo X0.here hx rfl (hb hby at_12) rfl (XT.i0_ne_f hc12_5) ht) ?_
    refine own_step (U' := (s₁.setTop (mkF m 16 #[.val (.int p1), .val (.int p2), .val (.int p3), .val (.int k), .val (.int mo), .unset, .unset] [(.int p1)]))) (fun t ht => XS.iloadN X0.here hx rfl (hb hby at_15) rfl ht) ?_
    refine own_step (U' := (s₁.setTop (mkF m 18 #[.val (.int p1), .val (.int p2), .val (.int p3), .val (.int k), .val (.int mo), .val (.int p1), .unset] []))) (fun t ht => XS.istore X0.here hx rfl (hb hby at_16) rfl (l' := #[.val (.int p1), .val (.int p2), .val (.int p3), .val (.int k), .val (.int mo), .val (.int p1), .unset]) rfl ht) ?_
    refine own_step (U' := (s₁.setTop (mkF m 20 #[.val (.int p1), .val (.int p2), .val (.int p3), .val (.int k), .val (.int mo), .val (.int p1), .unset] [(.int p1)]))) (fun t ht => XS.iload X0.here hx rfl (hb hby at_18) rfl ht) ?_
    by_cases hc20_6 : 0 < p1
    ·
      refine own_step (U' := (s₁.setTop (mkF m 23 #[.val (.int p1), .val (.int p2), .val (.int p3), .val (.int k), .val (.int mo), .val (.int p1), .unset] []))) (fun t ht => XS.ifNo X0.here hx rfl (hb hby at_20) rfl (XT.i0_le_f hc20_6) ht) ?_
      refine own_step (U' := (s₁.setTop (mkF m 25 #[.val (.int p1), .val (.int p2), .val (.int p3), .val (.int k), .val (.int mo), .val (.int p1), .unset] [(.int p1)]))) (fun t ht => XS.iload X0.here hx rfl (hb hby at_23) rfl ht) ?_
      refine own_step (U' := (s₁.setTop (mkF m 27 #[.val (.int p1), .val (.int p2), .val (.int p3), .val (.int k), .val (.int mo), .val (.int p1), .unset] [(.int p1), (.int p1)]))) (fun t ht => XS.iload X0.here hx rfl (hb hby at_25) rfl ht) ?_
      refine own_step (U' := (s₁.setTop (mkF m 28 #[.val (.int p1), .val (.int p2), .val (.int p3), .val (.int k), .val (.int mo), .val (.int p1), .unset] [(.int (1 : Int32)), (.int p1), (.int p1)]))) (fun t ht => XS.iconst X0.here hx rfl (hb hby at_27) ht) ?_
      refine own_step (U' := (s₁.setTop (mkF m 29 #[.val (.int p1), .val (.int p2), .val (.int p3), .val (.int k), .val (.int mo), .val (.int p1), .unset] [(.int (p1 - (1 : Int32))), (.int p1)]))) (fun t ht => XS.isub X0.here hx rfl (hb hby at_28) rfl ht) ?_
      refine own_step (U' := (s₁.setTop (mkF m 30 #[.val (.int p1), .val (.int p2), .val (.int p3), .val (.int k), .val (.int mo), .val (.int p1), .unset] [(.int (p1 &&& (p1 - (1 : Int32))))]))) (fun t ht => XS.iand X0.here hx rfl (hb hby at_29) rfl ht) ?_
      by_cases hc30_7 : (p1 &&& (p1 - (1 : Int32))) = 0
      ·
        refine own_step (U' := (s₁.setTop (mkF m 33 #[.val (.int p1), .val (.int p2), .val (.int p3), .val (.int k), .val (.int mo), .val (.int p1), .unset] []))) (fun t ht => XS.ifNo X0.here hx rfl (hb hby at_30) rfl (XT.i0_ne_f hc30_7) ht) ?_
        refine own_step (U' := (s₁.setTop (mkF m 34 #[.val (.int p1), .val (.int p2), .val (.int p3), .val (.int k), .val (.int mo), .val (.int p1), .unset] [(.int (1 : Int32))]))) (fun t ht => XS.iconst X0.here hx rfl (hb hby at_33) ht) ?_
        refine own_step (U' := (s₁.setTop (mkF m 38 #[.val (.int p1), .val (.int p2), .val (.int p3), .val (.int k), .val (.int mo), .val (.int p1), .unset] [(.int (1 : Int32))]))) (fun t ht => XS.goto X0.here hx rfl (pc0 := 34) (pc' := 38) rfl (hb hby at_34) (by decide) (by decide) ht) ?_
        refine own_step (U' := (s₁.setTop (mkF m 40 #[.val (.int p1), .val (.int p2), .val (.int p3), .val (.int k), .val (.int mo), .val (.int p1), .val (.int (1 : Int32))] []))) (fun t ht => XS.istore X0.here hx rfl (hb hby at_38) rfl (l' := #[.val (.int p1), .val (.int p2), .val (.int p3), .val (.int k), .val (.int mo), .val (.int p1), .val (.int (1 : Int32))]) rfl ht) ?_
        refine own_step (U' := (s₁.setTop (mkF m 116 #[.val (.int p1), .val (.int p2), .val (.int p3), .val (.int k), .val (.int mo), .val (.int p1), .val (.int (1 : Int32))] []))) (fun t ht => XS.goto X0.here hx rfl (pc0 := 40) (pc' := 116) rfl (hb hby at_40) (by decide) (by decide) ht) ?_
        exact tail116 (k) (mo) (p1) ((1 : Int32)) (own_icp_1 hc20_6 hc30_7)
      ·
        refine own_step (U' := (s₁.setTop (mkF m 37 #[.val (.int p1), .val (.int p2), .val (.int p3), .val (.int k), .val (.int mo), .val (.int p1), .unset] []))) (fun t ht => XS.ifYes X0.here hx rfl (pc0 := 30) (pc' := 37) rfl (hb hby at_30) rfl (XT.i0_ne_t hc30_7) (by decide) (by decide) ht) ?_
        refine own_step (U' := (s₁.setTop (mkF m 38 #[.val (.int p1), .val (.int p2), .val (.int p3), .val (.int k), .val (.int mo), .val (.int p1), .unset] [(.int (0 : Int32))]))) (fun t ht => XS.iconst X0.here hx rfl (hb hby at_37) ht) ?_
        refine own_step (U' := (s₁.setTop (mkF m 40 #[.val (.int p1), .val (.int p2), .val (.int p3), .val (.int k), .val (.int mo), .val (.int p1), .val (.int (0 : Int32))] []))) (fun t ht => XS.istore X0.here hx rfl (hb hby at_38) rfl (l' := #[.val (.int p1), .val (.int p2), .val (.int p3), .val (.int k), .val (.int mo), .val (.int p1), .val (.int (0 : Int32))]) rfl ht) ?_
        refine own_step (U' := (s₁.setTop (mkF m 116 #[.val (.int p1), .val (.int p2), .val (.int p3), .val (.int k), .val (.int mo), .val (.int p1), .val (.int (0 : Int32))] []))) (fun t ht => XS.goto X0.here hx rfl (pc0 := 40) (pc' := 116) rfl (hb hby at_40) (by decide) (by decide) ht) ?_
        exact tail116 (k) (mo) (p1) ((0 : Int32)) (own_icp_2 hc20_6 hc30_7)
    ·
      refine own_step (U' := (s₁.setTop (mkF m 37 #[.val (.int p1), .val (.int p2), .val (.int p3), .val (.int k), .val (.int mo), .val (.int p1), .unset] []))) (fun t ht => XS.ifYes X0.here hx rfl (pc0 := 20) (pc' := 37) rfl (hb hby at_20) rfl (XT.i0_le_t hc20_6) (by decide) (by decide) ht) ?_
      refine own_step (U' := (s₁.setTop (mkF m 38 #[.val (.int p1), .val (.int p2), .val (.int p3), .val (.int k), .val (.int mo), .val (.int p1), .unset] [(.int (0 : Int32))]))) (fun t ht => XS.iconst X0.here hx rfl (hb hby at_37) ht) ?_
      refine own_step (U' := (s₁.setTop (mkF m 40 #[.val (.int p1), .val (.int p2), .val (.int p3), .val (.int k), .val (.int mo), .val (.int p1), .val (.int (0 : Int32))] []))) (fun t ht => XS.istore X0.here hx rfl (hb hby at_38) rfl (l' := #[.val (.int p1), .val (.int p2), .val (.int p3), .val (.int k), .val (.int mo), .val (.int p1), .val (.int (0 : Int32))]) rfl ht) ?_
      refine own_step (U' := (s₁.setTop (mkF m 116 #[.val (.int p1), .val (.int p2), .val (.int p3), .val (.int k), .val (.int mo), .val (.int p1), .val (.int (0 : Int32))] []))) (fun t ht => XS.goto X0.here hx rfl (pc0 := 40) (pc' := 116) rfl (hb hby at_40) (by decide) (by decide) ht) ?_
      exact tail116 (k) (mo) (p1) ((0 : Int32)) (own_icp_0 hc20_6)
  ·
    refine own_step (U' := (s₁.setTop (mkF m 43 #[.val (.int p1), .val (.int p2), .val (.int p3), .val (.int k), .val (.int mo), .unset, .unset] []))) (fun t ht => XS.ifYes X0.here hx rfl (pc0 := 12) (pc' := 43) rfl (hb hby at_12) rfl (XT.i0_ne_t hc12_5) (by decide) (by decide) ht) ?_
    refine own_step (U' := (s₁.setTop (mkF m 45 #[.val (.int p1), .val (.int p2), .val (.int p3), .val (.int k), .val (.int mo), .unset, .unset] [(.int mo)]))) (fun t ht => XS.iload X0.here hx rfl (hb hby at_43) rfl ht) ?_
    refine own_step (U' := (s₁.setTop (mkF m 46 #[.val (.int p1), .val (.int p2), .val (.int p3), .val (.int k), .val (.int mo), .unset, .unset] [(.int (1 : Int32)), (.int mo)]))) (fun t ht => XS.iconst X0.here hx rfl (hb hby at_45) ht) ?_
    by_cases hc46_8 : mo = (1 : Int32)
    ·
      refine own_step (U' := (s₁.setTop (mkF m 49 #[.val (.int p1), .val (.int p2), .val (.int p3), .val (.int k), .val (.int mo), .unset, .unset] []))) (fun t ht => XS.icmpNo X0.here hx rfl (hb hby at_46) rfl (XT.ii_ne_f hc46_8) ht) ?_
      refine own_step (U' := (s₁.setTop (mkF m 50 #[.val (.int p1), .val (.int p2), .val (.int p3), .val (.int k), .val (.int mo), .unset, .unset] [(.int (1 : Int32))]))) (fun t ht => XS.iconst X0.here hx rfl (hb hby at_49) ht) ?_
      refine own_step (U' := (s₁.setTop (mkF m 51 #[.val (.int p1), .val (.int p2), .val (.int p3), .val (.int k), .val (.int mo), .unset, .unset] [(.int k), (.int (1 : Int32))]))) (fun t ht => XS.iloadN X0.here hx rfl (hb hby at_50) rfl ht) ?_
      refine own_step (U' := (s₁.setTop (mkF m 52 #[.val (.int p1), .val (.int p2), .val (.int p3), .val (.int k), .val (.int mo), .unset, .unset] [(.int ((1 : Int32) <<< (k &&& 31)))]))) (fun t ht => XT.ishl X0.here hx rfl (hb hby at_51) rfl ht) ?_
      refine own_step (U' := (s₁.setTop (mkF m 54 #[.val (.int p1), .val (.int p2), .val (.int p3), .val (.int k), .val (.int mo), .val (.int ((1 : Int32) <<< (k &&& 31))), .unset] []))) (fun t ht => XS.istore X0.here hx rfl (hb hby at_52) rfl (l' := #[.val (.int p1), .val (.int p2), .val (.int p3), .val (.int k), .val (.int mo), .val (.int ((1 : Int32) <<< (k &&& 31))), .unset]) rfl ht) ?_
      refine own_step (U' := (s₁.setTop (mkF m 55 #[.val (.int p1), .val (.int p2), .val (.int p3), .val (.int k), .val (.int mo), .val (.int ((1 : Int32) <<< (k &&& 31))), .unset] [(.int k)]))) (fun t ht => XS.iloadN X0.here hx rfl (hb hby at_54) rfl ht) ?_
      refine own_step (U' := (s₁.setTop (mkF m 57 #[.val (.int p1), .val (.int p2), .val (.int p3), .val (.int k), .val (.int mo), .val (.int ((1 : Int32) <<< (k &&& 31))), .unset] [(.int (31 : Int32)), (.int k)]))) (fun t ht => XS.bipush X0.here hx rfl (hb hby at_55) ht) ?_
      by_cases hc57_9 : k = (31 : Int32)
      ·
        refine own_step (U' := (s₁.setTop (mkF m 64 #[.val (.int p1), .val (.int p2), .val (.int p3), .val (.int k), .val (.int mo), .val (.int ((1 : Int32) <<< (k &&& 31))), .unset] []))) (fun t ht => XS.icmpYes X0.here hx rfl (pc0 := 57) (pc' := 64) rfl (hb hby at_57) rfl (XT.ii_eq_t hc57_9) (by decide) (by decide) ht) ?_
        refine own_step (U' := (s₁.setTop (mkF m 65 #[.val (.int p1), .val (.int p2), .val (.int p3), .val (.int k), .val (.int mo), .val (.int ((1 : Int32) <<< (k &&& 31))), .unset] [(.int (0 : Int32))]))) (fun t ht => XS.iconst X0.here hx rfl (hb hby at_64) ht) ?_
        refine own_step (U' := (s₁.setTop (mkF m 67 #[.val (.int p1), .val (.int p2), .val (.int p3), .val (.int k), .val (.int mo), .val (.int ((1 : Int32) <<< (k &&& 31))), .val (.int (0 : Int32))] []))) (fun t ht => XS.istore X0.here hx rfl (hb hby at_65) rfl (l' := #[.val (.int p1), .val (.int p2), .val (.int p3), .val (.int k), .val (.int mo), .val (.int ((1 : Int32) <<< (k &&& 31))), .val (.int (0 : Int32))]) rfl ht) ?_
        refine own_step (U' := (s₁.setTop (mkF m 116 #[.val (.int p1), .val (.int p2), .val (.int p3), .val (.int k), .val (.int mo), .val (.int ((1 : Int32) <<< (k &&& 31))), .val (.int (0 : Int32))] []))) (fun t ht => XS.goto X0.here hx rfl (pc0 := 67) (pc' := 116) rfl (hb hby at_67) (by decide) (by decide) ht) ?_
        exact tail116 (k) (mo) (((1 : Int32) <<< (k &&& 31))) ((0 : Int32)) (by rw [own_e1 h_k]; simp [hc57_9])
      ·
        refine own_step (U' := (s₁.setTop (mkF m 60 #[.val (.int p1), .val (.int p2), .val (.int p3), .val (.int k), .val (.int mo), .val (.int ((1 : Int32) <<< (k &&& 31))), .unset] []))) (fun t ht => XS.icmpNo X0.here hx rfl (hb hby at_57) rfl (XT.ii_eq_f hc57_9) ht) ?_
        refine own_step (U' := (s₁.setTop (mkF m 61 #[.val (.int p1), .val (.int p2), .val (.int p3), .val (.int k), .val (.int mo), .val (.int ((1 : Int32) <<< (k &&& 31))), .unset] [(.int (1 : Int32))]))) (fun t ht => XS.iconst X0.here hx rfl (hb hby at_60) ht) ?_
        refine own_step (U' := (s₁.setTop (mkF m 65 #[.val (.int p1), .val (.int p2), .val (.int p3), .val (.int k), .val (.int mo), .val (.int ((1 : Int32) <<< (k &&& 31))), .unset] [(.int (1 : Int32))]))) (fun t ht => XS.goto X0.here hx rfl (pc0 := 61) (pc' := 65) rfl (hb hby at_61) (by decide) (by decide) ht) ?_
        refine own_step (U' := (s₁.setTop (mkF m 67 #[.val (.int p1), .val (.int p2), .val (.int p3), .val (.int k), .val (.int mo), .val (.int ((1 : Int32) <<< (k &&& 31))), .val (.int (1 : Int32))] []))) (fun t ht => XS.istore X0.here hx rfl (hb hby at_65) rfl (l' := #[.val (.int p1), .val (.int p2), .val (.int p3), .val (.int k), .val (.int mo), .val (.int ((1 : Int32) <<< (k &&& 31))), .val (.int (1 : Int32))]) rfl ht) ?_
        refine own_step (U' := (s₁.setTop (mkF m 116 #[.val (.int p1), .val (.int p2), .val (.int p3), .val (.int k), .val (.int mo), .val (.int ((1 : Int32) <<< (k &&& 31))), .val (.int (1 : Int32))] []))) (fun t ht => XS.goto X0.here hx rfl (pc0 := 67) (pc' := 116) rfl (hb hby at_67) (by decide) (by decide) ht) ?_
        exact tail116 (k) (mo) (((1 : Int32) <<< (k &&& 31))) ((1 : Int32)) (by rw [own_e1 h_k]; simp [hc57_9])
    ·
      refine own_step (U' := (s₁.setTop (mkF m 70 #[.val (.int p1), .val (.int p2), .val (.int p3), .val (.int k), .val (.int mo), .unset, .unset] []))) (fun t ht => XS.icmpYes X0.here hx rfl (pc0 := 46) (pc' := 70) rfl (hb hby at_46) rfl (XT.ii_ne_t hc46_8) (by decide) (by decide) ht) ?_
      refine own_step (U' := (s₁.setTop (mkF m 72 #[.val (.int p1), .val (.int p2), .val (.int p3), .val (.int k), .val (.int mo), .unset, .unset] [(.int mo)]))) (fun t ht => XS.iload X0.here hx rfl (hb hby at_70) rfl ht) ?_
      refine own_step (U' := (s₁.setTop (mkF m 73 #[.val (.int p1), .val (.int p2), .val (.int p3), .val (.int k), .val (.int mo), .unset, .unset] [(.int (2 : Int32)), (.int mo)]))) (fun t ht => XS.iconst X0.here hx rfl (hb hby at_72) ht) ?_
      by_cases hc73_10 : mo = (2 : Int32)
      ·
        refine own_step (U' := (s₁.setTop (mkF m 76 #[.val (.int p1), .val (.int p2), .val (.int p3), .val (.int k), .val (.int mo), .unset, .unset] []))) (fun t ht => XS.icmpNo X0.here hx rfl (hb hby at_73) rfl (XT.ii_ne_f hc73_10) ht) ?_
        refine own_step (U' := (s₁.setTop (mkF m 77 #[.val (.int p1), .val (.int p2), .val (.int p3), .val (.int k), .val (.int mo), .unset, .unset] [(.int (1 : Int32))]))) (fun t ht => XS.iconst X0.here hx rfl (hb hby at_76) ht) ?_
        refine own_step (U' := (s₁.setTop (mkF m 78 #[.val (.int p1), .val (.int p2), .val (.int p3), .val (.int k), .val (.int mo), .unset, .unset] [(.int k), (.int (1 : Int32))]))) (fun t ht => XS.iloadN X0.here hx rfl (hb hby at_77) rfl ht) ?_
        refine own_step (U' := (s₁.setTop (mkF m 79 #[.val (.int p1), .val (.int p2), .val (.int p3), .val (.int k), .val (.int mo), .unset, .unset] [(.int ((1 : Int32) <<< (k &&& 31)))]))) (fun t ht => XT.ishl X0.here hx rfl (hb hby at_78) rfl ht) ?_
        refine own_step (U' := (s₁.setTop (mkF m 80 #[.val (.int p1), .val (.int p2), .val (.int p3), .val (.int k), .val (.int mo), .unset, .unset] [(.int (1 : Int32)), (.int ((1 : Int32) <<< (k &&& 31)))]))) (fun t ht => XS.iconst X0.here hx rfl (hb hby at_79) ht) ?_
        refine own_step (U' := (s₁.setTop (mkF m 81 #[.val (.int p1), .val (.int p2), .val (.int p3), .val (.int k), .val (.int mo), .unset, .unset] [(.int (((1 : Int32) <<< (k &&& 31)) - (1 : Int32)))]))) (fun t ht => XS.isub X0.here hx rfl (hb hby at_80) rfl ht) ?_
        refine own_step (U' := (s₁.setTop (mkF m 83 #[.val (.int p1), .val (.int p2), .val (.int p3), .val (.int k), .val (.int mo), .val (.int (((1 : Int32) <<< (k &&& 31)) - (1 : Int32))), .unset] []))) (fun t ht => XS.istore X0.here hx rfl (hb hby at_81) rfl (l' := #[.val (.int p1), .val (.int p2), .val (.int p3), .val (.int k), .val (.int mo), .val (.int (((1 : Int32) <<< (k &&& 31)) - (1 : Int32))), .unset]) rfl ht) ?_
        refine own_step (U' := (s₁.setTop (mkF m 84 #[.val (.int p1), .val (.int p2), .val (.int p3), .val (.int k), .val (.int mo), .val (.int (((1 : Int32) <<< (k &&& 31)) - (1 : Int32))), .unset] [(.int k)]))) (fun t ht => XS.iloadN X0.here hx rfl (hb hby at_83) rfl ht) ?_
        refine own_step (U' := (s₁.setTop (mkF m 85 #[.val (.int p1), .val (.int p2), .val (.int p3), .val (.int k), .val (.int mo), .val (.int (((1 : Int32) <<< (k &&& 31)) - (1 : Int32))), .unset] [(.int (1 : Int32)), (.int k)]))) (fun t ht => XS.iconst X0.here hx rfl (hb hby at_84) ht) ?_
        by_cases hc85_11 : k = (1 : Int32)
        ·
          refine own_step (U' := (s₁.setTop (mkF m 88 #[.val (.int p1), .val (.int p2), .val (.int p3), .val (.int k), .val (.int mo), .val (.int (((1 : Int32) <<< (k &&& 31)) - (1 : Int32))), .unset] []))) (fun t ht => XS.icmpNo X0.here hx rfl (hb hby at_85) rfl (XT.ii_ne_f hc85_11) ht) ?_
          refine own_step (U' := (s₁.setTop (mkF m 89 #[.val (.int p1), .val (.int p2), .val (.int p3), .val (.int k), .val (.int mo), .val (.int (((1 : Int32) <<< (k &&& 31)) - (1 : Int32))), .unset] [(.int (1 : Int32))]))) (fun t ht => XS.iconst X0.here hx rfl (hb hby at_88) ht) ?_
          refine own_step (U' := (s₁.setTop (mkF m 93 #[.val (.int p1), .val (.int p2), .val (.int p3), .val (.int k), .val (.int mo), .val (.int (((1 : Int32) <<< (k &&& 31)) - (1 : Int32))), .unset] [(.int (1 : Int32))]))) (fun t ht => XS.goto X0.here hx rfl (pc0 := 89) (pc' := 93) rfl (hb hby at_89) (by decide) (by decide) ht) ?_
          refine own_step (U' := (s₁.setTop (mkF m 95 #[.val (.int p1), .val (.int p2), .val (.int p3), .val (.int k), .val (.int mo), .val (.int (((1 : Int32) <<< (k &&& 31)) - (1 : Int32))), .val (.int (1 : Int32))] []))) (fun t ht => XS.istore X0.here hx rfl (hb hby at_93) rfl (l' := #[.val (.int p1), .val (.int p2), .val (.int p3), .val (.int k), .val (.int mo), .val (.int (((1 : Int32) <<< (k &&& 31)) - (1 : Int32))), .val (.int (1 : Int32))]) rfl ht) ?_
          refine own_step (U' := (s₁.setTop (mkF m 116 #[.val (.int p1), .val (.int p2), .val (.int p3), .val (.int k), .val (.int mo), .val (.int (((1 : Int32) <<< (k &&& 31)) - (1 : Int32))), .val (.int (1 : Int32))] []))) (fun t ht => XS.goto X0.here hx rfl (pc0 := 95) (pc' := 116) rfl (hb hby at_95) (by decide) (by decide) ht) ?_
          exact tail116 (k) (mo) ((((1 : Int32) <<< (k &&& 31)) - (1 : Int32))) ((1 : Int32)) (by rw [own_e2 h_k]; simp [hc85_11])
        ·
          refine own_step (U' := (s₁.setTop (mkF m 92 #[.val (.int p1), .val (.int p2), .val (.int p3), .val (.int k), .val (.int mo), .val (.int (((1 : Int32) <<< (k &&& 31)) - (1 : Int32))), .unset] []))) (fun t ht => XS.icmpYes X0.here hx rfl (pc0 := 85) (pc' := 92) rfl (hb hby at_85) rfl (XT.ii_ne_t hc85_11) (by decide) (by decide) ht) ?_
          refine own_step (U' := (s₁.setTop (mkF m 93 #[.val (.int p1), .val (.int p2), .val (.int p3), .val (.int k), .val (.int mo), .val (.int (((1 : Int32) <<< (k &&& 31)) - (1 : Int32))), .unset] [(.int (0 : Int32))]))) (fun t ht => XS.iconst X0.here hx rfl (hb hby at_92) ht) ?_
          refine own_step (U' := (s₁.setTop (mkF m 95 #[.val (.int p1), .val (.int p2), .val (.int p3), .val (.int k), .val (.int mo), .val (.int (((1 : Int32) <<< (k &&& 31)) - (1 : Int32))), .val (.int (0 : Int32))] []))) (fun t ht => XS.istore X0.here hx rfl (hb hby at_93) rfl (l' := #[.val (.int p1), .val (.int p2), .val (.int p3), .val (.int k), .val (.int mo), .val (.int (((1 : Int32) <<< (k &&& 31)) - (1 : Int32))), .val (.int (0 : Int32))]) rfl ht) ?_
          refine own_step (U' := (s₁.setTop (mkF m 116 #[.val (.int p1), .val (.int p2), .val (.int p3), .val (.int k), .val (.int mo), .val (.int (((1 : Int32) <<< (k &&& 31)) - (1 : Int32))), .val (.int (0 : Int32))] []))) (fun t ht => XS.goto X0.here hx rfl (pc0 := 95) (pc' := 116) rfl (hb hby at_95) (by decide) (by decide) ht) ?_
          exact tail116 (k) (mo) ((((1 : Int32) <<< (k &&& 31)) - (1 : Int32))) ((0 : Int32)) (by rw [own_e2 h_k]; simp [hc85_11])
      ·
        refine own_step (U' := (s₁.setTop (mkF m 98 #[.val (.int p1), .val (.int p2), .val (.int p3), .val (.int k), .val (.int mo), .unset, .unset] []))) (fun t ht => XS.icmpYes X0.here hx rfl (pc0 := 73) (pc' := 98) rfl (hb hby at_73) rfl (XT.ii_ne_t hc73_10) (by decide) (by decide) ht) ?_
        refine own_step (U' := (s₁.setTop (mkF m 99 #[.val (.int p1), .val (.int p2), .val (.int p3), .val (.int k), .val (.int mo), .unset, .unset] [(.int (1 : Int32))]))) (fun t ht => XS.iconst X0.here hx rfl (hb hby at_98) ht) ?_
        refine own_step (U' := (s₁.setTop (mkF m 100 #[.val (.int p1), .val (.int p2), .val (.int p3), .val (.int k), .val (.int mo), .unset, .unset] [(.int k), (.int (1 : Int32))]))) (fun t ht => XS.iloadN X0.here hx rfl (hb hby at_99) rfl ht) ?_
        refine own_step (U' := (s₁.setTop (mkF m 101 #[.val (.int p1), .val (.int p2), .val (.int p3), .val (.int k), .val (.int mo), .unset, .unset] [(.int ((1 : Int32) <<< (k &&& 31)))]))) (fun t ht => XT.ishl X0.here hx rfl (hb hby at_100) rfl ht) ?_
        refine own_step (U' := (s₁.setTop (mkF m 102 #[.val (.int p1), .val (.int p2), .val (.int p3), .val (.int k), .val (.int mo), .unset, .unset] [(.int (1 : Int32)), (.int ((1 : Int32) <<< (k &&& 31)))]))) (fun t ht => XS.iconst X0.here hx rfl (hb hby at_101) ht) ?_
        refine own_step (U' := (s₁.setTop (mkF m 103 #[.val (.int p1), .val (.int p2), .val (.int p3), .val (.int k), .val (.int mo), .unset, .unset] [(.int (((1 : Int32) <<< (k &&& 31)) + (1 : Int32)))]))) (fun t ht => XS.iadd X0.here hx rfl (hb hby at_102) rfl ht) ?_
        refine own_step (U' := (s₁.setTop (mkF m 105 #[.val (.int p1), .val (.int p2), .val (.int p3), .val (.int k), .val (.int mo), .val (.int (((1 : Int32) <<< (k &&& 31)) + (1 : Int32))), .unset] []))) (fun t ht => XS.istore X0.here hx rfl (hb hby at_103) rfl (l' := #[.val (.int p1), .val (.int p2), .val (.int p3), .val (.int k), .val (.int mo), .val (.int (((1 : Int32) <<< (k &&& 31)) + (1 : Int32))), .unset]) rfl ht) ?_
        refine own_step (U' := (s₁.setTop (mkF m 106 #[.val (.int p1), .val (.int p2), .val (.int p3), .val (.int k), .val (.int mo), .val (.int (((1 : Int32) <<< (k &&& 31)) + (1 : Int32))), .unset] [(.int k)]))) (fun t ht => XS.iloadN X0.here hx rfl (hb hby at_105) rfl ht) ?_
        by_cases hc106_12 : k = 0
        ·
          refine own_step (U' := (s₁.setTop (mkF m 109 #[.val (.int p1), .val (.int p2), .val (.int p3), .val (.int k), .val (.int mo), .val (.int (((1 : Int32) <<< (k &&& 31)) + (1 : Int32))), .unset] []))) (fun t ht => XS.ifNo X0.here hx rfl (hb hby at_106) rfl (XT.i0_ne_f hc106_12) ht) ?_
          refine own_step (U' := (s₁.setTop (mkF m 110 #[.val (.int p1), .val (.int p2), .val (.int p3), .val (.int k), .val (.int mo), .val (.int (((1 : Int32) <<< (k &&& 31)) + (1 : Int32))), .unset] [(.int (1 : Int32))]))) (fun t ht => XS.iconst X0.here hx rfl (hb hby at_109) ht) ?_
          refine own_step (U' := (s₁.setTop (mkF m 114 #[.val (.int p1), .val (.int p2), .val (.int p3), .val (.int k), .val (.int mo), .val (.int (((1 : Int32) <<< (k &&& 31)) + (1 : Int32))), .unset] [(.int (1 : Int32))]))) (fun t ht => XS.goto X0.here hx rfl (pc0 := 110) (pc' := 114) rfl (hb hby at_110) (by decide) (by decide) ht) ?_
          refine own_step (U' := (s₁.setTop (mkF m 116 #[.val (.int p1), .val (.int p2), .val (.int p3), .val (.int k), .val (.int mo), .val (.int (((1 : Int32) <<< (k &&& 31)) + (1 : Int32))), .val (.int (1 : Int32))] []))) (fun t ht => XS.istore X0.here hx rfl (hb hby at_114) rfl (l' := #[.val (.int p1), .val (.int p2), .val (.int p3), .val (.int k), .val (.int mo), .val (.int (((1 : Int32) <<< (k &&& 31)) + (1 : Int32))), .val (.int (1 : Int32))]) rfl ht) ?_
          exact tail116 (k) (mo) ((((1 : Int32) <<< (k &&& 31)) + (1 : Int32))) ((1 : Int32)) (by rw [own_e3 h_k]; simp [hc106_12])
        ·
          refine own_step (U' := (s₁.setTop (mkF m 113 #[.val (.int p1), .val (.int p2), .val (.int p3), .val (.int k), .val (.int mo), .val (.int (((1 : Int32) <<< (k &&& 31)) + (1 : Int32))), .unset] []))) (fun t ht => XS.ifYes X0.here hx rfl (pc0 := 106) (pc' := 113) rfl (hb hby at_106) rfl (XT.i0_ne_t hc106_12) (by decide) (by decide) ht) ?_
          refine own_step (U' := (s₁.setTop (mkF m 114 #[.val (.int p1), .val (.int p2), .val (.int p3), .val (.int k), .val (.int mo), .val (.int (((1 : Int32) <<< (k &&& 31)) + (1 : Int32))), .unset] [(.int (0 : Int32))]))) (fun t ht => XS.iconst X0.here hx rfl (hb hby at_113) ht) ?_
          refine own_step (U' := (s₁.setTop (mkF m 116 #[.val (.int p1), .val (.int p2), .val (.int p3), .val (.int k), .val (.int mo), .val (.int (((1 : Int32) <<< (k &&& 31)) + (1 : Int32))), .val (.int (0 : Int32))] []))) (fun t ht => XS.istore X0.here hx rfl (hb hby at_114) rfl (l' := #[.val (.int p1), .val (.int p2), .val (.int p3), .val (.int k), .val (.int mo), .val (.int (((1 : Int32) <<< (k &&& 31)) + (1 : Int32))), .val (.int (0 : Int32))]) rfl ht) ?_
          exact tail116 (k) (mo) ((((1 : Int32) <<< (k &&& 31)) + (1 : Int32))) ((0 : Int32)) (by rw [own_e3 h_k]; simp [hc106_12])
set_option maxRecDepth 65536 in
set_option maxHeartbeats 40000000 in
theorem own_comes {Post : Tables → Env → Array Value → State → Outcome → State → Prop} (hpost : ∀ tb e args s v u, (limb_1_1.after args s (.returned v) u = true ∧ limb_1_2.after args s (.returned v) u = true ∧ True) → FrameEnd s (.returned v) u (Jvm.fieldLocs frame_1_writes args s ++ Jvm.arrayLocs frame_1_arrays args s ++ Jvm.staticLocs frame_1_statics s) 0 0 → Post tb e args s (.returned v) u) :
    ArmFor flags0 classFile x code maxLocals ret World_1 tables_1 room_1 Calls_1 rest_1 Pre_1 Post := by
  intro l hfl _ _ p e ha hc hk s m args below hf hA hF happ hP
  obtain ⟨hcalls, hrest, hpre⟩ := hP
  obtain ⟨-, -, -, hnamed, -, -, -, hat⟩ := (Spec.applies_iff hf).mp happ
  obtain ⟨hg, hn⟩ := and_e (Cond.before_iff.mp (show (Jvm.Cond.and given_1 narrow_1).before args s = true from hpre))
  obtain ⟨hcount, q0⟩ := and_e hg
  obtain ⟨a0, q1⟩ := and_e q0
  obtain ⟨a1, q2⟩ := and_e q1
  have a2 := q2
  obtain ⟨w0, w1, w2, rfl⟩ : ∃ w0 w1 w2 : Value, args = #[w0, w1, w2] := by
    have hs : args.size = 3 := by simpa [Cond.value, given_1] using hcount
    obtain ⟨L⟩ := args
    match L, hs with
    | [w0, w1, w2], _ => exact ⟨w0, w1, w2, rfl⟩
  obtain ⟨i0, e0⟩ := is_v a0
  obtain rfl : w0 = (.int i0) := Option.some.inj e0
  obtain ⟨i1, e1⟩ := is_v a1
  obtain rfl : w1 = (.int i1) := Option.some.inj e1
  obtain ⟨i2, e2⟩ := is_v a2
  obtain rfl : w2 = (.int i2) := Option.some.inj e2
  have hw := fun d (hd : d ∈ tables_1) => atoms_spec (ws := Jvm.Cond.code x code maxLocals ret :: tables_1) hat d (List.mem_cons_of_mem _ hd)
  have hfit : Fit s := fun {y c} hc i hi => by
    obtain ⟨ha, rfl⟩ := Array.getElem?_eq_some_iff.mp hc
    have q := List.all_eq_true.mp ((Array.all_eq_true_iff_forall_mem.mp hF) _ (Array.getElem_mem ha)) i (List.mem_range.mpr hi)
    simpa [Array.getElem?_eq_getElem hi] using q

  obtain ⟨n, o, h1, h2, h3, _, L, rfl, ⟨rfl, N⟩, hq⟩ := own_m_law l s _ hw tables_1 i0 i1 i2  s.heap s.heap.size (Nat.le_refl _)  p e ha hc hk s m _ below hf ((Spec.applies_iff_loose hf).mp happ).1 ⟨rfl, State.Warmed39.refl s, rfl⟩ trivial
  refine ⟨n, _, h1, h2, h3, hpost _ _ _ _ _ _ ⟨Cond.after_iff.mpr rfl, Cond.after_iff.mpr (eq_i res_at (Term.int_eval (1)) rfl), trivial⟩ ⟨hq.1, hq.2.1, (hq.2.2.sift fun y hy => Or.inr (N y hy)).mono (by decide) (by decide)⟩⟩
theorem main_1_1 : Claimed_1_1 := own_comes fun _ _ _ _ _ _ h hF => ⟨h.1, hF⟩
theorem main_1_2 : Claimed_1_2 := own_comes fun _ _ _ _ _ _ h hF => ⟨h.2.1, hF⟩
end Jvm.Pilot.@@N@@
namespace Jvm.Pilot.@@N@@
open Jvm Jvm.ClassFile Sem Op Lib Jvm.Free Jvm.Stand Jvm.Pilot.@@N@@.Jvm.D
/-! MADE BY PROGRAM (witnessworld.py) out of the Statement's table words and the real class files: 12 classes; the members and pool entries that the words name. The judged class is class 1, her method 1. -/
namespace start1
open Jvm.ClassFile
def u (s : String) : CpInfo := .utf8 (stringToUtf16 s)
/-- a pool by its gaps: so many unusable entries, then the entry; so many at the end -/
def gap : Nat → List CpInfo → List CpInfo
  | 0, r => r
  | n + 1, r => .unusable :: gap n r
def poolList (es : List (Nat × CpInfo)) (last : Nat) : List CpInfo := es.foldr (fun e r => gap e.1 (e.2 :: r)) (gap last [])
def pool (es : List (Nat × CpInfo)) (last : Nat) : Array CpInfo := ⟨poolList es last⟩
def fileOf (pool : Array CpInfo) (this : Nat) (attrs : Array Attribute := #[]) (ms : Array MethodInfo := #[]) (fl : Nat := 33) (sup : Nat := 0) (ifs : Array Nat := #[]) (fds : Array FieldInfo := #[]) : ClassFile where
  minorVersion := 0
  majorVersion := 65
  constantPool := pool
  accessFlags := fl
  thisClass := this
  superClass := sup
  interfaces := ifs
  fields := fds
  methods := ms
  attributes := attrs
def plain (name : String) (sup : Option ClassId) : Class where
  name := name
  kind := .ordinary
  loader := none
  accessFlags := 33
  super := sup
  interfaces := #[]
  cf := none
  fields := #[]
  methods := #[]
  instanceTypes := #[]
  staticTypes := #[]
  resolved := #[]
  callSites := []
  init := .initialized
  statics := none
  mirror := none

def pool0 : Array CpInfo := pool [(5, u "<init>"), (0, u "()V"), (1, .class_ 10), (1, u "java/lang/Object")] 113

def k0m0 : Method := { name := "<init>", desc := "()V", sig := { parameters := [], returnType := none }, accessFlags := 1, code := none }
/-- java/lang/Object -/
def k0 : Class := { plain "java/lang/Object" none with
  accessFlags := 33
  interfaces := #[]
  cf := some (fileOf pool0 8 #[] #[{ accessFlags := 1, nameIndex := 5, descriptorIndex := 6, attributes := #[] }] 33 0 #[] #[])
  fields := #[]
  methods := #[k0m0]
  instanceTypes := #[]
  staticTypes := #[]
  resolved := Array.replicate 124 none
  statics := none }

def pool1 : Array CpInfo := pool [(2, .class_ 4), (1, u "java/lang/Object"), (0, u "<init>"), (0, u "()V"), (0, .methodref 8 9), (0, .class_ 10), (0, .nameAndType 11 12), (0, u "com/example/bitmend/bitmend/code/HammingCode"), (0, u "isCheckPosition"), (0, u "(I)Z"), (0, .class_ 14), (0, u "com/example/bitmend/bitmend/code/HammingCodeIsCheckPositionPinLaw"), (2, u "law"), (0, u "(III)Z")] 3

def k1m0 : Method := { name := "<init>", desc := "()V", sig := { parameters := [], returnType := none }, accessFlags := 1, code := none }
def k1c1 : Code := { maxStack := 3, maxLocals := 7, code := code, exceptionTable := #[], attributes := #[] }
def k1m1 : Method := { name := "law", desc := "(III)Z", sig := { parameters := [.int, .int, .int], returnType := some .boolean }, accessFlags := 9, code := some k1c1 }
/-- com/example/bitmend/bitmend/code/HammingCodeIsCheckPositionPinLaw -/
def k1 : Class := { plain "com/example/bitmend/bitmend/code/HammingCodeIsCheckPositionPinLaw" (some 0) with
  accessFlags := 49
  interfaces := #[]
  cf := some (fileOf pool1 13 #[] #[{ accessFlags := 1, nameIndex := 5, descriptorIndex := 6, attributes := #[] }, { accessFlags := 9, nameIndex := 17, descriptorIndex := 18, attributes := #[] }] 49 2 #[] #[])
  fields := #[]
  methods := #[k1m0, k1m1]
  instanceTypes := #[]
  staticTypes := #[]
  resolved := Array.replicate 22 none
  statics := none }

def pool2 : Array CpInfo := pool [(1, .class_ 2), (0, u "java/lang/Integer"), (3, .class_ 8), (1, u "java/lang/Object"), (3, .class_ 14), (1, u "com/example/bitmend/bitmend/code/HammingCode"), (0, u "dataBits"), (0, u "I"), (2, u "checkBits"), (2, u "extended"), (0, u "Z"), (2, u "layout"), (0, u "Lcom/example/bitmend/bitmend/code/Layout;"), (20, u "isCheckPosition"), (0, u "(I)Z"), (4, u "(I)I"), (141, u "bitCount"), (1, .class_ 200), (1, u "com/example/bitmend/bitmend/code/HammingCode$1"), (57, u "packedTables"), (2, .class_ 263), (1, u "com/example/bitmend/bitmend/code/HammingCode$PackedTables"), (40, u "byteTables"), (8, .class_ 315), (1, u "com/example/bitmend/bitmend/code/HammingCode$ByteTables"), (41, .methodref 1 358), (0, .nameAndType 196 54), (29, u "Lcom/example/bitmend/bitmend/code/HammingCode$PackedTables;"), (11, u "Lcom/example/bitmend/bitmend/code/HammingCode$ByteTables;"), (19, u "BIG_ENDIAN_LONGS"), (0, u "Ljava/lang/invoke/VarHandle;"), (38, u "MAX_DATA_BITS"), (1, u "MAX_PACKED_LENGTH"), (1, u "MAX_BYTES_LENGTH")] 129

def k2c0 : Code := { maxStack := 2, maxLocals := 1, code := prog_9_method_42_code, exceptionTable := #[], attributes := #[] }
def k2m0 : Method := { name := "isCheckPosition", desc := "(I)Z", sig := { parameters := [.int], returnType := some .boolean }, accessFlags := 8, code := some k2c0 }
/-- com/example/bitmend/bitmend/code/HammingCode -/
def k2 : Class := { plain "com/example/bitmend/bitmend/code/HammingCode" (some 0) with
  accessFlags := 49
  interfaces := #[]
  cf := some (fileOf pool2 12 #[.nestMembers #[198, 313, 261]] #[{ accessFlags := 8, nameIndex := 48, descriptorIndex := 49, attributes := #[] }] 49 6 #[] #[{ accessFlags := 25, nameIndex := 460, descriptorIndex := 16, attributes := #[] }, { accessFlags := 25, nameIndex := 462, descriptorIndex := 16, attributes := #[] }, { accessFlags := 25, nameIndex := 464, descriptorIndex := 16, attributes := #[] }, { accessFlags := 26, nameIndex := 420, descriptorIndex := 421, attributes := #[] }, { accessFlags := 18, nameIndex := 15, descriptorIndex := 16, attributes := #[] }, { accessFlags := 18, nameIndex := 19, descriptorIndex := 16, attributes := #[] }, { accessFlags := 18, nameIndex := 22, descriptorIndex := 23, attributes := #[] }, { accessFlags := 18, nameIndex := 26, descriptorIndex := 27, attributes := #[] }, { accessFlags := 2, nameIndex := 258, descriptorIndex := 388, attributes := #[] }, { accessFlags := 2, nameIndex := 304, descriptorIndex := 400, attributes := #[] }])
  fields := #[{ name := "MAX_DATA_BITS", type := .int, accessFlags := 25, slot := 0, constantValue := 0 }, { name := "MAX_PACKED_LENGTH", type := .int, accessFlags := 25, slot := 1, constantValue := 0 }, { name := "MAX_BYTES_LENGTH", type := .int, accessFlags := 25, slot := 2, constantValue := 0 }, { name := "BIG_ENDIAN_LONGS", type := (.object "java/lang/invoke/VarHandle"), accessFlags := 26, slot := 3, constantValue := 0 }, { name := "dataBits", type := .int, accessFlags := 18, slot := 0, constantValue := 0 }, { name := "checkBits", type := .int, accessFlags := 18, slot := 1, constantValue := 0 }, { name := "extended", type := .boolean, accessFlags := 18, slot := 2, constantValue := 0 }, { name := "layout", type := (.object "com/example/bitmend/bitmend/code/Layout"), accessFlags := 18, slot := 3, constantValue := 0 }, { name := "packedTables", type := (.object "com/example/bitmend/bitmend/code/HammingCode$PackedTables"), accessFlags := 2, slot := 4, constantValue := 0 }, { name := "byteTables", type := (.object "com/example/bitmend/bitmend/code/HammingCode$ByteTables"), accessFlags := 2, slot := 5, constantValue := 0 }]
  methods := #[k2m0]
  instanceTypes := #[.int, .int, .boolean, (.object "com/example/bitmend/bitmend/code/Layout"), (.object "com/example/bitmend/bitmend/code/HammingCode$PackedTables"), (.object "com/example/bitmend/bitmend/code/HammingCode$ByteTables")]
  staticTypes := #[.int, .int, .int, (.object "java/lang/invoke/VarHandle")]
  resolved := Array.replicate 594 none
  statics := none }

def pool3 : Array CpInfo := pool [(1, .class_ 2), (0, u "java/io/Serializable"), (0, .class_ 4), (0, u "java/lang/Object")] 2

/-- java/io/Serializable -/
def k3 : Class := { plain "java/io/Serializable" (some 0) with
  accessFlags := 1537
  interfaces := #[]
  cf := some (fileOf pool3 1 #[] #[] 1537 3 #[] #[])
  fields := #[]
  methods := #[]
  instanceTypes := #[]
  staticTypes := #[]
  resolved := Array.replicate 7 none
  statics := none }

def pool4 : Array CpInfo := pool [(2, .class_ 4), (1, u "java/lang/Object"), (0, u "<init>"), (0, u "()V"), (1, .class_ 10), (1, u "java/lang/Number"), (2, .class_ 14), (0, u "java/io/Serializable"), (0, u "serialVersionUID"), (0, u "J")] 20

def k4m0 : Method := { name := "<init>", desc := "()V", sig := { parameters := [], returnType := none }, accessFlags := 1, code := none }
/-- java/lang/Number -/
def k4 : Class := { plain "java/lang/Number" (some 0) with
  accessFlags := 1057
  interfaces := #[3]
  cf := some (fileOf pool4 8 #[] #[{ accessFlags := 1, nameIndex := 5, descriptorIndex := 6, attributes := #[] }] 1057 2 #[13] #[{ accessFlags := 26, nameIndex := 15, descriptorIndex := 16, attributes := #[] }])
  fields := #[{ name := "serialVersionUID", type := .long, accessFlags := 26, slot := 0, constantValue := 0 }]
  methods := #[k4m0]
  instanceTypes := #[]
  staticTypes := #[.long]
  resolved := Array.replicate 37 none
  statics := none }

def pool5 : Array CpInfo := pool [(1, .class_ 2), (0, u "java/lang/Comparable"), (0, .class_ 4), (0, u "java/lang/Object")] 7

/-- java/lang/Comparable -/
def k5 : Class := { plain "java/lang/Comparable" (some 0) with
  accessFlags := 1537
  interfaces := #[]
  cf := some (fileOf pool5 1 #[] #[] 1537 3 #[] #[])
  fields := #[]
  methods := #[]
  instanceTypes := #[]
  staticTypes := #[]
  resolved := Array.replicate 12 none
  statics := none }

def pool6 : Array CpInfo := pool [(1, .class_ 2), (0, u "java/lang/constant/Constable"), (0, .class_ 4), (0, u "java/lang/Object")] 6

/-- java/lang/constant/Constable -/
def k6 : Class := { plain "java/lang/constant/Constable" (some 0) with
  accessFlags := 1537
  interfaces := #[]
  cf := some (fileOf pool6 1 #[] #[] 1537 3 #[] #[])
  fields := #[]
  methods := #[]
  instanceTypes := #[]
  staticTypes := #[]
  resolved := Array.replicate 11 none
  statics := none }

def pool7 : Array CpInfo := pool [(1, .class_ 2), (0, u "java/lang/constant/ConstantDesc"), (0, .class_ 4), (0, u "java/lang/Object")] 32

/-- java/lang/constant/ConstantDesc -/
def k7 : Class := { plain "java/lang/constant/ConstantDesc" (some 0) with
  accessFlags := 1537
  interfaces := #[]
  cf := some (fileOf pool7 1 #[] #[] 1537 3 #[] #[])
  fields := #[]
  methods := #[]
  instanceTypes := #[]
  staticTypes := #[]
  resolved := Array.replicate 37 none
  statics := none }

def pool8 : Array CpInfo := pool [(1, .class_ 2), (0, u "java/lang/Integer"), (16, u "digits"), (0, u "[C"), (33, u "(I)I"), (30, u "DigitOnes"), (0, u "[B"), (2, u "DigitTens"), (99, .class_ 190), (0, u "java/lang/Integer$IntegerCache"), (3, u "I"), (8, .class_ 204), (0, u "java/lang/Number"), (2, u "value"), (57, .integer 1431655765), (0, .integer 858993459), (0, .integer 252645135), (34, u "TYPE"), (0, u "Ljava/lang/Class;"), (0, .class_ 305), (0, u "java/lang/Comparable"), (0, .class_ 307), (0, u "java/lang/constant/Constable"), (0, .class_ 309), (0, u "java/lang/constant/ConstantDesc"), (0, u "MIN_VALUE"), (1, u "MAX_VALUE"), (3, u "SIZE"), (1, u "BYTES"), (1, u "serialVersionUID"), (0, u "J"), (85, u "bitCount")] 45

def k8c0 : Code := { maxStack := 3, maxLocals := 1, code := jdk_33_method_49_code, exceptionTable := #[], attributes := #[] }
def k8m0 : Method := { name := "bitCount", desc := "(I)I", sig := { parameters := [.int], returnType := some .int }, accessFlags := 9, code := some k8c0 }
/-- java/lang/Integer -/
def k8 : Class := { plain "java/lang/Integer" (some 4) with
  accessFlags := 49
  interfaces := #[5, 6, 7]
  cf := some (fileOf pool8 1 #[.nestMembers #[189]] #[{ accessFlags := 9, nameIndex := 407, descriptorIndex := 54, attributes := #[] }] 49 203 #[304, 306, 308] #[{ accessFlags := 25, nameIndex := 310, descriptorIndex := 194, attributes := #[] }, { accessFlags := 25, nameIndex := 312, descriptorIndex := 194, attributes := #[] }, { accessFlags := 25, nameIndex := 302, descriptorIndex := 303, attributes := #[] }, { accessFlags := 24, nameIndex := 19, descriptorIndex := 20, attributes := #[] }, { accessFlags := 24, nameIndex := 89, descriptorIndex := 86, attributes := #[] }, { accessFlags := 24, nameIndex := 85, descriptorIndex := 86, attributes := #[] }, { accessFlags := 18, nameIndex := 207, descriptorIndex := 194, attributes := #[] }, { accessFlags := 25, nameIndex := 316, descriptorIndex := 194, attributes := #[] }, { accessFlags := 25, nameIndex := 318, descriptorIndex := 194, attributes := #[] }, { accessFlags := 26, nameIndex := 320, descriptorIndex := 321, attributes := #[] }])
  fields := #[{ name := "MIN_VALUE", type := .int, accessFlags := 25, slot := 0, constantValue := 0 }, { name := "MAX_VALUE", type := .int, accessFlags := 25, slot := 1, constantValue := 0 }, { name := "TYPE", type := (.object "java/lang/Class"), accessFlags := 25, slot := 2, constantValue := 0 }, { name := "digits", type := (.array .char), accessFlags := 24, slot := 3, constantValue := 0 }, { name := "DigitTens", type := (.array .byte), accessFlags := 24, slot := 4, constantValue := 0 }, { name := "DigitOnes", type := (.array .byte), accessFlags := 24, slot := 5, constantValue := 0 }, { name := "value", type := .int, accessFlags := 18, slot := 0, constantValue := 0 }, { name := "SIZE", type := .int, accessFlags := 25, slot := 6, constantValue := 0 }, { name := "BYTES", type := .int, accessFlags := 25, slot := 7, constantValue := 0 }, { name := "serialVersionUID", type := .long, accessFlags := 26, slot := 8, constantValue := 0 }]
  methods := #[k8m0]
  instanceTypes := #[.int]
  staticTypes := #[.int, .int, (.object "java/lang/Class"), (.array .char), (.array .byte), (.array .byte), .int, .int, .long]
  resolved := Array.replicate 453 none
  statics := none }

def pool9 : Array CpInfo := pool [(1, u "java/lang/Cloneable"), (0, .class_ 1), (0, u "java/lang/Object"), (0, .class_ 3)] 3

/-- java/lang/Cloneable -/
def k9 : Class := { plain "java/lang/Cloneable" (some 0) with
  accessFlags := 1537
  interfaces := #[]
  cf := some (fileOf pool9 2 #[] #[] 1537 4 #[] #[])
  fields := #[]
  methods := #[]
  instanceTypes := #[]
  staticTypes := #[]
  resolved := Array.replicate 8 none
  statics := none }

/-- the primitive byte -/
def k10 : Class := { plain "byte" none with kind := .primitive 'B', accessFlags := 0x411 }
/-- [B -/
def k11 : Class := { plain "[B" (some 0) with kind := .array 10 .byte, interfaces := #[9, 3], accessFlags := 1041 }

def heap : Heap := #[]
def classes : Array Class := #[k0, k1, k2, k3, k4, k5, k6, k7, k8, k9, k10, k11]
def interned : List (Array UInt16 × Addr) := []
def slotsUsed : Nat := 0
def theMethod : MethodId := ⟨1, 1⟩
def args0 : Array Value := #[.int 5, .int 7, .int 8]
def aboutOver (below : List Frame) : State where
  vm := { classes := classes, interned := interned.toArray }
  heap := heap
  slotsUsed := slotsUsed
  threads := #[{ frames := .invoking theMethod args0 :: below }]
def below0 : List Frame := [.native { method := ⟨0, 0⟩, args := #[] }]
def about1 : State := aboutOver below0
def p0 : Program := .bare "" "" ""
def e0 : Env := launch0.env 0 0 0
theorem w_frames : about1.frames = Frame.invoking theMethod args0 :: below0 := rfl
set_option maxRecDepth 65536 in
theorem w_args : argsFit about1.vm theMethod args0 = true := by decide +kernel
set_option maxRecDepth 65536 in
theorem w_heap : heapFits about1 = true := by decide +kernel
set_option maxRecDepth 65536 in
theorem w_runnable : about1.curStatus? = some .runnable := by decide +kernel
set_option maxRecDepth 65536 in
theorem w_alone : about1.alone = true := by decide +kernel
set_option maxRecDepth 65536 in
theorem w_named : about1.methodNamed? x = some theMethod := by decide +kernel
set_option maxRecDepth 65536 in
theorem w_hears : about1.hears theMethod below0 = true := by decide +kernel
set_option maxRecDepth 65536 in
theorem w_ripe : about1.ripe theMethod args0 below0 = true := by decide +kernel
theorem w_running : about1.status = .running := rfl
set_option maxRecDepth 65536 in
theorem w_room : about1.hasRoom e0.platform room_1 = true :=
  launch0.hasRoom_least _ room_1 (by decide +kernel) (by decide +kernel) (by decide +kernel) (by decide +kernel) (by decide +kernel) (by decide +kernel)
theorem allAtoms_all (ts : List Jvm.Cond) (a : Array Jvm.Value) (st : Jvm.State) : (allAtoms ts).before a st = ts.all (fun c => c.before a st) := by
  induction ts with
  | nil => rfl
  | cons c t ih =>
    show (Jvm.Cond.and c (allAtoms t)).before a st = _
    rw [Jvm.Cond.before_and, ih, List.all_cons]
def words1 : List Jvm.Cond := Jvm.Cond.code x code maxLocals ret :: tables_1
/-- a 'code' word, met by the world's own term for the bytes: nothing is compared byte by byte -/
theorem code_word {y : MethodName} {bytes : ByteArray} {mx : Nat} {rt : Option FieldType} {a : Array Value} {s : State} {m : MethodId} {meth : Method} {c : Code} (h1 : s.methodNamed? y = some m) (h2 : s.vm.method? m = some meth) (h3 : meth.code = some c) (h4 : c.code = bytes)
    (h5 : (c.maxLocals == mx && c.exceptionTable.isEmpty && decide (c.maxStack ≤ mostOperands) && decide (meth.sig.returnType = rt) && !meth.locks && decide (parseMethodDescriptor y.desc = some meth.sig)) = true) : (Jvm.Cond.code y bytes mx rt).before a s = true := by
  simp only [Bool.and_eq_true, beq_iff_eq, Bool.not_eq_true', decide_eq_true_eq] at h5
  obtain ⟨⟨⟨⟨⟨g1, g2⟩, g3⟩, g4⟩, g5⟩, g6⟩ := h5
  simp [Cond.before, Cond.holds, Cond.value, h1, h2, h3, h4, g1, g2, g3, g4, g5, g6]
def isCode : Jvm.Cond → Bool
  | .code _ _ _ _ => true
  | _ => false
theorem all_split {L : List Jvm.Cond} {P : Jvm.Cond → Bool} (h1 : L.all (fun c => isCode c || P c) = true) (h2 : ∀ c ∈ L.filter isCode, P c = true) : L.all P = true := by
  refine List.all_eq_true.mpr fun c hc => ?_
  have h := List.all_eq_true.mp h1 c hc
  rcases Bool.eq_false_or_eq_true (isCode c) with hi | hi
  · exact h2 c (List.mem_filter.mpr ⟨hc, hi⟩)
  · simpa [hi] using h
set_option maxRecDepth 65536 in
theorem w_c0 : (Jvm.Cond.code x code maxLocals ret).before args0 about1 = true := code_word (m := ⟨1, 1⟩) (meth := k1m1) (c := k1c1) (by decide +kernel) rfl rfl rfl (by decide +kernel)
set_option maxRecDepth 65536 in
theorem w_c1 : (Jvm.Cond.code ({ cls := "com/example/bitmend/bitmend/code/HammingCode", name := "isCheckPosition", desc := "(I)Z" } : Jvm.MethodName) prog_9_method_42_code (1 : Nat) (Option.some Jvm.ClassFile.FieldType.boolean)).before args0 about1 = true := code_word (m := ⟨2, 0⟩) (meth := k2m0) (c := k2c0) (by decide +kernel) rfl rfl rfl (by decide +kernel)
set_option maxRecDepth 65536 in
theorem w_c2 : (Jvm.Cond.code ({ cls := "java/lang/Integer", name := "bitCount", desc := "(I)I" } : Jvm.MethodName) jdk_33_method_49_code (1 : Nat) (Option.some Jvm.ClassFile.FieldType.int)).before args0 about1 = true := code_word (m := ⟨8, 0⟩) (meth := k8m0) (c := k8c0) (by decide +kernel) rfl rfl rfl (by decide +kernel)
def codes1 : List Jvm.Cond := [Jvm.Cond.code x code maxLocals ret, Jvm.Cond.code ({ cls := "com/example/bitmend/bitmend/code/HammingCode", name := "isCheckPosition", desc := "(I)Z" } : Jvm.MethodName) prog_9_method_42_code (1 : Nat) (Option.some Jvm.ClassFile.FieldType.boolean), Jvm.Cond.code ({ cls := "java/lang/Integer", name := "bitCount", desc := "(I)I" } : Jvm.MethodName) jdk_33_method_49_code (1 : Nat) (Option.some Jvm.ClassFile.FieldType.int)]
set_option maxRecDepth 65536 in
theorem codes_eq : words1.filter isCode = codes1 := rfl
theorem w_codes : ∀ c ∈ words1.filter isCode, c.before args0 about1 = true := by
  rw [codes_eq]
  intro c hc
  simp only [codes1, List.mem_cons, List.not_mem_nil, or_false] at hc
  rcases hc with rfl | rfl | rfl
  · exact w_c0
  · exact w_c1
  · exact w_c2
set_option maxRecDepth 65536 in
theorem w_t1 : words1.all (fun c => isCode c || c.before args0 about1) = true := by decide +kernel
theorem w_tables : (allAtoms (Jvm.Cond.code x code maxLocals ret :: tables_1)).before args0 about1 = true := by
  rw [allAtoms_all]
  show words1.all (fun c => c.before args0 about1) = true
  refine all_split ?_ w_codes
  rw [w_t1]
set_option maxRecDepth 65536 in
theorem w_case : (Jvm.Cond.and given_1 narrow_1).before args0 about1 = true := by decide +kernel
theorem w_applies : (headSpec (Jvm.Cond.code x code maxLocals ret :: tables_1) room_1).applies x e0.platform about1 = true :=
  (Spec.applies_iff w_frames).mpr ⟨w_running, w_runnable, w_alone, w_named, w_hears, w_ripe, w_room, w_tables⟩
theorem atStart : AtStart classFile x code maxLocals ret World_1 tables_1 room_1 Calls_1 rest_1 Pre_1 launch0 p0 e0 about1 theMethod args0 below0 :=
  ⟨lists_1, trivial, launch0.admits_env _ _ _, launch0.least_env, fairChoices_fair.cas, fairChoices_fair.clock, w_frames, w_args, w_heap, w_applies, trivial, trivial, w_case⟩
end start1
theorem witness_1 : WitnessClaimed_1 := ⟨start1.p0, start1.e0, start1.about1, start1.theMethod, start1.args0, start1.below0, start1.atStart⟩
end Jvm.Pilot.@@N@@
