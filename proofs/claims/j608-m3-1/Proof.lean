import JvmDerived
import JvmDerived.Pilot.@@N@@Statement
import JvmDerived.Pilot.@@N@@Code
set_option linter.unusedVariables false
set_option linter.unusedSimpArgs false
@@BLOCK:NumsL.lean.txt@@
namespace Jvm.RoadKit
open Sem ClassFile Op Lib Jvm.Stand Jvm.Free Jvm.LawKit
section New
variable {p : Program} {l : Launch} {e : Env} {R : Room} {s : State} {m : MethodId} {args : Array Value} {below : List Frame} {meth : Method} {c : Code} {T : State} {locs : List Loc} {cells slots : Nat}
theorem retI (X : Stand p l e R s m args below meth c T locs cells slots) (hx : p.tables.exec = Jvm.exec) {pc : Nat} {Ls : Array Slot} {z : Int32} {rest : List Value} (hret : meth.sig.returnType = some .int) (hd : decode c.code pc = .ok (.ireturn, 1)) {fs : List Frame}
    (hl : ∀ (f : JFrame) (acts : List Action), f.method = m → f.locked = none → f.entered = [] → (doReturn e (T.setTop f) acts (some (.int z))).1 = T.setFrames fs) : Steps p.tables e below (T.setTop (mkF m pc Ls (.int z :: rest))) (T.setFrames fs) := by
  have hm' : T.vm.method? m = some meth := X.method'
  have hn : narrow .int (.int z) = .int z := rfl
  show Steps p.tables e below (T.setTop { method := m, pc := pc, locals := Ls, stack := _ :: rest, locked := none }) _
  jvm_step X.here [X.here.top, hx, hd, hm', hret, hn]
  first | (intro acts; rw [hl _ acts rfl rfl rfl]) | rw [hl _ _ rfl rfl rfl]
  exact Steps.refl _
end New
end Jvm.RoadKit
/- laws to paste: Road.backV, Road.chN, Road.codOf (cut by pick.py; bodies as the Statement names them) -/
namespace Jvm.Pilot.@@N@@
namespace StrChars
open Jvm Sem ClassFile Op Lib Jvm.Stand Jvm.Free.XT Jvm.Free.ALB Jvm.Free.JM Jvm.Free
open Jvm.Lib.Cold (StaticIs)
/-- a char array whose places are chars -/
def Ch (a : Addr) (A : Cell) (U : State) : Prop := Arr .char a A U ∧ Typed .char A
theorem Ch.mv {a : Addr} {A : Cell} {U U' : State} (h : Ch a A U) (hal : U.vm.Alike U'.vm) (hh : U'.heap = U.heap) : Ch a A U' := ⟨h.1.mv hal hh, h.2⟩
theorem Ch.keep {a : Addr} {A : Cell} {U U' : State} (h : Ch a A U) (hal : U.vm.Alike U'.vm) (hk : U'.heap[a]? = some A) : Ch a A U' := ⟨h.1.keep hal hk, h.2⟩
/-- what place i of a char[]'s cell holds -/
def cv (A : Cell) (i : Nat) : Int32 := match A.slots[i]? with | some (.int x) => x | _ => 0
theorem Ch.get {a : Addr} {A : Cell} {U : State} (h : Ch a A U) {i : Nat} (hi : i < A.slots.size) : A.slots[i]? = some (.int (cv A i)) := by
  have e := Array.getElem?_eq_getElem hi
  have f := h.2 i _ e
  unfold cv; rw [e]
  generalize A.slots[i] = v at f
  cases v <;> simp [fits] at f ⊢
/-- the byte that i2b leaves of a char -/
def lo8 (x : Int32) : Int32 := x.toInt8.toInt32
theorem fits_lo8 (y : Int32) : fits .byte (.int (lo8 y)) = true := by
  have h1 := y.toInt8.le_toInt
  have h2 := y.toInt8.toInt_lt
  simp only [lo8, fits, Bool.and_eq_true, decide_eq_true_eq, Int32.le_iff_toInt_le, Int8.toInt_toInt32, show (-128 : Int32).toInt = -128 from by decide, show (127 : Int32).toInt = 127 from by decide]
  omega
/-- A' is A but that each place j of lo .. hi - 1 holds f j -/
def Laid (A A' : Cell) (lo hi : Nat) (f : Nat → Value) : Prop := A'.cls = A.cls ∧ A'.vm = A.vm ∧ A'.slots.size = A.slots.size ∧ ∀ i, A'.slots[i]? = if lo ≤ i ∧ i < hi then some (f i) else A.slots[i]?
theorem Laid.zero (A : Cell) (lo : Nat) (f : Nat → Value) : Laid A A lo (lo + 0) f := ⟨rfl, rfl, rfl, fun i => by rw [if_neg (by omega)]⟩
theorem Laid.step {A Ak : Cell} {lo k : Nat} {f : Nat → Value} {v : Value} (h : Laid A Ak lo k f) (hlo : lo ≤ k) (hk : k < Ak.slots.size) (hv : v = f k) : Laid A (Ak.setSlot k v) lo (k + 1) f := by
  refine ⟨h.1, h.2.1, by simpa [Cell.setSlot] using h.2.2.1, fun i => ?_⟩
  by_cases e : k = i
  · subst e; rw [Cell.slots_setSlot_self v hk, if_pos (by omega), hv]
  · rw [Cell.slots_setSlot_ne v e, h.2.2.2 i]
    by_cases q : lo ≤ i ∧ i < k
    · rw [if_pos q, if_pos (by omega)]
    · rw [if_neg q, if_neg (by omega)]
def U16 : String := "java/lang/StringUTF16"
namespace Cmp5
def yN : MethodName := ⟨"java/lang/StringUTF16", "compress", "([CI[BII)I"⟩
abbrev yB : ByteArray := jdk_52_method_21_code
theorem d0 : decode yB 0 = .ok (.iconst 0, 1) := by decide +kernel
theorem d1 : decode yB 1 = .ok (.istore 5, 2) := by decide +kernel
theorem d3 : decode yB 3 = .ok (.iload 5, 2) := by decide +kernel
theorem d5 : decode yB 5 = .ok (.iload 4, 2) := by decide +kernel
theorem d7 : decode yB 7 = .ok (.if_icmp (.ge) 37, 3) := by decide +kernel
theorem d10 : decode yB 10 = .ok (.aload_n 0, 1) := by decide +kernel
theorem d11 : decode yB 11 = .ok (.iload_n 1, 1) := by decide +kernel
theorem d12 : decode yB 12 = .ok (.caload, 1) := by decide +kernel
theorem d13 : decode yB 13 = .ok (.istore 6, 2) := by decide +kernel
theorem d15 : decode yB 15 = .ok (.iload 6, 2) := by decide +kernel
theorem d17 : decode yB 17 = .ok (.sipush 255, 3) := by decide +kernel
theorem d20 : decode yB 20 = .ok (.if_icmp (.le) 6, 3) := by decide +kernel
theorem d26 : decode yB 26 = .ok (.aload_n 2, 1) := by decide +kernel
theorem d27 : decode yB 27 = .ok (.iload_n 3, 1) := by decide +kernel
theorem d28 : decode yB 28 = .ok (.iload 6, 2) := by decide +kernel
theorem d30 : decode yB 30 = .ok (.i2b, 1) := by decide +kernel
theorem d31 : decode yB 31 = .ok (.bastore, 1) := by decide +kernel
theorem d32 : decode yB 32 = .ok (.iinc 1 1, 3) := by decide +kernel
theorem d35 : decode yB 35 = .ok (.iinc 3 1, 3) := by decide +kernel
theorem d38 : decode yB 38 = .ok (.iinc 5 1, 3) := by decide +kernel
theorem d41 : decode yB 41 = .ok (.goto (-38), 3) := by decide +kernel
theorem d44 : decode yB 44 = .ok (.iload 4, 2) := by decide +kernel
theorem d46 : decode yB 46 = .ok (.ireturn, 1) := by decide +kernel
def site : List Cond := []
def tab : Cond := tabOf yN yB 7 (some .int) site
def P (b : Addr) (A : Cell) (d : Addr) (B : Cell) (o q len : Nat) (args : Array Value) (s : State) : Prop := args = #[.ref b, .int (Int32.ofNat o), .ref d, .int (Int32.ofNat q), .int (Int32.ofNat len)] ∧ Ch b A s ∧ Arr .byte d B s ∧ b ≠ d ∧ o + len ≤ A.slots.size ∧ q + len ≤ B.slots.size ∧ ∀ i, i < len → ¬ 255 < cv A (o + i)
def E (b : Addr) (A : Cell) (d : Addr) (B : Cell) (o q len : Nat) (r : Option Value) (s u : State) : Prop := r = some (.int (Int32.ofNat len)) ∧ ∃ B', Put d B' s u ∧ Laid B B' q (q + len) (fun j => Value.int (lo8 (cv A (o + (j - q)))))
/-- no char of the range above 255: len; the places written hold each char's low byte -/
theorem law (l : Launch) (b : Addr) (A : Cell) (d : Addr) (B : Cell) (o q len : Nat) : Law l yN 5 5 0 0 yB 7 (some .int) site (P b A d B o q len) (E b A d B o q len) (copyLocs d q len) 0 0 := by
  refine Law.of_walk (plainFor_of_name (by decide +kernel)) (by decide +kernel) (by decide +kernel) (by decide) (fun _ _ h => by rw [h.1]; rfl) (fun _ U U' hal hh h => ⟨h.1, h.2.1.mv hal hh, h.2.2.1.mv hal hh, h.2.2.2⟩) (fun r U U' V V' h1 hal h2 h => ⟨h.1, h.2.elim fun B' q => ⟨B', q.1.mv h1 h2, q.2⟩⟩) ?_
  intro p e s m args below meth c s₁ X0 hexec hbytes hml hret hlk hnm hown hh0 W hP
  obtain ⟨rfl, hA, hB, hne, l1, l2, hp⟩ := hP
  have c1 : Steps p.tables e below (s₁.setTop (entryFrame m #[.ref b, .int (Int32.ofNat o), .ref d, .int (Int32.ofNat q), .int (Int32.ofNat len)] 7)) (s₁.setTop (mkF m 0 #[.val (.ref b), .val (.int (Int32.ofNat o)), .val (.ref d), .val (.int (Int32.ofNat q)), .val (.int (Int32.ofNat len)), .unset, .unset] [])) := entry rfl
  have hA0 := hA.1.mv X0.warmed.alike hh0
  have hB0 := hB.mv X0.warmed.alike hh0
  have a31 := hA.1.2.2.2
  have c2 : Steps p.tables e below (s₁.setTop (entryFrame m #[.ref b, .int (Int32.ofNat o), .ref d, .int (Int32.ofNat q), .int (Int32.ofNat len)] 7)) (s₁.setTop (mkF m 3 #[.val (.ref b), .val (.int (Int32.ofNat o)), .val (.ref d), .val (.int (Int32.ofNat q)), .val (.int (Int32.ofNat len)), .val (.int 0), .unset] [])) := c1.trans (by
    refine iconstV X0.here hexec rfl 0 (hb hbytes d0) (by decide) ?_
    refine XS.istore X0.here hexec rfl (hb hbytes d1) rfl rfl ?_
    exact Steps.refl _)
  have loop : ∀ (r i : Nat), i + r = len → ∀ (z : Slot), (z = .unset ∨ ∃ w, z = .val w ∧ w.category = 1) → ∀ (Tl : State) (Bk : Cell), Stand p l e { frames := 0, locals := 0, cells := 0, slots := 0 } s m #[.ref b, .int (Int32.ofNat o), .ref d, .int (Int32.ofNat q), .int (Int32.ofNat len)] below meth c Tl ([] ++ copyLocs d q i) 0 0 → Put d Bk s₁ Tl → Laid B Bk q (q + i) (fun j => Value.int (lo8 (cv A (o + (j - q))))) →
      Steps p.tables e below (s₁.setTop (entryFrame m #[.ref b, .int (Int32.ofNat o), .ref d, .int (Int32.ofNat q), .int (Int32.ofNat len)] 7)) (Tl.setTop (mkF m 3 #[.val (.ref b), .val (.int (Int32.ofNat (o + i))), .val (.ref d), .val (.int (Int32.ofNat (q + i))), .val (.int (Int32.ofNat len)), .val (.int (Int32.ofNat i)), z] [])) → ∃ (T' : State) (B' : Cell) (z' : Slot), Stand p l e { frames := 0, locals := 0, cells := 0, slots := 0 } s m #[.ref b, .int (Int32.ofNat o), .ref d, .int (Int32.ofNat q), .int (Int32.ofNat len)] below meth c T' ([] ++ copyLocs d q len) 0 0 ∧ Put d B' s₁ T' ∧ Laid B B' q (q + len) (fun j => Value.int (lo8 (cv A (o + (j - q))))) ∧
      Steps p.tables e below (s₁.setTop (entryFrame m #[.ref b, .int (Int32.ofNat o), .ref d, .int (Int32.ofNat q), .int (Int32.ofNat len)] 7)) (T'.setTop (mkF m 3 #[.val (.ref b), .val (.int (Int32.ofNat (o + len))), .val (.ref d), .val (.int (Int32.ofNat (q + len))), .val (.int (Int32.ofNat len)), .val (.int (Int32.ofNat len)), z'] [])) := by
    intro r
    induction r with
    | zero =>
      intro i hi z hz Tl Bk Xl pl fl cl
      have hil : i = len := by omega
      rw [hil] at Xl fl cl
      exact ⟨Tl, Bk, z, Xl, pl, fl, cl⟩
    | succ r ih =>
      intro i hi z hz Tl Bk Xl pl fl cl
      have all := X0.warmed.alike.symm.trans Xl.warmed.alike
      have hAl := hA0.keep all (pl.other hne hA0.1)
      have hBk := hB0.like all pl.1 fl.1 fl.2.1 fl.2.2.1
      have hlt : q + i < Bk.slots.size := by rw [fl.2.2.1]; omega
      have c3 : Steps p.tables e below (s₁.setTop (entryFrame m #[.ref b, .int (Int32.ofNat o), .ref d, .int (Int32.ofNat q), .int (Int32.ofNat len)] 7)) (Tl.setTop (mkF m 12 #[.val (.ref b), .val (.int (Int32.ofNat (o + i))), .val (.ref d), .val (.int (Int32.ofNat (q + i))), .val (.int (Int32.ofNat len)), .val (.int (Int32.ofNat i)), z] [.int (Int32.ofNat (o + i)), .ref b])) := cl.trans (by
        refine XS.iload Xl.here hexec rfl (hb hbytes d3) rfl ?_
        refine XS.iload Xl.here hexec rfl (hb hbytes d5) rfl ?_
        refine XS.icmpNo Xl.here hexec rfl (hb hbytes d7) rfl (ii_ge_f (lt32 (by omega) (by omega))) ?_
        refine XS.aloadN Xl.here hexec rfl (hb hbytes d10) rfl rfl ?_
        refine XS.iloadN Xl.here hexec rfl (hb hbytes d11) rfl ?_
        exact Steps.refl _)
      have c4 : Steps p.tables e below (s₁.setTop (entryFrame m #[.ref b, .int (Int32.ofNat o), .ref d, .int (Int32.ofNat q), .int (Int32.ofNat len)] 7)) (Tl.setTop (mkF m 13 #[.val (.ref b), .val (.int (Int32.ofNat (o + i))), .val (.ref d), .val (.int (Int32.ofNat (q + i))), .val (.int (Int32.ofNat len)), .val (.int (Int32.ofNat i)), z] [.int (cv A (o + i))])) := c3.trans (by
        refine Xl.aget hexec hAl rfl (hA.get (i := o + i) (by omega)) rfl rfl (hb hbytes d12) ?_
        exact Steps.refl _)
      have c5 : Steps p.tables e below (s₁.setTop (entryFrame m #[.ref b, .int (Int32.ofNat o), .ref d, .int (Int32.ofNat q), .int (Int32.ofNat len)] 7)) (Tl.setTop (mkF m 15 #[.val (.ref b), .val (.int (Int32.ofNat (o + i))), .val (.ref d), .val (.int (Int32.ofNat (q + i))), .val (.int (Int32.ofNat len)), .val (.int (Int32.ofNat i)), .val (.int (cv A (o + i)))] [])) := c4.trans (by
        refine XS.istoreS Xl.here hexec rfl (hb hbytes d13) rfl rfl hz ?_
        exact Steps.refl _)
      have c6 : Steps p.tables e below (s₁.setTop (entryFrame m #[.ref b, .int (Int32.ofNat o), .ref d, .int (Int32.ofNat q), .int (Int32.ofNat len)] 7)) (Tl.setTop (mkF m 31 #[.val (.ref b), .val (.int (Int32.ofNat (o + i))), .val (.ref d), .val (.int (Int32.ofNat (q + i))), .val (.int (Int32.ofNat len)), .val (.int (Int32.ofNat i)), .val (.int (cv A (o + i)))] [.int (lo8 (cv A (o + i))), .int (Int32.ofNat (q + i)), .ref d])) := c5.trans (by
        refine XS.iload Xl.here hexec rfl (hb hbytes d15) rfl ?_
        refine sipushV Xl.here hexec rfl 255 (hb hbytes d17) (by decide) ?_
        refine XS.icmpYes Xl.here hexec rfl (pc0 := 20) rfl (hb hbytes d20) rfl (ii_le_t (hp i (by omega))) (by decide) rfl ?_
        refine XS.aloadN Xl.here hexec rfl (hb hbytes d26) rfl rfl ?_
        refine XS.iloadN Xl.here hexec rfl (hb hbytes d27) rfl ?_
        refine XS.iload Xl.here hexec rfl (hb hbytes d28) rfl ?_
        refine i2b Xl.here hexec rfl (hb hbytes d30) rfl ?_
        exact Steps.refl _)
      obtain ⟨T7, X7, p7, st7⟩ := Xl.aput hexec hBk rfl hlt rfl (fits_lo8 (cv A (o + i))) (g := (mkF m 31 #[.val (.ref b), .val (.int (Int32.ofNat (o + i))), .val (.ref d), .val (.int (Int32.ofNat (q + i))), .val (.int (Int32.ofNat len)), .val (.int (Int32.ofNat i)), .val (.int (cv A (o + i)))] [.int (lo8 (cv A (o + i))), .int (Int32.ofNat (q + i)), .ref d])) rfl (rest := []) rfl (hb hbytes d31)
      have c8 : Steps p.tables e below (s₁.setTop (entryFrame m #[.ref b, .int (Int32.ofNat o), .ref d, .int (Int32.ofNat q), .int (Int32.ofNat len)] 7)) (T7.setTop (mkF m 32 #[.val (.ref b), .val (.int (Int32.ofNat (o + i))), .val (.ref d), .val (.int (Int32.ofNat (q + i))), .val (.int (Int32.ofNat len)), .val (.int (Int32.ofNat i)), .val (.int (cv A (o + i)))] [])) := c6.trans (st7 _ (Steps.refl _))
      have c9 : Steps p.tables e below (s₁.setTop (entryFrame m #[.ref b, .int (Int32.ofNat o), .ref d, .int (Int32.ofNat q), .int (Int32.ofNat len)] 7)) (T7.setTop (mkF m 3 #[.val (.ref b), .val (.int (Int32.ofNat (o + i) + 1)), .val (.ref d), .val (.int (Int32.ofNat (q + i) + 1)), .val (.int (Int32.ofNat len)), .val (.int (Int32.ofNat i + 1)), .val (.int (cv A (o + i)))] [])) := c8.trans (by
        refine iincV X7.here hexec rfl 1 (hb hbytes d32) (by decide) rfl rfl ?_
        refine iincV X7.here hexec rfl 1 (hb hbytes d35) (by decide) rfl rfl ?_
        refine iincV X7.here hexec rfl 1 (hb hbytes d38) (by decide) rfl rfl ?_
        refine XS.goto X7.here hexec rfl (pc0 := 41) rfl (hb hbytes d41) (by decide) rfl ?_
        exact Steps.refl _)
      have c10 : Steps p.tables e below (s₁.setTop (entryFrame m #[.ref b, .int (Int32.ofNat o), .ref d, .int (Int32.ofNat q), .int (Int32.ofNat len)] 7)) (T7.setTop (mkF m 3 #[.val (.ref b), .val (.int (Int32.ofNat (o + (i + 1)))), .val (.ref d), .val (.int (Int32.ofNat (q + (i + 1)))), .val (.int (Int32.ofNat len)), .val (.int (Int32.ofNat (i + 1))), .val (.int (cv A (o + i)))] [])) := by
        have := c9
        rw [succ32, succ32, succ32] at this
        exact this
      exact ih (i + 1) (by omega) _ (Or.inr ⟨_, rfl, rfl⟩) T7 _ (by rw [copyLocs_step, ← List.append_assoc]; exact X7) (pl.trans p7) (fl.step (by omega) hlt (by simp)) c10
  obtain ⟨T9, B9, z9, X9, p9, f9, g9⟩ := loop len 0 (by omega) .unset (Or.inl rfl) s₁ B (by simpa [copyLocs] using X0) ⟨hB0.1, fun _ _ => rfl, rfl⟩ (Laid.zero _ _ _) c2
  have c11 : Steps p.tables e below (s₁.setTop (entryFrame m #[.ref b, .int (Int32.ofNat o), .ref d, .int (Int32.ofNat q), .int (Int32.ofNat len)] 7)) (T9.setTop (mkF m 46 #[.val (.ref b), .val (.int (Int32.ofNat (o + len))), .val (.ref d), .val (.int (Int32.ofNat (q + len))), .val (.int (Int32.ofNat len)), .val (.int (Int32.ofNat len)), z9] [.int (Int32.ofNat len)])) := g9.trans (by
    refine XS.iload X9.here hexec rfl (hb hbytes d3) rfl ?_
    refine XS.iload X9.here hexec rfl (hb hbytes d5) rfl ?_
    refine XS.icmpYes X9.here hexec rfl (pc0 := 7) rfl (hb hbytes d7) rfl (ii_ge_t (nlt32 (by omega) (Nat.le_refl _))) (by decide) rfl ?_
    refine XS.iload X9.here hexec rfl (hb hbytes d44) rfl ?_
    exact Steps.refl _)
  exact ⟨T9, some (.int (Int32.ofNat len)), _, _, _, X9, by simp, rfl, rfl, (fun h => by cases h), ⟨rfl, B9, p9.from hh0, f9⟩, fun fs hl => c11.trans (X9.ireturnOut hexec hret rfl (Or.inl rfl) (hb hbytes d46) hl)⟩
end Cmp5
namespace Cmp3
def yN : MethodName := ⟨"java/lang/StringUTF16", "compress", "([CII)[B"⟩
abbrev yB : ByteArray := jdk_52_method_16_code
theorem d0 : decode yB 0 = .ok (.iload_n 2, 1) := by decide +kernel
theorem d1 : decode yB 1 = .ok (.newarray .byte, 2) := by decide +kernel
theorem d3 : decode yB 3 = .ok (.astore_n 3, 1) := by decide +kernel
theorem d4 : decode yB 4 = .ok (.aload_n 0, 1) := by decide +kernel
theorem d5 : decode yB 5 = .ok (.iload_n 1, 1) := by decide +kernel
theorem d6 : decode yB 6 = .ok (.aload_n 3, 1) := by decide +kernel
theorem d7 : decode yB 7 = .ok (.iconst 0, 1) := by decide +kernel
theorem d8 : decode yB 8 = .ok (.iload_n 2, 1) := by decide +kernel
theorem d9 : decode yB 9 = .ok (.invokestatic 115, 3) := by decide +kernel
theorem d12 : decode yB 12 = .ok (.istore 4, 2) := by decide +kernel
theorem d14 : decode yB 14 = .ok (.iload 4, 2) := by decide +kernel
theorem d16 : decode yB 16 = .ok (.iload_n 2, 1) := by decide +kernel
theorem d17 : decode yB 17 = .ok (.if_icmp (.eq) 40, 3) := by decide +kernel
theorem d57 : decode yB 57 = .ok (.aload_n 3, 1) := by decide +kernel
theorem d58 : decode yB 58 = .ok (.areturn, 1) := by decide +kernel
def site : List Cond := [.arrayClass .byte, Cmp5.tab] ++ staticW U16 115 Cmp5.yN
def tab : Cond := tabOf yN yB 6 (some (.array .byte)) site
def P (b : Addr) (A : Cell) (o len : Nat) (args : Array Value) (s : State) : Prop := args = #[.ref b, .int (Int32.ofNat o), .int (Int32.ofNat len)] ∧ Ch b A s ∧ o + len ≤ A.slots.size ∧ len ≤ 536870912 ∧ ∀ i, i < len → ¬ 255 < cv A (o + i)
def E (b : Addr) (A : Cell) (o len : Nat) (r : Option Value) (s u : State) : Prop := NewArr .byte "[B" len (fun j => .int (lo8 (cv A (o + j)))) r s u ∧ u.heap.size = s.heap.size + 1
/-- no char of the range above 255: a new byte[] of their low bytes -/
theorem law (l : Launch) (b : Addr) (A : Cell) (o len : Nat) : Law l yN 3 3 1 18 yB 6 (some (.array .byte)) site (P b A o len) (E b A o len) [] 1 len := by
  refine Law.of_walk (plainFor_of_name (by decide +kernel)) (by decide +kernel) (by decide +kernel) (by decide) (fun _ _ h => by rw [h.1]; rfl) (fun _ U U' hal hh h => ⟨h.1, h.2.1.mv hal hh, h.2.2⟩) (fun r U U' V V' h1 hal h2 h => ⟨NewArr.mv r U U' V V' h1 hal h2 h.1, by rw [h1, h2]; exact h.2⟩) ?_
  intro p e s m args below meth c s₁ X0 hexec hbytes hml hret hlk hnm hown hh0 W hP
  obtain ⟨rfl, hA, l1, l2, hp⟩ := hP
  have a31 := hA.1.2.2.2
  have c1 : Steps p.tables e below (s₁.setTop (entryFrame m #[.ref b, .int (Int32.ofNat o), .int (Int32.ofNat len)] 6)) (s₁.setTop (mkF m 0 #[.val (.ref b), .val (.int (Int32.ofNat o)), .val (.int (Int32.ofNat len)), .unset, .unset, .unset] [])) := entry rfl
  have c2 : Steps p.tables e below (s₁.setTop (entryFrame m #[.ref b, .int (Int32.ofNat o), .int (Int32.ofNat len)] 6)) (s₁.setTop (mkF m 1 #[.val (.ref b), .val (.int (Int32.ofNat o)), .val (.int (Int32.ofNat len)), .unset, .unset, .unset] [.int (Int32.ofNat len)])) := c1.trans (by
    refine XS.iloadN X0.here hexec rfl (hb hbytes d0) rfl ?_
    exact Steps.refl _)
  obtain ⟨T3, B3, X3, ba3, bs3, bv3, bh3, bf3, st3⟩ := X0.anew hexec (atype := .byte) (wk W (.arrayClass .byte)) rfl (by show len * 1 ≤ _; omega) (by omega) (g := (mkF m 1 #[.val (.ref b), .val (.int (Int32.ofNat o)), .val (.int (Int32.ofNat len)), .unset, .unset, .unset] [.int (Int32.ofNat len)])) rfl (hb hbytes d1) (rest := []) rfl (Nat.le_refl _) (by show 0 + len ≤ len; omega)
  rw [hh0] at ba3 st3
  have kp3 : XT.Kept s T3 := (XT.Kept.of_eq hh0).push bh3
  have hA3 := hA.keep X3.warmed.alike (kp3 _ _ hA.1.1)
  have hne : b ≠ s.heap.size := hA.1.ne
  have c4 : Steps p.tables e below (s₁.setTop (entryFrame m #[.ref b, .int (Int32.ofNat o), .int (Int32.ofNat len)] 6)) (T3.setTop (mkF m 3 #[.val (.ref b), .val (.int (Int32.ofNat o)), .val (.int (Int32.ofNat len)), .unset, .unset, .unset] [.ref s.heap.size])) := c2.trans (st3 _ (Steps.refl _))
  have c5 : Steps p.tables e below (s₁.setTop (entryFrame m #[.ref b, .int (Int32.ofNat o), .int (Int32.ofNat len)] 6)) (T3.setTop (mkF m 9 #[.val (.ref b), .val (.int (Int32.ofNat o)), .val (.int (Int32.ofNat len)), .val (.ref s.heap.size), .unset, .unset] [.int (Int32.ofNat len), .int 0, .ref s.heap.size, .int (Int32.ofNat o), .ref b])) := c4.trans (by
    refine XS.astoreN X3.here hexec rfl (hb hbytes d3) rfl rfl rfl ?_
    refine XS.aloadN X3.here hexec rfl (hb hbytes d4) rfl rfl ?_
    refine XS.iloadN X3.here hexec rfl (hb hbytes d5) rfl ?_
    refine XS.aloadN X3.here hexec rfl (hb hbytes d6) rfl rfl ?_
    refine iconstV X3.here hexec rfl 0 (hb hbytes d7) (by decide) ?_
    refine XS.iloadN X3.here hexec rfl (hb hbytes d8) rfl ?_
    exact Steps.refl _)
  obtain ⟨v6, T6, X6, E6, g6⟩ := X3.callS hexec (Cmp5.law l b A s.heap.size B3 o 0 len) hown (wks W (staticW U16 115 Cmp5.yN)) (wk W Cmp5.tab) (W := 0) (Nat.le_of_ble_eq_true rfl) (Nat.le_of_ble_eq_true rfl) (Nat.le_refl _) (by show 0 + len + 0 ≤ len; omega) (g := (mkF m 9 #[.val (.ref b), .val (.int (Int32.ofNat o)), .val (.int (Int32.ofNat len)), .val (.ref s.heap.size), .unset, .unset] [.int (Int32.ofNat len), .int (Int32.ofNat 0), .ref s.heap.size, .int (Int32.ofNat o), .ref b])) rfl (by rw [hml]; rfl) c5 (argsL := [.ref b, .int (Int32.ofNat o), .ref s.heap.size, .int (Int32.ofNat 0), .int (Int32.ofNat len)]) (rest := []) rfl rfl (by show 2 * 0 + 0 ≤ _; decide) (hb hbytes d9) (⟨rfl, hA3, ba3, hne, l1, by rw [bs3]; simp, hp⟩)
  obtain ⟨rfl, B6, p6, f6⟩ := E6
  have c7 : Steps p.tables e below (s₁.setTop (entryFrame m #[.ref b, .int (Int32.ofNat o), .int (Int32.ofNat len)] 6)) (T6.setTop (mkF m 12 #[.val (.ref b), .val (.int (Int32.ofNat o)), .val (.int (Int32.ofNat len)), .val (.ref s.heap.size), .unset, .unset] [.int (Int32.ofNat len)])) := g6
  have c8 : Steps p.tables e below (s₁.setTop (entryFrame m #[.ref b, .int (Int32.ofNat o), .int (Int32.ofNat len)] 6)) (T6.setTop (mkF m 58 #[.val (.ref b), .val (.int (Int32.ofNat o)), .val (.int (Int32.ofNat len)), .val (.ref s.heap.size), .val (.int (Int32.ofNat len)), .unset] [.ref s.heap.size])) := c7.trans (by
    refine XS.istore X6.here hexec rfl (hb hbytes d12) rfl rfl ?_
    refine XS.iload X6.here hexec rfl (hb hbytes d14) rfl ?_
    refine XS.iloadN X6.here hexec rfl (hb hbytes d16) rfl ?_
    refine XS.icmpYes X6.here hexec rfl (pc0 := 17) rfl (hb hbytes d17) rfl (ii_eq_t rfl) (by decide) rfl ?_
    refine XS.aloadN X6.here hexec rfl (hb hbytes d57) rfl rfl ?_
    exact Steps.refl _)
  have X8 := X6.wide (L' := []) (cells' := 1) (slots' := len) (fun x hx hlt => by
    simp only [List.nil_append, copyLocs, List.mem_map, List.mem_range] at hx
    obtain ⟨i, -, rfl⟩ := hx
    exact absurd hlt (Nat.lt_irrefl _)) (Nat.le_refl _) (by omega)
  exact ⟨T6, some (.ref s.heap.size), _, _, _, X8, rfl, rfl, rfl, (fun h => by cases h), ⟨⟨rfl, B6, ba3.like (X3.warmed.alike.symm.trans X6.warmed.alike) p6.1 f6.1 f6.2.1 f6.2.2.1, f6.2.1.trans bv3, by rw [X6.warmed.alike.findClass, f6.1]; exact bf3, by rw [f6.2.2.1, bs3]; simp, fun j hj => by rw [f6.2.2.2 j, if_pos (by omega)]; rfl, kp3.put p6 (Nat.le_refl _)⟩, by rw [p6.2.2, bh3, hh0]; simp⟩, fun fs hl => c8.trans (X8.areturnOut hexec rfl hret rfl (hb hbytes d58) hl)⟩
end Cmp3
namespace CodL
def yN : MethodName := ⟨"java/lang/StringUTF16", "coderFromArrayLen", "([BI)B"⟩
abbrev yB : ByteArray := jdk_52_method_15_code
theorem d0 : decode yB 0 = .ok (.iload_n 1, 1) := by decide +kernel
theorem d1 : decode yB 1 = .ok (.aload_n 0, 1) := by decide +kernel
theorem d2 : decode yB 2 = .ok (.arraylength, 1) := by decide +kernel
theorem d3 : decode yB 3 = .ok (.isub, 1) := by decide +kernel
theorem d4 : decode yB 4 = .ok (.bipush 31, 2) := by decide +kernel
theorem d6 : decode yB 6 = .ok (.iushr, 1) := by decide +kernel
theorem d7 : decode yB 7 = .ok (.i2b, 1) := by decide +kernel
theorem d8 : decode yB 8 = .ok (.ireturn, 1) := by decide +kernel
def site : List Cond := []
def tab : Cond := tabOf yN yB 2 (some .byte) site
def P (d : Addr) (B : Cell) (args : Array Value) (s : State) : Prop := args = #[.ref d, .int (Int32.ofNat B.slots.size)] ∧ Arr .byte d B s
def E (r : Option Value) (s u : State) : Prop := XT.PureE (some (.int 0)) r s u
/-- an array as long as the number of chars: LATIN1 -/
theorem law (l : Launch) (d : Addr) (B : Cell) : Law l yN 2 2 0 0 yB 2 (some .byte) site (P d B) E [] 0 0 := by
  refine Law.of_walk (plainFor_of_name (by decide +kernel)) (by decide +kernel) (by decide +kernel) (by decide) (fun _ _ h => by rw [h.1]; rfl) (fun _ U U' hal hh h => ⟨h.1, h.2.mv hal hh⟩) (fun r U U' V V' h1 hal h2 h => XT.PureE.mv r U U' V V' h1 hal h2 h) ?_
  intro p e s m args below meth c s₁ X0 hexec hbytes hml hret hlk hnm hown hh0 W hP
  obtain ⟨rfl, hB⟩ := hP
  have hB0 := hB.mv X0.warmed.alike hh0
  have c1 : Steps p.tables e below (s₁.setTop (entryFrame m #[.ref d, .int (Int32.ofNat B.slots.size)] 2)) (s₁.setTop (mkF m 0 #[.val (.ref d), .val (.int (Int32.ofNat B.slots.size))] [])) := entry rfl
  have c2 : Steps p.tables e below (s₁.setTop (entryFrame m #[.ref d, .int (Int32.ofNat B.slots.size)] 2)) (s₁.setTop (mkF m 2 #[.val (.ref d), .val (.int (Int32.ofNat B.slots.size))] [.ref d, .int (Int32.ofNat B.slots.size)])) := c1.trans (by
    refine XS.iloadN X0.here hexec rfl (hb hbytes d0) rfl ?_
    refine XS.aloadN X0.here hexec rfl (hb hbytes d1) rfl rfl ?_
    exact Steps.refl _)
  have c3 : Steps p.tables e below (s₁.setTop (entryFrame m #[.ref d, .int (Int32.ofNat B.slots.size)] 2)) (s₁.setTop (mkF m 8 #[.val (.ref d), .val (.int (Int32.ofNat B.slots.size))] [.int (lo8 (ushr (Int32.ofNat B.slots.size - Int32.ofNat B.slots.size) 31))])) := c2.trans (by
    refine X0.alen hexec hB0 rfl rfl (hb hbytes d2) ?_
    refine XS.isub X0.here hexec rfl (hb hbytes d3) rfl ?_
    refine bipushV X0.here hexec rfl 31 (hb hbytes d4) (by decide) ?_
    refine iushr X0.here hexec rfl (hb hbytes d6) rfl ?_
    refine i2b X0.here hexec rfl (hb hbytes d7) rfl ?_
    exact Steps.refl _)
  have e0 : lo8 (ushr (Int32.ofNat B.slots.size - Int32.ofNat B.slots.size) 31) = 0 := by rw [Int32.sub_self]; decide
  rw [e0] at c3
  exact ⟨s₁, some (.int 0), _, _, _, X0, rfl, rfl, rfl, (fun h => by cases h), ⟨rfl, hh0⟩, fun fs hl => c3.trans (X0.ireturnOut hexec hret rfl (Or.inr (Or.inr (Or.inl rfl))) (hb hbytes d8) hl)⟩
end CodL
/-- the String at a is Latin-1 over a new byte[] (the heap's one new cell): the low bytes of the len chars of A from o on; every cell but a is kept -/
def Got (a : Addr) (D : Cell) (fV fC : Field) (A : Cell) (o len : Nat) (r : Option Value) (s u : State) : Prop := r = none ∧ ∃ D' V : Cell, Blank "java/lang/String" a D' u ∧ Same D D' [fV.slot, fC.slot] ∧ D'.slots[fV.slot]? = some (.ref s.heap.size) ∧ D'.slots[fC.slot]? = some (.int 0) ∧ Arr .byte s.heap.size V u ∧ V.vm = .none ∧ u.vm.findClass "[B" = some V.cls ∧ V.slots.size = len ∧ (∀ j, j < len → V.slots[j]? = some (.int (lo8 (cv A (o + j))))) ∧ (∀ (y : Addr) (c : Cell), y ≠ a → s.heap[y]? = some c → u.heap[y]? = some c) ∧ u.heap.size = s.heap.size + 1
theorem Got.mv {a : Addr} {D A : Cell} {fV fC : Field} {o len : Nat} : ∀ r (U U' V V' : State), U'.heap = U.heap → V.vm.Alike V'.vm → V'.heap = V.heap → Got a D fV fC A o len r U V → Got a D fV fC A o len r U' V' :=
  fun r U U' V V' h1 hal h2 ⟨e0, D', X, a1, a2, a3, a4, a5, a6, a7, a8, a9, a10, a11⟩ => ⟨e0, D', X, a1.mv hal h2, a2, by rw [h1]; exact a3, a4, by rw [h1]; exact a5.mv hal h2, a6, by rw [hal.findClass]; exact a7, a8, a9, by rw [h1, h2]; exact a10, by rw [h1, h2]; exact a11⟩
namespace New4
def yN : MethodName := ⟨"java/lang/String", "<init>", "([CIILjava/lang/Void;)V"⟩
abbrev yB : ByteArray := jdk_42_method_149_code
theorem d0 : decode yB 0 = .ok (.aload_n 0, 1) := by decide +kernel
theorem d1 : decode yB 1 = .ok (.invokespecial 1, 3) := by decide +kernel
theorem d4 : decode yB 4 = .ok (.iload_n 3, 1) := by decide +kernel
theorem d5 : decode yB 5 = .ok (.ifCond (.ne) 22, 3) := by decide +kernel
theorem d27 : decode yB 27 = .ok (.getstatic 38, 3) := by decide +kernel
theorem d30 : decode yB 30 = .ok (.ifCond (.eq) 28, 3) := by decide +kernel
theorem d33 : decode yB 33 = .ok (.aload_n 1, 1) := by decide +kernel
theorem d34 : decode yB 34 = .ok (.iload_n 2, 1) := by decide +kernel
theorem d35 : decode yB 35 = .ok (.iload_n 3, 1) := by decide +kernel
theorem d36 : decode yB 36 = .ok (.invokestatic 177, 3) := by decide +kernel
theorem d39 : decode yB 39 = .ok (.astore 5, 2) := by decide +kernel
theorem d41 : decode yB 41 = .ok (.aload_n 0, 1) := by decide +kernel
theorem d42 : decode yB 42 = .ok (.aload 5, 2) := by decide +kernel
theorem d44 : decode yB 44 = .ok (.iload_n 3, 1) := by decide +kernel
theorem d45 : decode yB 45 = .ok (.invokestatic 47, 3) := by decide +kernel
theorem d48 : decode yB 48 = .ok (.putfield 15, 3) := by decide +kernel
theorem d51 : decode yB 51 = .ok (.aload_n 0, 1) := by decide +kernel
theorem d52 : decode yB 52 = .ok (.aload 5, 2) := by decide +kernel
theorem d54 : decode yB 54 = .ok (.putfield 9, 3) := by decide +kernel
theorem d57 : decode yB 57 = .ok (.return_, 1) := by decide +kernel
def site : List Cond := [.fieldLink "java/lang/String" 38 "java/lang/String" "COMPACT_STRINGS" "Z", Cmp3.tab, CodL.tab, .laysFinal "java/lang/String" "java/lang/String" "value" "[B", .fieldLink "java/lang/String" 9 "java/lang/String" "value" "[B", .laysFinal "java/lang/String" "java/lang/String" "coder" "B", .fieldLink "java/lang/String" 15 "java/lang/String" "coder" "B"] ++ objW "java/lang/String" 1 ++ staticW "java/lang/String" 177 Cmp3.yN ++ staticW "java/lang/String" 47 CodL.yN
def tab : Cond := tabOf yN yB 6 none site
def P (a : Addr) (D : Cell) (fV fC : Field) (b : Addr) (A : Cell) (z : Int32) (o len : Nat) (args : Array Value) (s : State) : Prop := args = #[.ref a, .ref b, .int (Int32.ofNat o), .int (Int32.ofNat len), .null] ∧ Blank "java/lang/String" a D s ∧ Found "java/lang/String" "value" "[B" fV s ∧ Found "java/lang/String" "coder" "B" fC s ∧ Ch b A s ∧ StaticIs s "java/lang/String" "COMPACT_STRINGS" "Z" (.int z) ∧ ¬ z = 0 ∧ 0 < len ∧ o + len ≤ A.slots.size ∧ len ≤ 536870912 ∧ ∀ i, i < len → ¬ 255 < cv A (o + i)
def E (a : Addr) (D : Cell) (fV fC : Field) (A : Cell) (o len : Nat) (r : Option Value) (s u : State) : Prop := Got a D fV fC A o len r s u
/-- len > 0, no char of the range above 255: a Latin-1 String of their low bytes -/
theorem law (l : Launch) (a : Addr) (D : Cell) (fV fC : Field) (b : Addr) (A : Cell) (z : Int32) (o len : Nat) : Law l yN 5 4 2 35 yB 6 none site (P a D fV fC b A z o len) (E a D fV fC A o len) [⟨a, fC.slot⟩, ⟨a, fV.slot⟩] 1 len := by
  refine Law.of_walk (plainFor_of_name (by decide +kernel)) (by decide +kernel) (by decide +kernel) (by decide) (fun _ _ h => by rw [h.1]; rfl) (fun _ U U' hal hh h => ⟨h.1, h.2.1.mv hal hh, h.2.2.1.al hal, h.2.2.2.1.al hal, h.2.2.2.2.1.mv hal hh, h.2.2.2.2.2.1.there hal hh, h.2.2.2.2.2.2⟩) (fun r U U' V V' h1 hal h2 h => Got.mv r U U' V V' h1 hal h2 h) ?_
  intro p e s m args below meth c s₁ X0 hexec hbytes hml hret hlk hnm hown hh0 W hP
  obtain ⟨rfl, hB, f1, f2, hA, s1, hz, l0, l1, l2, hp⟩ := hP
  have a31 := hA.1.2.2.2
  have c1 : Steps p.tables e below (s₁.setTop (entryFrame m #[.ref a, .ref b, .int (Int32.ofNat o), .int (Int32.ofNat len), .null] 6)) (s₁.setTop (mkF m 0 #[.val (.ref a), .val (.ref b), .val (.int (Int32.ofNat o)), .val (.int (Int32.ofNat len)), .val .null, .unset] [])) := entry rfl
  have c2 : Steps p.tables e below (s₁.setTop (entryFrame m #[.ref a, .ref b, .int (Int32.ofNat o), .int (Int32.ofNat len), .null] 6)) (s₁.setTop (mkF m 1 #[.val (.ref a), .val (.ref b), .val (.int (Int32.ofNat o)), .val (.int (Int32.ofNat len)), .val .null, .unset] [.ref a])) := c1.trans (by
    refine XS.aloadN X0.here hexec rfl (hb hbytes d0) rfl rfl ?_
    exact Steps.refl _)
  obtain ⟨T3, X3, q3, st3⟩ := X0.oinit hexec hown (wks W (objW "java/lang/String" 1)) (g := (mkF m 1 #[.val (.ref a), .val (.ref b), .val (.int (Int32.ofNat o)), .val (.int (Int32.ofNat len)), .val .null, .unset] [.ref a])) rfl (by rw [hml]; rfl) (rest := []) rfl (hb hbytes d1) (W := 0) (by show 2 * 0 + 0 ≤ _; decide) (Nat.le_of_ble_eq_true rfl) (Nat.le_of_ble_eq_true rfl)
  have hh3 := q3.trans hh0
  have c4 : Steps p.tables e below (s₁.setTop (entryFrame m #[.ref a, .ref b, .int (Int32.ofNat o), .int (Int32.ofNat len), .null] 6)) (T3.setTop (mkF m 27 #[.val (.ref a), .val (.ref b), .val (.int (Int32.ofNat o)), .val (.int (Int32.ofNat len)), .val .null, .unset] [])) := (c2.trans (st3 _ (Steps.refl _))).trans (by
    refine XS.iloadN X3.here hexec rfl (hb hbytes d4) rfl ?_
    refine XS.ifYes X3.here hexec rfl (pc0 := 5) rfl (hb hbytes d5) rfl (i0_ne_t (nz32 (by omega) l0)) (by decide) rfl ?_
    exact Steps.refl _)
  obtain ⟨T5, X5, q5, st5⟩ := X3.sget hexec hown (wk W (.fieldLink "java/lang/String" 38 "java/lang/String" "COMPACT_STRINGS" "Z")) s1 (fun _ _ h => by rw [hh3]; exact h) (g := (mkF m 27 #[.val (.ref a), .val (.ref b), .val (.int (Int32.ofNat o)), .val (.int (Int32.ofNat len)), .val .null, .unset] [])) rfl (hb hbytes d27)
  have hh5 := q5.trans hh3
  have c6 : Steps p.tables e below (s₁.setTop (entryFrame m #[.ref a, .ref b, .int (Int32.ofNat o), .int (Int32.ofNat len), .null] 6)) (T5.setTop (mkF m 30 #[.val (.ref a), .val (.ref b), .val (.int (Int32.ofNat o)), .val (.int (Int32.ofNat len)), .val .null, .unset] [.int z])) := c4.trans (st5 _ (Steps.refl _))
  have c7 : Steps p.tables e below (s₁.setTop (entryFrame m #[.ref a, .ref b, .int (Int32.ofNat o), .int (Int32.ofNat len), .null] 6)) (T5.setTop (mkF m 36 #[.val (.ref a), .val (.ref b), .val (.int (Int32.ofNat o)), .val (.int (Int32.ofNat len)), .val .null, .unset] [.int (Int32.ofNat len), .int (Int32.ofNat o), .ref b])) := c6.trans (by
    refine XS.ifNo X5.here hexec rfl (hb hbytes d30) rfl (i0_eq_f hz) ?_
    refine XS.aloadN X5.here hexec rfl (hb hbytes d33) rfl rfl ?_
    refine XS.iloadN X5.here hexec rfl (hb hbytes d34) rfl ?_
    refine XS.iloadN X5.here hexec rfl (hb hbytes d35) rfl ?_
    exact Steps.refl _)
  obtain ⟨v8, T8, X8, E8, g8⟩ := X5.callS hexec (Cmp3.law l b A o len) hown (wks W (staticW "java/lang/String" 177 Cmp3.yN)) (wk W Cmp3.tab) (W := 0) (Nat.le_of_ble_eq_true rfl) (Nat.le_of_ble_eq_true rfl) (Nat.le_refl _) (by show 0 + len ≤ len; omega) (g := (mkF m 36 #[.val (.ref a), .val (.ref b), .val (.int (Int32.ofNat o)), .val (.int (Int32.ofNat len)), .val .null, .unset] [.int (Int32.ofNat len), .int (Int32.ofNat o), .ref b])) rfl (by rw [hml]; rfl) c7 (argsL := [.ref b, .int (Int32.ofNat o), .int (Int32.ofNat len)]) (rest := []) rfl rfl (by show 2 * 0 + 0 ≤ _; decide) (hb hbytes d36) (⟨rfl, hA.mv X5.warmed.alike hh5, l1, l2, hp⟩)
  obtain ⟨e8, z8⟩ := E8
  obtain ⟨rfl, N, n1, n2, n3, n4, n5, n6⟩ := NewArr.mv _ T5 s _ _ hh5.symm (Vm.Alike.refl _) rfl e8
  rw [hh5] at z8
  have hB1 := hB.keep X8.warmed.alike (n6 _ _ hB.1)
  have hne : s.heap.size ≠ a := (Nat.ne_of_lt (Array.getElem?_eq_some_iff.mp hB.1).1).symm
  have c9 : Steps p.tables e below (s₁.setTop (entryFrame m #[.ref a, .ref b, .int (Int32.ofNat o), .int (Int32.ofNat len), .null] 6)) (T8.setTop (mkF m 39 #[.val (.ref a), .val (.ref b), .val (.int (Int32.ofNat o)), .val (.int (Int32.ofNat len)), .val .null, .unset] [.ref s.heap.size])) := g8
  have c10 : Steps p.tables e below (s₁.setTop (entryFrame m #[.ref a, .ref b, .int (Int32.ofNat o), .int (Int32.ofNat len), .null] 6)) (T8.setTop (mkF m 45 #[.val (.ref a), .val (.ref b), .val (.int (Int32.ofNat o)), .val (.int (Int32.ofNat len)), .val .null, .val (.ref s.heap.size)] [.int (Int32.ofNat N.slots.size), .ref s.heap.size, .ref a])) := by
    have hc : Steps p.tables e below (s₁.setTop (entryFrame m #[.ref a, .ref b, .int (Int32.ofNat o), .int (Int32.ofNat len), .null] 6)) (T8.setTop (mkF m 45 #[.val (.ref a), .val (.ref b), .val (.int (Int32.ofNat o)), .val (.int (Int32.ofNat len)), .val .null, .val (.ref s.heap.size)] [.int (Int32.ofNat len), .ref s.heap.size, .ref a])) := c9.trans (by
      refine XS.astore X8.here hexec rfl (hb hbytes d39) rfl rfl rfl ?_
      refine XS.aloadN X8.here hexec rfl (hb hbytes d41) rfl rfl ?_
      refine XS.aload X8.here hexec rfl (hb hbytes d42) rfl rfl ?_
      refine XS.iloadN X8.here hexec rfl (hb hbytes d44) rfl ?_
      exact Steps.refl _)
    rw [n4]; exact hc
  obtain ⟨v11, T11, X11, E11, g11⟩ := X8.callS hexec (CodL.law l s.heap.size N) hown (wks W (staticW "java/lang/String" 47 CodL.yN)) (wk W CodL.tab) (W := 1) (Nat.le_of_ble_eq_true rfl) (Nat.le_of_ble_eq_true rfl) (Nat.le_refl _) (by show 0 + len + 0 ≤ len; omega) (g := (mkF m 45 #[.val (.ref a), .val (.ref b), .val (.int (Int32.ofNat o)), .val (.int (Int32.ofNat len)), .val .null, .val (.ref s.heap.size)] [.int (Int32.ofNat N.slots.size), .ref s.heap.size, .ref a])) rfl (by rw [hml]; rfl) c10 (argsL := [.ref s.heap.size, .int (Int32.ofNat N.slots.size)]) (rest := [.ref a]) rfl rfl (by show 2 * 0 + (1 + 0) ≤ _; decide) (hb hbytes d45) (⟨rfl, n1⟩)
  obtain ⟨rfl, q11⟩ := E11
  have hB11 := hB1.mv (X8.warmed.alike.symm.trans X11.warmed.alike) q11
  have c12 : Steps p.tables e below (s₁.setTop (entryFrame m #[.ref a, .ref b, .int (Int32.ofNat o), .int (Int32.ofNat len), .null] 6)) (T11.setTop (mkF m 48 #[.val (.ref a), .val (.ref b), .val (.int (Int32.ofNat o)), .val (.int (Int32.ofNat len)), .val .null, .val (.ref s.heap.size)] [.int 0, .ref a])) := g11
  obtain ⟨T13, X13, p13, bl13, sl13, st13⟩ := X11.finit hexec hown (wk W (.fieldLink "java/lang/String" 15 "java/lang/String" "coder" "B")) (Or.inr ⟨_, (wk W (.laysFinal "java/lang/String" "java/lang/String" "coder" "B"))⟩) (Or.inl ⟨rfl, hnm⟩) f2 (Or.inl rfl) hB11 (t := .byte) (by decide +kernel) rfl (g := (mkF m 48 #[.val (.ref a), .val (.ref b), .val (.int (Int32.ofNat o)), .val (.int (Int32.ofNat len)), .val .null, .val (.ref s.heap.size)] [.int 0, .ref a])) rfl (rest := []) rfl (hb hbytes d48)
  have c14 : Steps p.tables e below (s₁.setTop (entryFrame m #[.ref a, .ref b, .int (Int32.ofNat o), .int (Int32.ofNat len), .null] 6)) (T13.setTop (mkF m 54 #[.val (.ref a), .val (.ref b), .val (.int (Int32.ofNat o)), .val (.int (Int32.ofNat len)), .val .null, .val (.ref s.heap.size)] [.ref s.heap.size, .ref a])) := (c12.trans (st13 _ (Steps.refl _))).trans (by
    refine XS.aloadN X13.here hexec rfl (hb hbytes d51) rfl rfl ?_
    refine XS.aload X13.here hexec rfl (hb hbytes d52) rfl rfl ?_
    exact Steps.refl _)
  obtain ⟨T15, X15, p15, bl15, sl15, st15⟩ := X13.finit hexec hown (wk W (.fieldLink "java/lang/String" 9 "java/lang/String" "value" "[B")) (Or.inr ⟨_, (wk W (.laysFinal "java/lang/String" "java/lang/String" "value" "[B"))⟩) (Or.inl ⟨rfl, hnm⟩) f1 (Or.inl rfl) bl13 (t := (.array .byte)) (by decide +kernel) rfl (g := (mkF m 54 #[.val (.ref a), .val (.ref b), .val (.int (Int32.ofNat o)), .val (.int (Int32.ofNat len)), .val .null, .val (.ref s.heap.size)] [.ref s.heap.size, .ref a])) rfl (rest := []) rfl (hb hbytes d54)
  have c16 : Steps p.tables e below (s₁.setTop (entryFrame m #[.ref a, .ref b, .int (Int32.ofNat o), .int (Int32.ofNat len), .null] 6)) (T15.setTop (mkF m 57 #[.val (.ref a), .val (.ref b), .val (.int (Int32.ofNat o)), .val (.int (Int32.ofNat len)), .val .null, .val (.ref s.heap.size)] [])) := c14.trans (st15 _ (Steps.refl _))
  have ap := apart (Or.inr ⟨_, (wk W (.laysFinal "java/lang/String" "java/lang/String" "value" "[B"))⟩) (Or.inr ⟨_, (wk W (.laysFinal "java/lang/String" "java/lang/String" "coder" "B"))⟩) f1 f2 (t₁ := .array .byte) (t₂ := .byte) (by decide +kernel) (by decide +kernel) (by decide)
  have al := X8.warmed.alike.symm.trans X15.warmed.alike
  have n7 : T11.heap[s.heap.size]? = some N := by rw [q11]; exact n1.1
  exact ⟨T15, none, _, _, _, X15, by simp, rfl, by omega, (fun _ => rfl), ⟨rfl, _, N, bl15, ((Same.refl D _).set _ (by simp)).set _ (by simp), sl15, (Cell.slots_setSlot_ne _ ap).trans sl13, n1.keep al (p15.other hne (p13.other hne n7)), n2, by rw [al.findClass]; exact n3, n4, n5, fun y c h1 h2 => p15.other h1 (p13.other h1 (by rw [q11]; exact n6 y c h2)), by rw [p15.2.2, p13.2.2, q11]; exact z8⟩, fun fs hl => c16.trans (X15.returnOut hexec hret (hb hbytes d57) hl)⟩
end New4
namespace New1
def yN : MethodName := ⟨"java/lang/String", "<init>", "([C)V"⟩
abbrev yB : ByteArray := jdk_42_method_3_code
theorem d0 : decode yB 0 = .ok (.aload_n 0, 1) := by decide +kernel
theorem d1 : decode yB 1 = .ok (.aload_n 1, 1) := by decide +kernel
theorem d2 : decode yB 2 = .ok (.iconst 0, 1) := by decide +kernel
theorem d3 : decode yB 3 = .ok (.aload_n 1, 1) := by decide +kernel
theorem d4 : decode yB 4 = .ok (.arraylength, 1) := by decide +kernel
theorem d5 : decode yB 5 = .ok (.aconst_null, 1) := by decide +kernel
theorem d6 : decode yB 6 = .ok (.invokespecial 27, 3) := by decide +kernel
theorem d9 : decode yB 9 = .ok (.return_, 1) := by decide +kernel
def site : List Cond := [New4.tab] ++ initW "java/lang/String" 27 New4.yN
def tab : Cond := tabOf yN yB 2 none site
def P (a : Addr) (D : Cell) (fV fC : Field) (b : Addr) (A : Cell) (z : Int32) (args : Array Value) (s : State) : Prop := args = #[.ref a, .ref b] ∧ Blank "java/lang/String" a D s ∧ Found "java/lang/String" "value" "[B" fV s ∧ Found "java/lang/String" "coder" "B" fC s ∧ Ch b A s ∧ StaticIs s "java/lang/String" "COMPACT_STRINGS" "Z" (.int z) ∧ ¬ z = 0 ∧ 0 < A.slots.size ∧ A.slots.size ≤ 536870912 ∧ ∀ i, i < A.slots.size → ¬ 255 < cv A i
def E (a : Addr) (D : Cell) (fV fC : Field) (A : Cell) (r : Option Value) (s u : State) : Prop := Got a D fV fC A 0 A.slots.size r s u
/-- new String(chars), not empty, no char above 255: a Latin-1 String of their low bytes -/
theorem law (l : Launch) (a : Addr) (D : Cell) (fV fC : Field) (b : Addr) (A : Cell) (z : Int32) : Law l yN 2 1 3 52 yB 2 none site (P a D fV fC b A z) (E a D fV fC A) [⟨a, fC.slot⟩, ⟨a, fV.slot⟩] 1 A.slots.size := by
  refine Law.of_walk (plainFor_of_name (by decide +kernel)) (by decide +kernel) (by decide +kernel) (by decide) (fun _ _ h => by rw [h.1]; rfl) (fun _ U U' hal hh h => ⟨h.1, h.2.1.mv hal hh, h.2.2.1.al hal, h.2.2.2.1.al hal, h.2.2.2.2.1.mv hal hh, h.2.2.2.2.2.1.there hal hh, h.2.2.2.2.2.2⟩) (fun r U U' V V' h1 hal h2 h => Got.mv r U U' V V' h1 hal h2 h) ?_
  intro p e s m args below meth c s₁ X0 hexec hbytes hml hret hlk hnm hown hh0 W hP
  obtain ⟨rfl, hB, f1, f2, hA, s1, hz, l0, l2, hp⟩ := hP
  have c1 : Steps p.tables e below (s₁.setTop (entryFrame m #[.ref a, .ref b] 2)) (s₁.setTop (mkF m 0 #[.val (.ref a), .val (.ref b)] [])) := entry rfl
  have c2 : Steps p.tables e below (s₁.setTop (entryFrame m #[.ref a, .ref b] 2)) (s₁.setTop (mkF m 6 #[.val (.ref a), .val (.ref b)] [.null, .int (Int32.ofNat A.slots.size), .int 0, .ref b, .ref a])) := c1.trans (by
    refine XS.aloadN X0.here hexec rfl (hb hbytes d0) rfl rfl ?_
    refine XS.aloadN X0.here hexec rfl (hb hbytes d1) rfl rfl ?_
    refine iconstV X0.here hexec rfl 0 (hb hbytes d2) (by decide) ?_
    refine XS.aloadN X0.here hexec rfl (hb hbytes d3) rfl rfl ?_
    refine X0.alen hexec (hA.1.mv X0.warmed.alike hh0) rfl rfl (hb hbytes d4) ?_
    refine XS.aconstNull X0.here hexec rfl (hb hbytes d5) ?_
    exact Steps.refl _)
  obtain ⟨v3, T3, X3, E3, g3⟩ := X0.callN hexec (New4.law l a D fV fC b A z 0 A.slots.size) rfl hown (wks W (initW "java/lang/String" 27 New4.yN)) (W New4.tab (by simp only [site, List.mem_cons, List.mem_append, true_or, or_true])) (W := 0) (Nat.le_of_ble_eq_true rfl) (Nat.le_of_ble_eq_true rfl) (Nat.le_refl _) (by show 0 + A.slots.size ≤ A.slots.size; omega) (g := (mkF m 6 #[.val (.ref a), .val (.ref b)] [.null, .int (Int32.ofNat A.slots.size), .int (Int32.ofNat 0), .ref b, .ref a])) rfl (by rw [hml]; rfl) c2 (argsL := [.ref b, .int (Int32.ofNat 0), .int (Int32.ofNat A.slots.size), .null]) (rest := []) rfl rfl (by show 2 * 0 + 0 ≤ _; decide) (hb hbytes d6) (⟨rfl, hB.mv X0.warmed.alike hh0, f1.al X0.warmed.alike, f2.al X0.warmed.alike, hA.mv X0.warmed.alike hh0, s1.there X0.warmed.alike hh0, hz, l0, by omega, l2, fun i hi => by rw [Nat.zero_add]; exact hp i hi⟩)
  have e0 := Got.mv _ s₁ s _ _ hh0.symm (Vm.Alike.refl _) rfl E3
  obtain rfl := e0.1
  have c4 : Steps p.tables e below (s₁.setTop (entryFrame m #[.ref a, .ref b] 2)) (T3.setTop (mkF m 9 #[.val (.ref a), .val (.ref b)] [])) := g3
  exact ⟨T3, none, _, _, _, X3, by simp, rfl, by omega, (fun _ => rfl), e0, fun fs hl => c4.trans (X3.returnOut hexec hret (hb hbytes d9) hl)⟩
theorem pays {l : Launch} {R : Room} {p : Program} {e : Env} {below : List Frame} {s : State} {sargs : Array Value} {len W : Nat} (a : Addr) (D : Cell) (fV fC : Field) (b : Addr) (A : Cell) (z : Int32) (htab : tab.before sargs s = true) (hfr : 4 ≤ R.frames) (hlo : W + 65 ≤ R.locals) :
    Back l R p e below s sargs yN len W (fun A₁ a₁ => A₁.cells + 1 ≤ R.cells ∧ A₁.slots + A.slots.size ≤ R.slots ∧ P a D fV fC b A z a₁ A₁.U) (fun A₁ _ v₁ B₁ => E a D fV fC A v₁ A₁.U B₁.U ∧ B₁.locs = A₁.locs ++ [⟨a, fC.slot⟩, ⟨a, fV.slot⟩] ∧ B₁.cells = A₁.cells + 1 ∧ B₁.slots = A₁.slots + A.slots.size) :=
  (law l a D fV fC b A z).pays htab hfr (by omega)
end New1
/-- the byte, read back as charAt reads it, is the char -/
theorem lo8_mask {x : Int32} (h0 : ¬ x < 0) (h1 : ¬ 255 < x) : lo8 x &&& 255 = x := by
  have t : ∀ k : Fin 256, lo8 (Int32.ofNat k.val) &&& 255 = Int32.ofNat k.val := by decide +kernel
  rw [Int32.lt_iff_toInt_lt] at h0 h1
  have e0 : (0 : Int32).toInt = 0 := rfl
  have e1 : (255 : Int32).toInt = 255 := rfl
  obtain ⟨k, hk⟩ : ∃ k : Nat, x.toInt = k := ⟨x.toInt.toNat, by omega⟩
  have hx : x = Int32.ofNat k := Int32.toInt_inj.mp (by rw [hk, Int32.toInt_ofNat_small (by omega)])
  rw [hx]
  exact t ⟨k, by omega⟩
end StrChars
namespace StrChars.Road
open Jvm Sem ClassFile Op Lib Jvm.Stand Jvm.Free Jvm.Free.XT
open Jvm.Lib.Cold (StaticIs)
abbrev ST : String := "java/lang/String"
/-- every table word that New1's law asks, flat -/
abbrev words : List Jvm.Cond := [.code New1.yN New1.yB 2 none, .initialized ST, .methodLink ST 27 New4.yN, .instanceMethod New4.yN,
  .code New4.yN New4.yB 6 none, .fieldLink ST 38 ST "COMPACT_STRINGS" "Z", .laysFinal ST ST "value" "[B", .fieldLink ST 9 ST "value" "[B", .laysFinal ST ST "coder" "B", .fieldLink ST 15 ST "coder" "B",
  .methodLink ST 1 Lib.objectInit, .instanceMethod Lib.objectInit, .code Lib.objectInit ⟨#[0xb1]⟩ 1 none, .methodLink ST 177 Cmp3.yN, .static Cmp3.yN, .methodLink ST 47 CodL.yN, .static CodL.yN,
  .code Cmp3.yN Cmp3.yB 6 (some (.array .byte)), .initialized U16, .arrayClass .byte, .methodLink U16 115 Cmp5.yN, .static Cmp5.yN, .code Cmp5.yN Cmp5.yB 7 (some .int), .code CodL.yN CodL.yB 2 (some .byte)]
theorem tab_of {a : Array Value} {s : State} (h : ∀ w ∈ words, w.before a s = true) : New1.tab.before a s = true := by
  have h5 : Cmp5.tab.before a s = true := unparts (wk h (.code Cmp5.yN Cmp5.yB 7 (some .int))) (wks h (.initialized Cmp5.yN.cls :: Cmp5.site))
  have hc : CodL.tab.before a s = true := unparts (wk h (.code CodL.yN CodL.yB 2 (some .byte))) (wks h (.initialized CodL.yN.cls :: CodL.site))
  have q5 : ∀ w ∈ Cmp5.tab :: words, w.before a s = true := fun w hw => (List.mem_cons.mp hw).elim (fun e => e ▸ h5) (h w)
  have h3 : Cmp3.tab.before a s = true := unparts (wk q5 (.code Cmp3.yN Cmp3.yB 6 (some (.array .byte)))) (wks q5 (.initialized Cmp3.yN.cls :: Cmp3.site))
  have q3 : ∀ w ∈ Cmp3.tab :: CodL.tab :: words, w.before a s = true := fun w hw => (List.mem_cons.mp hw).elim (fun e => e ▸ h3) fun hw => (List.mem_cons.mp hw).elim (fun e => e ▸ hc) (h w)
  have h4 : New4.tab.before a s = true := unparts (wk q3 (.code New4.yN New4.yB 6 none)) (wks q3 (.initialized New4.yN.cls :: New4.site))
  have q4 : ∀ w ∈ New4.tab :: words, w.before a s = true := fun w hw => (List.mem_cons.mp hw).elim (fun e => e ▸ h4) (h w)
  exact unparts (wk q4 (.code New1.yN New1.yB 2 none)) (wks q4 (.initialized New1.yN.cls :: New1.site))
/-- the words ride from the start Z to the walk's own state -/
theorem moved {Z s : State} {a0 args : Array Value} (hZ : Z.Warmed39 s.vm) (hw : ∀ d ∈ words, d.before a0 Z = true) : ∀ d ∈ words, d.before args s = true := fun d hd => by
  have q := hw d hd
  have t : ∀ d ∈ words, d = .arrayClass .byte ∨ (d.onTables && d.keepsFace) = true := by decide +kernel
  rcases t d hd with rfl | t
  · exact RoadKit.mvA hZ q
  · exact RoadKit.mv hZ q t
/-- WHAT COMES BACK, over the tables of the start Z: h the heap at the call, h' behind it -/
def Q (Z : State) (x : Addr) (A : Cell) (h : Heap) (v : Option Value) (h' : Heap) (L : List Loc) : Prop := v = none ∧ (∀ y ∈ L, y.base = x) ∧ RoadKit.Keep h h' [x] ∧ h'.size = h.size + 1 ∧ RoadKit.Exa Z h' x ST ∧ RoadKit.Fld Z h' x ST "value" "[B" (.ref h.size) ∧ RoadKit.Fld Z h' x ST "coder" "B" (.int 0) ∧
  (∃ V : Cell, RoadKit.Arr Z h' h.size V .byte ∧ V.vm = .none ∧ Z.vm.findClass "[B" = some V.cls ∧ V.slots.size = A.slots.size ∧ ∀ j, j < A.slots.size → V.slots[j]? = some (.int (lo8 (cv A j)))) ∧
  ∀ (O n d : String) (w : Value), RoadKit.Fld Z h x O n d w → RoadKit.slotOf Z O n d ≠ RoadKit.slotOf Z ST "value" "[B" → RoadKit.slotOf Z O n d ≠ RoadKit.slotOf Z ST "coder" "B" → RoadKit.Fld Z h' x O n d w
/-- **new String(chars) AT A CALL, IN THE ROAD'S FORM**: for specialBack behind newO: x the fresh String, b the char[] with the cell A -/
theorem back {p : Program} {l : Launch} {e : Env} {R : Room} {s : State} {args : Array Value} {below : List Frame} {len W : Nat} {Z : State} {a0 : Array Value} {h : Heap} (hZ : Z.Warmed39 s.vm) (hw : ∀ d ∈ words, d.before a0 Z = true) {kI : Nat} (wi : (Jvm.Cond.instantiable ST kI).before a0 Z = true)
    {x b : Addr} {A : Cell} {z : Int32} {v0 c0 : Value} (E : RoadKit.Exa Z h x ST) (V : RoadKit.Fld Z h x ST "value" "[B" v0) (C : RoadKit.Fld Z h x ST "coder" "B" c0) (K : RoadKit.Arr Z h b A .char) (hty : Typed .char A) (S : RoadKit.Sta Z h ST "COMPACT_STRINGS" "Z" (.int z)) (hz : ¬ z = 0)
    (l0 : 0 < A.slots.size) (l2 : A.slots.size ≤ 536870912) (hp : ∀ i, i < A.slots.size → ¬ 255 < cv A i) (hfr : 4 ≤ R.frames) (hlo : W + 65 ≤ R.locals) :
    Back l R p e below s args New1.yN len W (fun P a => a = #[.ref x, .ref b] ∧ P.U.heap = h ∧ P.cells + 1 ≤ R.cells ∧ P.slots + A.slots.size ≤ R.slots)
      (fun P _ v B => ∃ L, Q Z x A h v B.U.heap L ∧ B.locs = P.locs ++ L ∧ B.cells = P.cells + 1 ∧ B.slots = P.slots + A.slots.size) := by
  intro m meth c P g ig mk a X hg hsize hdg hW hn hp'
  obtain ⟨rfl, rfl, r1, r2⟩ := hp'
  have al : Z.vm.Alike P.U.vm := hZ.alike.trans X.warmed.alike
  obtain ⟨D, cfV, kV, iV, fV, hD, gV, stV, knV, obV, asV, slV⟩ := id V
  obtain ⟨D', cfC, kC, iC, fC, hD', gC, stC, -, -, asC, slC⟩ := id C
  cases hD.symm.trans hD'
  obtain ⟨D2, kD, e1, e2, e3, e4, e5⟩ := id E
  cases hD.symm.trans e1
  obtain ⟨c2, k2, i1, i2, i3, -⟩ := Cond.instantiable_spec wi
  cases e2.symm.trans i1
  cases e3.symm.trans i2
  obtain ⟨kU, u1, u2⟩ := al.2.2 _ _ e3
  have hB : Blank ST x D P.U := ⟨hD, ⟨knV, fun q hq => by rw [hq] at obV; cases obV⟩, by rw [al.findClass]; exact e2, kU, u1, by rw [u2]; exact i3, by rw [u2]; exact e5 i3⟩
  have F1 : Found ST "value" "[B" fV P.U := ⟨SBG.found_only al ⟨cfV, kV, iV, gV⟩, stV⟩
  have F2 : Found ST "coder" "B" fC P.U := ⟨SBG.found_only al ⟨cfC, kC, iC, gC⟩, stC⟩
  have hA : Ch b A P.U := ⟨⟨K.1, State.isArrayOf_alike al K.2.1, K.2.2, by omega⟩, hty⟩
  have hS : StaticIs P.U ST "COMPACT_STRINGS" "Z" (.int z) := by
    obtain ⟨cfS, iS, kS, fS, st, cS, t1, t2, t3, t4, t5, t6, t7⟩ := S
    exact StaticIs.there (s := { Z with heap := P.U.heap }) ⟨cfS, iS, kS, fS, st, cS, t1, t2, t3, t4, t5, (fun q => by rw [q] at t6; cases t6), t7⟩ al rfl
  obtain ⟨v, B, X', ⟨⟨hv, E', V', q1, q2, q3, q4, q5, q6, q7, q8, q9, q10, q11⟩, hl, hc, hs⟩, st⟩ := New1.pays x D fV fC b A z (tab_of (moved hZ hw)) hfr hlo m meth c P g ig mk _ X hg hsize hdg hW hn ⟨r1, r2, rfl, hB, F1, F2, hA, hS, hz, l0, l2, hp⟩
  have al' : Z.vm.Alike B.U.vm := hZ.alike.trans X'.warmed.alike
  have hsz : E'.slots.size = D.slots.size := by
    obtain ⟨-, -, -, kB, w1, w2, w3⟩ := q1
    obtain ⟨kB', y1, y2⟩ := al'.2.2 _ _ e3
    rw [q2.2.1] at w1
    cases w1.symm.trans y1
    rw [w3, e5 i3, y2]
  refine ⟨v, B, X', ⟨_, ⟨hv, ?_, ⟨by omega, fun y cy hy hn' => q10 y cy (by simpa using hn') hy, fun y cy hy => ?_⟩, q11, ⟨E', _, q1.1, by rw [q2.2.1]; exact e2, by rw [q2.2.1]; exact e3, by rw [q2.1]; exact obV, fun _ => by rw [hsz]; exact e5 i3⟩,
    ⟨E', cfV, kV, iV, fV, q1.1, gV, stV, by rw [q2.1]; exact knV, by rw [q2.1]; exact obV, by rw [q2.2.1]; exact asV, q3⟩, ⟨E', cfC, kC, iC, fC, q1.1, gC, stC, by rw [q2.1]; exact knV, by rw [q2.1]; exact obV, by rw [q2.2.1]; exact asC, q4⟩,
    ⟨V', ⟨q5.1, State.isArrayOf_alike al'.symm q5.2.1, q5.2.2.1⟩, q6, by rw [← al'.findClass]; exact q7, q8, fun j hj => by have := q9 j hj; rwa [Nat.zero_add] at this⟩, fun O n d w F n1 n2 => ?_⟩, hl, hc, hs⟩, st⟩
  · intro y hy
    simp only [List.mem_cons, List.not_mem_nil, or_false] at hy
    rcases hy with rfl | rfl <;> rfl
  · by_cases q : y = x
    · subst q
      cases hD.symm.trans hy
      exact ⟨E', q1.1, q2.2.1, q2.1, hsz⟩
    · exact ⟨cy, q10 y cy q hy, rfl, rfl, rfl⟩
  · obtain ⟨D3, cf, k, i, f, g1, g2, g3, g4, g5, g6, g7⟩ := F
    cases hD.symm.trans g1
    simp only [RoadKit.slotOf, g2, gV, gC, Option.map_some, Option.getD_some] at n1 n2
    exact ⟨E', cf, k, i, f, q1.1, g2, g3, by rw [q2.1]; exact g4, by rw [q2.1]; exact g5, by rw [q2.2.1]; exact g6, by rw [q2.2.2 f.slot (by simp [n1, n2])]; exact g7⟩
end StrChars.Road
namespace StrChars.Road
open Jvm Sem ClassFile Op Lib Jvm.Stand Jvm.Free Jvm.Free.XT
/-- WHAT COMES BACK, the byte[] as a list of values -/
def QA (Z : State) (x : Addr) (zn : Int32) (cs : List Int32) (h : Heap) (v : Option Value) (h' : Heap) (L : List Loc) : Prop := v = none ∧ (∀ y ∈ L, y.base = x) ∧ RoadKit.Keep h h' [x] ∧ h'.size = h.size + 1 ∧ RoadKit.Exa Z h' x ST ∧ RoadKit.Fld Z h' x ST "value" "[B" (.ref h.size) ∧ RoadKit.Fld Z h' x ST "coder" "B" (.int 0) ∧
  (∃ kb, Z.vm.findClass "[B" = some kb ∧ RoadKit.Arv Z h' h.size kb .byte zn (cs.map fun c => .int (lo8 c)) (.int 0)) ∧
  ∀ (O n d : String) (w : Value), RoadKit.Fld Z h x O n d w → RoadKit.slotOf Z O n d ≠ RoadKit.slotOf Z ST "value" "[B" → RoadKit.slotOf Z O n d ≠ RoadKit.slotOf Z ST "coder" "B" → RoadKit.Fld Z h' x O n d w
/-- **new String(chars) AT A CALL, THE ARRAYS AS LISTS**: the char[] at b holds cs, not empty, no char above 255 -/
theorem backArv {p : Program} {l : Launch} {e : Env} {R : Room} {s : State} {args : Array Value} {below : List Frame} {len W : Nat} {Z : State} {a0 : Array Value} {h : Heap} (hZ : Z.Warmed39 s.vm) (hw : ∀ d ∈ words, d.before a0 Z = true) {kI : Nat} (wi : (Jvm.Cond.instantiable ST kI).before a0 Z = true)
    {x b : Addr} {k : ClassId} {zn z : Int32} {cs : List Int32} {dv v0 c0 : Value} (E : RoadKit.Exa Z h x ST) (V : RoadKit.Fld Z h x ST "value" "[B" v0) (C : RoadKit.Fld Z h x ST "coder" "B" c0) (K : RoadKit.Arv Z h b k .char zn (cs.map Value.int) dv) (S : RoadKit.Sta Z h ST "COMPACT_STRINGS" "Z" (.int z)) (hz : ¬ z = 0)
    (hlen : zn.toNatClampNeg = cs.length) (h0 : 0 < cs.length) (hbig : cs.length ≤ 536870912) (hall : ∀ c ∈ cs, ¬ 255 < c) (hfr : 4 ≤ R.frames) (hlo : W + 65 ≤ R.locals) :
    Back l R p e below s args New1.yN len W (fun P a => a = #[.ref x, .ref b] ∧ P.U.heap = h ∧ P.cells + 1 ≤ R.cells ∧ P.slots + cs.length ≤ R.slots)
      (fun P _ v B => ∃ L, QA Z x zn cs h v B.U.heap L ∧ B.locs = P.locs ++ L ∧ B.cells = P.cells + 1 ∧ B.slots = P.slots + cs.length) := by
  obtain ⟨A, K1, K2, K3, K4, K5, K6⟩ := K
  have e : A.slots.size = cs.length := K3.trans hlen
  have hat : ∀ (i : Nat) (hi : i < cs.length), A.slots[i]? = some (.int cs[i]) := fun i hi => by rw [K5 i (by omega)]; simp [List.getD_eq_getElem?_getD, hi]
  have hcv : ∀ (i : Nat) (hi : i < cs.length), cv A i = cs[i] := fun i hi => by unfold cv; rw [hat i hi]
  have hty : Typed .char A := fun i v hv => by
    have hi : i < A.slots.size := (Array.getElem?_eq_some_iff.mp hv).1
    have q := K5 i hi
    rw [hv] at q
    rw [Option.some.inj q]
    exact K6 i hi
  refine Back.mono (back hZ hw wi E V C K1 hty S hz (by omega) (by omega) (fun i hi => by rw [hcv i (by omega)]; exact hall _ (List.getElem_mem _)) hfr hlo) (fun P a hp => ⟨hp.1, hp.2.1, hp.2.2.1, by rw [e]; exact hp.2.2.2⟩) (fun P a v B hp hq => ?_)
  obtain ⟨L, ⟨q1, q2, q3, q4, q5, q6, q7, ⟨V', v1, v2, v3, v4, v5⟩, q9⟩, hl, hc, hs⟩ := hq
  refine ⟨L, ⟨q1, q2, q3, q4, q5, q6, q7, ⟨V'.cls, v3, V', v1, rfl, by rw [v4, e, hlen], K4, fun i hi => ?_, fun i hi => ?_⟩, q9⟩, hl, hc, by rw [hs, e]⟩
  · have hi' : i < cs.length := by omega
    rw [v5 i (by omega), hcv i hi']; simp [List.getD_eq_getElem?_getD, hi']
  · have hi' : i < cs.length := by omega
    simp only [List.getD_eq_getElem?_getD, List.getElem?_map, List.getElem?_eq_getElem hi', Option.map_some, Option.getD_some]
    exact fits_lo8 _
end StrChars.Road
namespace StrChars.Road
open Jvm Sem ClassFile Op Lib Jvm.Stand Jvm.Free Jvm.Free.XT
/-- WHAT COMES BACK, in the writer's own shape -/
def QV (Z : State) (x : Addr) (N : Int32) (bs : List Int32) (h : Heap) (n0 : Nat) (v : Option Value) (h' : Heap) (L : List Loc) : Prop := v = none ∧ RoadKit.Fr n0 L ∧ RoadKit.Keep h h' [x] ∧ RoadKit.Exa Z h' x ST ∧ RoadKit.Fld Z h' x ST "coder" "B" (.int 0) ∧
  ∃ (t : Addr) (kb : ClassId), n0 ≤ t ∧ h.size ≤ t ∧ ¬ t = x ∧ RoadKit.Fld Z h' x ST "value" "[B" (.ref t) ∧ RoadKit.Arv Z h' t kb .byte N (bs.map Value.int) (.int 0)
/-- **new String(chars) AT A CALL, FOR THE WRITER**: a char[] of n known ints, each 0 to 255 -/
theorem backV {p : Program} {l : Launch} {e : Env} {R : Room} {s : State} {args : Array Value} {below : List Frame} {len W : Nat} {Z : State} {a0 : Array Value} {h : Heap} (hZ : Z.Warmed39 s.vm) (hw : ∀ d ∈ words, d.before a0 Z = true) {kI : Nat} (wi : (Jvm.Cond.instantiable ST kI).before a0 Z = true)
    {x b : Addr} {kC : ClassId} {cs bs : List Int32} {d v0 c0 : Value} {z N : Int32} {n n0 : Nat} (hx0 : n0 ≤ x) (hh0 : n0 ≤ h.size) (E : RoadKit.Exa Z h x ST) (V : RoadKit.Fld Z h x ST "value" "[B" v0) (C : RoadKit.Fld Z h x ST "coder" "B" c0) (K : RoadKit.Arv Z h b kC .char N (cs.map Value.int) d) (S : RoadKit.Sta Z h ST "COMPACT_STRINGS" "Z" (.int z)) (hz : ¬ z = 0)
    (hn : cs.length = n) (hN : N = Int32.ofNat n) (l0 : 0 < n) (l2 : n ≤ 4000) (hp : ∀ c ∈ cs, ¬ c < 0 ∧ ¬ (255 : Int32) < c) (hb : bs = cs.map (fun c => c.toInt8.toInt32)) (hfr : 4 ≤ R.frames) (hlo : W + 65 ≤ R.locals) :
    Back l R p e below s args (⟨"java/lang/String", "<init>", "([C)V"⟩ : MethodName) len W (fun P a => a = #[.ref x, .ref b] ∧ P.U.heap = h ∧ P.cells + 1 ≤ R.cells ∧ P.slots + n ≤ R.slots)
      (fun P _ v B => ∃ L, QV Z x N bs h n0 v B.U.heap L ∧ B.locs = P.locs ++ L ∧ B.cells = P.cells + 1 ∧ B.slots = P.slots + n) := by
  subst hn hN hb
  refine Back.mono (backArv hZ hw wi E V C K S hz (n32 (by omega)) l0 (by omega) (fun c hc => (hp c hc).2) hfr hlo) (fun P a hp => hp) (fun P a v B hp hq => ?_)
  obtain ⟨L, ⟨q1, q2, q3, q4, q5, q6, q7, ⟨kb, v1, v2⟩, q9⟩, hl, hc, hs⟩ := hq
  exact ⟨L, ⟨q1, fun y hy => by rw [q2 y hy]; exact hx0, q3, q5, q7, h.size, kb, hh0, Nat.le_refl _, Nat.ne_of_gt E.lt, q6, by rw [List.map_map]; exact v2⟩, hl, hc, hs⟩
end StrChars.Road
namespace StrChars
open Jvm Sem ClassFile Op Lib Jvm.Stand Jvm.Free.XT Jvm.Free.ALB Jvm.Free.JM Jvm.Free
open Jvm.Lib.Cold (StaticIs)
def hi8 (x : Int32) : Int32 := lo8 (x >>> ((8 : Int32) &&& 31))
/-- what StringUTF16.getChar makes of two bytes -/
def pairCh (u v : Int32) : Int32 := (((u &&& 255) <<< ((0 : Int32) &&& 31)) ||| ((v &&& 255) <<< ((8 : Int32) &&& 31))).toUInt32.toUInt16.toUInt32.toInt32
theorem lo8_and (x : Int32) : (lo8 x &&& 255).toBitVec.toNat = x.toBitVec.toNat % 256 := by
  have h : (lo8 x).toBitVec = (x.toBitVec.signExtend 8).signExtend 32 := by rw [lo8, Int8.toBitVec_toInt32, Int32.toBitVec_toInt8]
  rw [Int32.toBitVec_and, BitVec.toNat_and, h]
  have e : ((x.toBitVec.signExtend 8).signExtend 32).toNat % 256 = x.toBitVec.toNat % 256 := by
    rw [BitVec.toNat_signExtend]
    have hlt := x.toBitVec.isLt
    simp only [BitVec.toNat_setWidth, BitVec.toNat_signExtend]
    split <;> split <;> omega
  rw [← e]
  exact Nat.and_two_pow_sub_one_eq_mod _ 8
theorem pair_says {c : Int32} (h0 : ¬ c < 0) (h1 : ¬ 65535 < c) : pairCh (lo8 c) (hi8 c) = c := by
  rw [Int32.lt_iff_toInt_lt] at h0 h1
  have e0 : (0 : Int32).toInt = 0 := rfl
  have e1 : (65535 : Int32).toInt = 65535 := rfl
  have hc : c.toInt = c.toBitVec.toNat := by
    have := c.toBitVec.isLt
    have e : c.toInt = c.toBitVec.toInt := rfl
    rw [e] at h0 h1
    rw [e]
    rw [BitVec.toInt_eq_toNat_cond] at h0 h1 ⊢
    split at h0 <;> split <;> omega
  have hn : c.toBitVec.toNat < 65536 := by omega
  have a1 := lo8_and c
  have a2 : (hi8 c &&& 255).toBitVec.toNat = c.toBitVec.toNat / 256 := by
    rw [hi8, lo8_and]
    have e : ((8 : Int32) &&& 31) = 8 := by decide
    rw [e, Int32.toBitVec_shiftRight]
    have e2 : ((8 : Int32).toBitVec.smod 32) = 8#32 := by decide
    rw [e2, BitVec.sshiftRight_eq', BitVec.toNat_sshiftRight_of_msb_false (by rw [BitVec.msb_eq_false_iff_two_mul_lt]; omega)]
    show c.toBitVec.toNat >>> 8 % 256 = _
    rw [Nat.shiftRight_eq_div_pow]
    omega
  unfold pairCh
  apply Int32.toBitVec_inj.mp
  apply BitVec.eq_of_toNat_eq
  have f0 : ((0 : Int32) &&& 31) = 0 := by decide
  have f8 : ((8 : Int32) &&& 31) = 8 := by decide
  rw [f0, f8]
  have g : (((lo8 c &&& 255) <<< (0 : Int32)) ||| ((hi8 c &&& 255) <<< (8 : Int32))).toBitVec.toNat = c.toBitVec.toNat := by
    rw [Int32.toBitVec_or, Int32.toBitVec_shiftLeft, Int32.toBitVec_shiftLeft]
    have s0 : ((0 : Int32).toBitVec.smod 32) = 0#32 := by decide
    have s8 : ((8 : Int32).toBitVec.smod 32) = 8#32 := by decide
    rw [s0, s8, BitVec.toNat_or]
    simp only [BitVec.shiftLeft_eq', BitVec.toNat_shiftLeft, a1, a2]
    show (c.toBitVec.toNat % 256) <<< 0 % 2 ^ 32 ||| (c.toBitVec.toNat / 256) <<< 8 % 2 ^ 32 = _
    rw [Nat.shiftLeft_zero, Nat.mod_eq_of_lt (show c.toBitVec.toNat % 256 < 2 ^ 32 by omega), Nat.mod_eq_of_lt (show (c.toBitVec.toNat / 256) <<< 8 < 2 ^ 32 by rw [Nat.shiftLeft_eq]; omega), Nat.or_comm, ← Nat.shiftLeft_add_eq_or_of_lt (by omega), Nat.shiftLeft_eq]
    omega
  show BitVec.toNat (((((lo8 c &&& 255) <<< (0 : Int32)) ||| ((hi8 c &&& 255) <<< (8 : Int32))).toBitVec.setWidth 16).setWidth 32) = _
  rw [BitVec.toNat_setWidth, BitVec.toNat_setWidth, g]
  omega
end StrChars
namespace StrChars
open Jvm Sem ClassFile Op Lib Jvm.Stand Jvm.Free.XT Jvm.Free.ALB Jvm.Free.JM Jvm.Free
open Jvm.Lib.Cold (StaticIs)
/-- charAt's cast of a byte read back -/
def chr8 (u : Int32) : Int32 := (u &&& 255).toUInt32.toUInt16.toUInt32.toInt32
theorem chr8_lo8 {c : Int32} (h0 : ¬ c < 0) (h1 : ¬ 255 < c) : chr8 (lo8 c) = c := by
  have t : ∀ k : Fin 256, (Int32.ofNat k.val).toUInt32.toUInt16.toUInt32.toInt32 = Int32.ofNat k.val := by decide +kernel
  unfold chr8
  rw [lo8_mask h0 h1]
  rw [Int32.lt_iff_toInt_lt] at h0 h1
  have e0 : (0 : Int32).toInt = 0 := rfl
  have e1 : (255 : Int32).toInt = 255 := rfl
  obtain ⟨k, hk⟩ : ∃ k : Nat, c.toInt = k := ⟨c.toInt.toNat, by omega⟩
  have hx : c = Int32.ofNat k := Int32.toInt_inj.mp (by rw [hk, Int32.toInt_ofNat_small (by omega)])
  rw [hx]
  exact t ⟨k, by omega⟩
theorem narrow_ch {c : Int32} (h0 : ¬ c < 0) (h1 : ¬ 65535 < c) : narrow .char (.int c) = .int c := by
  have q : narrow .char (.int (pairCh (lo8 c) (hi8 c))) = .int (pairCh (lo8 c) (hi8 c)) := narrow_c _
  rwa [pair_says h0 h1] at q
/-- the array's cell V codes the n chars f 0 .. f (n - 1) by the coder cd, as the JDK does: coder 1 just where some char is above 255 -/
def Cod (cd : Int32) (n : Nat) (f : Nat → Int32) (V : Cell) : Prop := (cd = 0 ∧ V.slots.size = n ∧ ∀ j, j < n → V.slots[j]? = some (.int (lo8 (f j))) ∧ ¬ 255 < f j) ∨ (cd = 1 ∧ V.slots.size = 2 * n ∧ (∀ j, j < n → V.slots[2 * j]? = some (.int (lo8 (f j))) ∧ V.slots[2 * j + 1]? = some (.int (hi8 (f j)))) ∧ ∃ j, j < n ∧ 255 < f j)
theorem Cod.cd {cd : Int32} {n : Nat} {f : Nat → Int32} {V : Cell} (h : Cod cd n f V) : cd = 0 ∨ cd = 1 := h.imp (fun q => q.1) fun q => q.1
/-- **x is a String of the n chars f 0 .. f (n - 1)**, Latin-1 or UTF-16; its array at t has the cell V -/
def Txt (x t : Addr) (V : Cell) (cd : Int32) (n : Nat) (f : Nat → Int32) (U : State) : Prop := Exact "java/lang/String" x U ∧ Has x "java/lang/String" "value" "[B" (.ref t) U ∧ Has x "java/lang/String" "coder" "B" (.int cd) U ∧ XT.Arr .byte t V U ∧ Cod cd n f V ∧ ∀ j, j < n → ¬ f j < 0 ∧ ¬ 65535 < f j
theorem Txt.mv {x t : Addr} {V : Cell} {cd : Int32} {n : Nat} {f : Nat → Int32} {U U' : State} (h : Txt x t V cd n f U) (hal : U.vm.Alike U'.vm) (hh : U'.heap = U.heap) : Txt x t V cd n f U' := ⟨h.1.mv hal hh, h.2.1.mv hal hh, h.2.2.1.mv hal hh, h.2.2.2.1.mv hal hh, h.2.2.2.2⟩
namespace IsL
def yN : MethodName := ⟨"java/lang/String", "isLatin1", "()Z"⟩
abbrev yB : ByteArray := jdk_42_method_154_code
theorem d0 : decode yB 0 = .ok (.getstatic 38, 3) := by decide +kernel
theorem d3 : decode yB 3 = .ok (.ifCond (.eq) 14, 3) := by decide +kernel
theorem d6 : decode yB 6 = .ok (.aload_n 0, 1) := by decide +kernel
theorem d7 : decode yB 7 = .ok (.getfield 15, 3) := by decide +kernel
theorem d10 : decode yB 10 = .ok (.ifCond (.ne) 7, 3) := by decide +kernel
theorem d13 : decode yB 13 = .ok (.iconst 1, 1) := by decide +kernel
theorem d14 : decode yB 14 = .ok (.goto 4, 3) := by decide +kernel
theorem d17 : decode yB 17 = .ok (.iconst 0, 1) := by decide +kernel
theorem d18 : decode yB 18 = .ok (.ireturn, 1) := by decide +kernel
def site : List Cond := [.fieldLink "java/lang/String" 38 "java/lang/String" "COMPACT_STRINGS" "Z", .fieldLink "java/lang/String" 15 "java/lang/String" "coder" "B"]
def tab : Cond := tabOf yN yB 1 (some .boolean) site
def P (x : Addr) (cd z : Int32) (args : Array Value) (s : State) : Prop := args = #[.ref x] ∧ Has x "java/lang/String" "coder" "B" (.int cd) s ∧ (cd = 0 ∨ cd = 1) ∧ StaticIs s "java/lang/String" "COMPACT_STRINGS" "Z" (.int z) ∧ ¬ z = 0
def E (cd : Int32) (r : Option Value) (s u : State) : Prop := XT.PureE (some (.int (1 - cd))) r s u
theorem law (l : Launch) (x : Addr) (cd z : Int32) : Law l yN 1 0 0 0 yB 1 (some .boolean) site (P x cd z) (E cd) [] 0 0 := by
  refine Law.of_walk (plainFor_of_name (by decide +kernel)) (by decide +kernel) (by decide +kernel) (by decide) (fun _ _ h => by rw [h.1]; rfl) (fun _ U U' hal hh h => ⟨h.1, h.2.1.mv hal hh, h.2.2.1, h.2.2.2.1.there hal hh, h.2.2.2.2⟩) (fun r U U' V V' h1 hal h2 h => XT.PureE.mv r U U' V V' h1 hal h2 h) ?_
  intro p e s m args below meth c s₁ X0 hexec hbytes hml hret hlk hnm hown hh0 W hP
  obtain ⟨rfl, hx, hc, s1, hz⟩ := hP
  have c1 : Steps p.tables e below (s₁.setTop (entryFrame m #[.ref x] 1)) (s₁.setTop (mkF m 0 #[.val (.ref x)] [])) := entry rfl
  obtain ⟨T2, X2, q2, st2⟩ := X0.sget hexec hown (wk W (.fieldLink "java/lang/String" 38 "java/lang/String" "COMPACT_STRINGS" "Z")) s1 (fun _ _ h => by rw [hh0]; exact h) (g := (mkF m 0 #[.val (.ref x)] [])) rfl (hb hbytes d0)
  have hh2 := q2.trans hh0
  have c3 : Steps p.tables e below (s₁.setTop (entryFrame m #[.ref x] 1)) (T2.setTop (mkF m 7 #[.val (.ref x)] [.ref x])) := (c1.trans (st2 _ (Steps.refl _))).trans (by
    refine XS.ifNo X2.here hexec rfl (hb hbytes d3) rfl (i0_eq_f hz) ?_
    refine XS.aloadN X2.here hexec rfl (hb hbytes d6) rfl rfl ?_
    exact Steps.refl _)
  obtain ⟨T4, X4, q4, st4⟩ := X2.hget hexec hown (wk W (.fieldLink "java/lang/String" 15 "java/lang/String" "coder" "B")) (hx.mv X2.warmed.alike hh2) (g := (mkF m 7 #[.val (.ref x)] [.ref x])) rfl (rest := []) rfl (hb hbytes d7)
  have c5 : Steps p.tables e below (s₁.setTop (entryFrame m #[.ref x] 1)) (T4.setTop (mkF m 10 #[.val (.ref x)] [.int cd])) := c3.trans (st4 _ (Steps.refl _))
  have c6 : Steps p.tables e below (s₁.setTop (entryFrame m #[.ref x] 1)) (T4.setTop (mkF m 18 #[.val (.ref x)] [.int (1 - cd)])) := by
    rcases hc with rfl | rfl
    · exact c5.trans (by
        refine XS.ifNo X4.here hexec rfl (hb hbytes d10) rfl (i0_ne_f rfl) ?_
        refine iconstV X4.here hexec rfl 1 (hb hbytes d13) (by decide) ?_
        refine XS.goto X4.here hexec rfl (pc0 := 14) rfl (hb hbytes d14) (by decide) rfl ?_
        exact Steps.refl _)
    · exact c5.trans (by
        refine XS.ifYes X4.here hexec rfl (pc0 := 10) rfl (hb hbytes d10) rfl (i0_ne_t (by decide)) (by decide) rfl ?_
        refine iconstV X4.here hexec rfl 0 (hb hbytes d17) (by decide) ?_
        exact Steps.refl _)
  exact ⟨T4, some (.int (1 - cd)), _, _, _, X4, rfl, rfl, rfl, (fun h => by cases h), ⟨rfl, q4.trans hh2⟩, fun fs hl => c6.trans (X4.ireturnOut hexec hret (by rcases hc with rfl | rfl <;> rfl) (Or.inr (Or.inl rfl)) (hb hbytes d18) hl)⟩
end IsL
namespace LChA
def yN : MethodName := ⟨"java/lang/StringLatin1", "charAt", "([BI)C"⟩
abbrev yB : ByteArray := jdk_43_method_2_code
theorem d0 : decode yB 0 = .ok (.iload_n 1, 1) := by decide +kernel
theorem d1 : decode yB 1 = .ok (.aload_n 0, 1) := by decide +kernel
theorem d2 : decode yB 2 = .ok (.arraylength, 1) := by decide +kernel
theorem d3 : decode yB 3 = .ok (.invokestatic 9, 3) := by decide +kernel
theorem d6 : decode yB 6 = .ok (.aload_n 0, 1) := by decide +kernel
theorem d7 : decode yB 7 = .ok (.iload_n 1, 1) := by decide +kernel
theorem d8 : decode yB 8 = .ok (.baload, 1) := by decide +kernel
theorem d9 : decode yB 9 = .ok (.sipush 255, 3) := by decide +kernel
theorem d12 : decode yB 12 = .ok (.iand, 1) := by decide +kernel
theorem d13 : decode yB 13 = .ok (.i2c, 1) := by decide +kernel
theorem d14 : decode yB 14 = .ok (.ireturn, 1) := by decide +kernel
def site : List Cond := [JO.Str_checkIndex.tab] ++ staticW "java/lang/StringLatin1" 9 JO.Str_checkIndex.yN
def tab : Cond := tabOf yN yB 2 (some .char) site
def P (t : Addr) (V : Cell) (i : Nat) (u : Int32) (fm : Value) (args : Array Value) (s : State) : Prop := args = #[.ref t, .int (Int32.ofNat i)] ∧ XT.Arr .byte t V s ∧ V.slots[i]? = some (.int u) ∧ (StaticIs s "jdk/internal/util/Preconditions" "SIOOBE_FORMATTER" "Ljava/util/function/BiFunction;" fm ∧ fm.isRef = true)
def E (u : Int32) (r : Option Value) (s w : State) : Prop := XT.PureE (some (.int (chr8 u))) r s w
theorem law (l : Launch) (t : Addr) (V : Cell) (i : Nat) (u : Int32) (fm : Value) : Law l yN 2 2 2 27 yB 2 (some .char) site (P t V i u fm) (E u) [] 0 0 := by
  refine Law.of_walk (plainFor_of_name (by decide +kernel)) (by decide +kernel) (by decide +kernel) (by decide) (fun _ _ h => by rw [h.1]; rfl) (fun _ U U' hal hh h => ⟨h.1, h.2.1.mv hal hh, h.2.2.1, h.2.2.2.1.there hal hh, h.2.2.2.2⟩) (fun r U U' V V' h1 hal h2 h => XT.PureE.mv r U U' V V' h1 hal h2 h) ?_
  intro p e s m args below meth c s₁ X0 hexec hbytes hml hret hlk hnm hown hh0 W hP
  obtain ⟨rfl, hV, hu, s1, rf⟩ := hP
  have v31 := hV.2.2.2
  have hi : i < V.slots.size := (Array.getElem?_eq_some_iff.mp hu).1
  have c1 : Steps p.tables e below (s₁.setTop (entryFrame m #[.ref t, .int (Int32.ofNat i)] 2)) (s₁.setTop (mkF m 0 #[.val (.ref t), .val (.int (Int32.ofNat i))] [])) := entry rfl
  have c2 : Steps p.tables e below (s₁.setTop (entryFrame m #[.ref t, .int (Int32.ofNat i)] 2)) (s₁.setTop (mkF m 3 #[.val (.ref t), .val (.int (Int32.ofNat i))] [.int (Int32.ofNat V.slots.size), .int (Int32.ofNat i)])) := c1.trans (by
    refine XS.iloadN X0.here hexec rfl (hb hbytes d0) rfl ?_
    refine XS.aloadN X0.here hexec rfl (hb hbytes d1) rfl rfl ?_
    refine X0.alen hexec (hV.mv X0.warmed.alike hh0) rfl rfl (hb hbytes d2) ?_
    exact Steps.refl _)
  obtain ⟨v3, T3, X3, E3, g3⟩ := X0.callS hexec (JO.Str_checkIndex.law l (Int32.ofNat i) (Int32.ofNat V.slots.size) fm) hown (wks W (staticW "java/lang/StringLatin1" 9 JO.Str_checkIndex.yN)) (wk W JO.Str_checkIndex.tab) (W := 0) (Nat.le_of_ble_eq_true rfl) (Nat.le_of_ble_eq_true rfl) (Nat.le_refl _) (Nat.le_refl _) (g := (mkF m 3 #[.val (.ref t), .val (.int (Int32.ofNat i))] [.int (Int32.ofNat V.slots.size), .int (Int32.ofNat i)])) rfl (by rw [hml]; rfl) c2 (argsL := [.int (Int32.ofNat i), .int (Int32.ofNat V.slots.size)]) (rest := []) rfl rfl (by show 2 * 0 + 0 ≤ _; decide) (hb hbytes d3) (⟨rfl, rf, s1.there X0.warmed.alike hh0, Int32.ofNat_not_neg (by omega), lt32 v31 hi⟩)
  obtain ⟨rfl, q3⟩ := E3
  have hh3 := q3.trans hh0
  have c4 : Steps p.tables e below (s₁.setTop (entryFrame m #[.ref t, .int (Int32.ofNat i)] 2)) (T3.setTop (mkF m 14 #[.val (.ref t), .val (.int (Int32.ofNat i))] [.int (chr8 u)])) := Steps.trans g3 (by
    refine XS.aloadN X3.here hexec rfl (hb hbytes d6) rfl rfl ?_
    refine XS.iloadN X3.here hexec rfl (hb hbytes d7) rfl ?_
    refine X3.aget hexec (hV.mv X3.warmed.alike hh3) rfl hu rfl rfl (hb hbytes d8) ?_
    refine sipushV X3.here hexec rfl 255 (hb hbytes d9) (by decide) ?_
    refine XS.iand X3.here hexec rfl (hb hbytes d12) rfl ?_
    refine i2c X3.here hexec rfl (hb hbytes d13) rfl ?_
    exact Steps.refl _)
  exact ⟨T3, some (.int (chr8 u)), _, _, _, X3, rfl, rfl, rfl, (fun h => by cases h), ⟨rfl, hh3⟩, fun fs hl => c4.trans (X3.ireturnOut hexec hret (narrow_c _) (Or.inr (Or.inr (Or.inr (Or.inl rfl)))) (hb hbytes d14) hl)⟩
end LChA
end StrChars
namespace StrChars.Road
open Jvm Sem ClassFile Op Lib Jvm.Stand Jvm.Free Jvm.Free.XT
open Jvm.Lib.Cold (StaticIs)
theorem consq {a : Array Value} {s : State} {c : Jvm.Cond} {L : List Jvm.Cond} (h0 : c.before a s = true) (h : ∀ w ∈ L, w.before a s = true) : ∀ w ∈ c :: L, w.before a s = true := fun w hw => (List.mem_cons.mp hw).elim (fun e => e ▸ h0) (h w)
/-- the bytes of the chars cs, low before high -/
def wideBytes : List Int32 → List Value
  | [] => []
  | c :: cs => .int (lo8 c) :: .int (hi8 c) :: wideBytes cs
theorem wide_lo (d : Value) : ∀ (cs : List Int32) (j : Nat), j < cs.length → (wideBytes cs).getD (2 * j) d = .int (lo8 (cs.getD j 0))
  | [], j, h => absurd h (Nat.not_lt_zero j)
  | c :: cs, 0, _ => rfl
  | c :: cs, j + 1, h => by
    have q := wide_lo d cs j (by simpa using h)
    rw [show 2 * (j + 1) = 2 * j + 1 + 1 from by omega]
    simpa [wideBytes] using q
theorem wide_hi (d : Value) : ∀ (cs : List Int32) (j : Nat), j < cs.length → (wideBytes cs).getD (2 * j + 1) d = .int (hi8 (cs.getD j 0))
  | [], j, h => absurd h (Nat.not_lt_zero j)
  | c :: cs, 0, _ => rfl
  | c :: cs, j + 1, h => by
    have q := wide_hi d cs j (by simpa using h)
    rw [show 2 * (j + 1) + 1 = 2 * j + 1 + 1 + 1 from by omega]
    simpa [wideBytes] using q
theorem low_at (d : Value) (cs : List Int32) (j : Nat) (h : j < cs.length) : (cs.map fun c => Value.int (lo8 c)).getD j d = .int (lo8 (cs.getD j 0)) := by
  simp [List.getD_eq_getElem?_getD, h]
/-- an array of N2 bytes vs codes the chars cs by the coder cd -/
def CodA (cs : List Int32) (cd N2 : Int32) (vs : List Value) : Prop := (cd = 0 ∧ N2 = Int32.ofNat cs.length ∧ vs = (cs.map fun c => Value.int (lo8 c)) ∧ ∀ c ∈ cs, ¬ 255 < c) ∨ (cd = 1 ∧ N2 = Int32.ofNat (2 * cs.length) ∧ vs = wideBytes cs ∧ ∃ c ∈ cs, 255 < c)
theorem CodA.cod {cs : List Int32} {cd N2 : Int32} {vs : List Value} {V : Cell} (h : CodA cs cd N2 vs) (hn : 2 * cs.length < 2 ^ 31) (hs : V.slots.size = N2.toNatClampNeg) (hv : RoadKit.Has V vs (.int 0)) : Cod cd cs.length (fun j => cs.getD j 0) V := by
  rcases h with ⟨rfl, rfl, rfl, h⟩ | ⟨rfl, rfl, rfl, c, hc, hw⟩
  · rw [n32 (by omega)] at hs
    exact Or.inl ⟨rfl, hs, fun j hj => ⟨by rw [hv j (by omega), low_at _ _ _ hj], by
      have e : cs.getD j 0 = cs[j] := by simp [List.getD_eq_getElem?_getD, hj]
      show ¬ 255 < cs.getD j 0
      rw [e]; exact h _ (List.getElem_mem _)⟩⟩
  · rw [n32 (by omega)] at hs
    obtain ⟨j, hj, rfl⟩ := List.getElem_of_mem hc
    exact Or.inr ⟨rfl, hs, fun j hj => ⟨by rw [hv _ (by omega), wide_lo _ _ _ hj], by rw [hv _ (by omega), wide_hi _ _ _ hj]⟩, j, hj, by
      have e : cs.getD j 0 = cs[j] := by simp [List.getD_eq_getElem?_getD, hj]
      show 255 < cs.getD j 0
      rw [e]; exact hw⟩
/-- an object of exactly java/lang/String, its two fields found: as the laws ask it -/
theorem strObj {Z U : State} {a0 : Array Value} {kI : Nat} (wi : (Jvm.Cond.instantiable ST kI).before a0 Z = true) (al : Z.vm.Alike U.vm) {x : Addr} {v0 c0 : Value} (E : RoadKit.Exa Z U.heap x ST) (V : RoadKit.Fld Z U.heap x ST "value" "[B" v0) (C : RoadKit.Fld Z U.heap x ST "coder" "B" c0) :
    ∃ (D : Cell) (fV fC : Field), Blank ST x D U ∧ Found ST "value" "[B" fV U ∧ Found ST "coder" "B" fC U ∧ D.slots[fV.slot]? = some v0 ∧ D.slots[fC.slot]? = some c0 ∧ RoadKit.slotOf Z ST "value" "[B" = fV.slot ∧ RoadKit.slotOf Z ST "coder" "B" = fC.slot := by
  obtain ⟨D, cfV, kV, iV, fV, hD, gV, stV, knV, obV, asV, slV⟩ := V
  obtain ⟨D', cfC, kC, iC, fC, hD', gC, stC, -, -, asC, slC⟩ := C
  cases hD.symm.trans hD'
  obtain ⟨D2, kD, e1, e2, e3, e4, e5⟩ := E
  cases hD.symm.trans e1
  obtain ⟨c2, k2, i1, i2, i3, -⟩ := Cond.instantiable_spec wi
  cases e2.symm.trans i1
  cases e3.symm.trans i2
  obtain ⟨kU, u1, u2⟩ := al.2.2 _ _ e3
  exact ⟨D, fV, fC, ⟨hD, ⟨knV, fun q hq => by rw [hq] at obV; cases obV⟩, by rw [al.findClass]; exact e2, kU, u1, by rw [u2]; exact i3, by rw [u2]; exact e5 i3⟩, ⟨SBG.found_only al ⟨cfV, kV, iV, gV⟩, stV⟩, ⟨SBG.found_only al ⟨cfC, kC, iC, gC⟩, stC⟩, slV, slC, by simp [RoadKit.slotOf, gV], by simp [RoadKit.slotOf, gC]⟩
theorem sta_is {Z U : State} (al : Z.vm.Alike U.vm) {C n d : String} {v : Value} (S : RoadKit.Sta Z U.heap C n d v) : StaticIs U C n d v := by
  obtain ⟨cfS, iS, kS, fS, st, cS, t1, t2, t3, t4, t5, t6, t7⟩ := S
  exact StaticIs.there (s := { Z with heap := U.heap }) ⟨cfS, iS, kS, fS, st, cS, t1, t2, t3, t4, t5, (fun q => by rw [q] at t6; cases t6), t7⟩ al rfl
end StrChars.Road
namespace StrChars.Road
open Jvm Sem ClassFile Op Lib Jvm.Stand Jvm.Free Jvm.Free.XT
open Jvm.Lib.Cold (StaticIs)
/-- the road's facts of a String, as the laws ask it -/
theorem txt_of {Z U : State} {a0 : Array Value} {kI : Nat} (wi : (Jvm.Cond.instantiable ST kI).before a0 Z = true) (al : Z.vm.Alike U.vm) {x t : Addr} {kb : ClassId} {cs : List Int32} {cd N2 : Int32} {vs : List Value} (E : RoadKit.Exa Z U.heap x ST) (V : RoadKit.Fld Z U.heap x ST "value" "[B" (.ref t)) (C : RoadKit.Fld Z U.heap x ST "coder" "B" (.int cd)) (K : RoadKit.Arv Z U.heap t kb .byte N2 vs (.int 0)) (hc : CodA cs cd N2 vs) (hb : ∀ c ∈ cs, ¬ c < 0 ∧ ¬ (65535 : Int32) < c) (l2 : cs.length ≤ 4000) :
    ∃ A, Txt x t A cd cs.length (fun j => cs.getD j 0) U := by
  obtain ⟨A, K1, K2, K3, K4, K5, K6⟩ := K
  have hcod := hc.cod (by omega) K3 K5
  obtain ⟨D, fV, fC, hB, F1, F2, g1, g2, -, -⟩ := strObj wi al E V C
  exact ⟨A, ⟨_, hB.2.2.1, D, hB.1, rfl, by cases q : D.vm <;> first | rfl | exact absurd q (hB.2.1.2 _)⟩, Has.of hB F1 g1, Has.of hB F2 g2, ⟨K1.1, State.isArrayOf_alike al K1.2.1, K1.2.2, by rcases hcod with ⟨-, q, -⟩ | ⟨-, q, -⟩ <;> omega⟩, hcod, fun j hj => by
    have e : cs.getD j 0 = cs[j] := by simp [List.getD_eq_getElem?_getD, hj]
    show ¬ cs.getD j 0 < 0 ∧ ¬ 65535 < cs.getD j 0
    rw [e]; exact hb _ (List.getElem_mem _)⟩
end StrChars.Road
namespace StrChars
open Jvm Sem ClassFile Op Lib Jvm.Stand Jvm.Free.XT Jvm.Free.ALB Jvm.Free.JM Jvm.Free
open Jvm.Lib.Cold (StaticIs)
namespace ChN
def yN : MethodName := ⟨"java/lang/String", "charAt", "(I)C"⟩
abbrev yB : ByteArray := jdk_42_method_56_code
theorem d0 : decode yB 0 = .ok (.aload_n 0, 1) := by decide +kernel
theorem d1 : decode yB 1 = .ok (.invokevirtual 492, 3) := by decide +kernel
theorem d4 : decode yB 4 = .ok (.ifCond (.eq) 12, 3) := by decide +kernel
theorem d7 : decode yB 7 = .ok (.aload_n 0, 1) := by decide +kernel
theorem d8 : decode yB 8 = .ok (.getfield 9, 3) := by decide +kernel
theorem d11 : decode yB 11 = .ok (.iload_n 1, 1) := by decide +kernel
theorem d12 : decode yB 12 = .ok (.invokestatic 495, 3) := by decide +kernel
theorem d15 : decode yB 15 = .ok (.ireturn, 1) := by decide +kernel
def site : List Cond := [.fieldLink "java/lang/String" 9 "java/lang/String" "value" "[B", IsL.tab, LChA.tab] ++ virtW "java/lang/String" 492 "java/lang/String" IsL.yN IsL.yN ++ staticW "java/lang/String" 495 LChA.yN
def tab : Cond := tabOf yN yB 2 (some .char) site
def P (x t : Addr) (V : Cell) (n : Nat) (f : Nat → Int32) (z : Int32) (fm : Value) (i : Nat) (args : Array Value) (s : State) : Prop := args = #[.ref x, .int (Int32.ofNat i)] ∧ Txt x t V 0 n f s ∧ i < n ∧ StaticIs s "java/lang/String" "COMPACT_STRINGS" "Z" (.int z) ∧ ¬ z = 0 ∧ StaticIs s "jdk/internal/util/Preconditions" "SIOOBE_FORMATTER" "Ljava/util/function/BiFunction;" fm ∧ fm.isRef = true
def E (f : Nat → Int32) (i : Nat) (r : Option Value) (s u : State) : Prop := XT.PureE (some (.int (f i))) r s u
/-- charAt(i) of a Latin-1 String of n chars, i < n: f i -/
theorem law (l : Launch) (x t : Addr) (V : Cell) (n : Nat) (f : Nat → Int32) (z : Int32) (fm : Value) (i : Nat) : Law l yN 2 1 3 40 yB 2 (some .char) site (P x t V n f z fm i) (E f i) [] 0 0 := by
  refine Law.of_walk (plainFor_of_name (by decide +kernel)) (by decide +kernel) (by decide +kernel) (by decide) (fun _ _ h => by rw [h.1]; rfl) (fun _ U U' hal hh h => ⟨h.1, h.2.1.mv hal hh, h.2.2.1, h.2.2.2.1.there hal hh, h.2.2.2.2.1, h.2.2.2.2.2.1.there hal hh, h.2.2.2.2.2.2⟩) (fun r U U' V V' h1 hal h2 h => XT.PureE.mv r U U' V V' h1 hal h2 h) ?_
  intro p e s m args below meth c s₁ X0 hexec hbytes hml hret hlk hnm hown hh0 W hP
  obtain ⟨rfl, hx, hi, s1, hz, s3, rf⟩ := hP
  have v31 := hx.2.2.2.1.2.2.2
  have hr := hx.2.2.2.2.2 i hi
  have hx0 := hx.mv X0.warmed.alike hh0
  have c1 : Steps p.tables e below (s₁.setTop (entryFrame m #[.ref x, .int (Int32.ofNat i)] 2)) (s₁.setTop (mkF m 1 #[.val (.ref x), .val (.int (Int32.ofNat i))] [.ref x])) := Steps.trans (entry rfl) (by
    show Steps p.tables e below (s₁.setTop (mkF m 0 #[.val (.ref x), .val (.int (Int32.ofNat i))] [])) _
    refine XS.aloadN X0.here hexec rfl (hb hbytes d0) rfl rfl ?_
    exact Steps.refl _)
  obtain ⟨v2, T2, X2, E2, g2⟩ := X0.callV hexec (IsL.law l x 0 z) hown (wks W (virtW "java/lang/String" 492 "java/lang/String" IsL.yN IsL.yN)) rfl (by decide) (wk W IsL.tab) (W := 0) (Nat.le_of_ble_eq_true rfl) (Nat.le_of_ble_eq_true rfl) (Nat.le_refl _) (Nat.le_refl _) (hx0.1.fc X0.warmed.alike) hx0.1.is (g := (mkF m 1 #[.val (.ref x), .val (.int (Int32.ofNat i))] [.ref x])) rfl (by rw [hml]; rfl) c1 (argsL := []) (rest := []) rfl rfl (by show 2 * 0 + 0 ≤ _; decide) (hb hbytes d1) (⟨rfl, hx0.2.2.1, hx.2.2.2.2.1.cd, s1.there X0.warmed.alike hh0, hz⟩)
  obtain ⟨rfl, q2⟩ := E2
  have hh2 := q2.trans hh0
  have hx2 := hx.mv X2.warmed.alike hh2
  obtain ⟨-, k1, k2⟩ | ⟨k0, -⟩ := hx.2.2.2.2.1
  · have c3 : Steps p.tables e below (s₁.setTop (entryFrame m #[.ref x, .int (Int32.ofNat i)] 2)) (T2.setTop (mkF m 8 #[.val (.ref x), .val (.int (Int32.ofNat i))] [.ref x])) := Steps.trans g2 (by
      refine XS.ifNo X2.here hexec rfl (hb hbytes d4) rfl (i0_eq_f (by decide)) ?_
      refine XS.aloadN X2.here hexec rfl (hb hbytes d7) rfl rfl ?_
      exact Steps.refl _)
    obtain ⟨T4, X4, q4, st4⟩ := X2.hget hexec hown (wk W (.fieldLink "java/lang/String" 9 "java/lang/String" "value" "[B")) hx2.2.1 (g := (mkF m 8 #[.val (.ref x), .val (.int (Int32.ofNat i))] [.ref x])) rfl (rest := []) rfl (hb hbytes d8)
    have hh4 := q4.trans hh2
    have c5 : Steps p.tables e below (s₁.setTop (entryFrame m #[.ref x, .int (Int32.ofNat i)] 2)) (T4.setTop (mkF m 12 #[.val (.ref x), .val (.int (Int32.ofNat i))] [.int (Int32.ofNat i), .ref t])) := (c3.trans (st4 _ (Steps.refl _))).trans (by
      refine XS.iloadN X4.here hexec rfl (hb hbytes d11) rfl ?_
      exact Steps.refl _)
    obtain ⟨v6, T6, X6, E6, g6⟩ := X4.callS hexec (LChA.law l t V i (lo8 (f i)) fm) hown (wks W (staticW "java/lang/String" 495 LChA.yN)) (wk W LChA.tab) (W := 0) (Nat.le_of_ble_eq_true rfl) (Nat.le_of_ble_eq_true rfl) (Nat.le_refl _) (Nat.le_refl _) (g := (mkF m 12 #[.val (.ref x), .val (.int (Int32.ofNat i))] [.int (Int32.ofNat i), .ref t])) rfl (by rw [hml]; rfl) c5 (argsL := [.ref t, .int (Int32.ofNat i)]) (rest := []) rfl rfl (by show 2 * 0 + 0 ≤ _; decide) (hb hbytes d12) (⟨rfl, hx.2.2.2.1.mv X4.warmed.alike hh4, (k2 i hi).1, s3.there X4.warmed.alike hh4, rf⟩)
    obtain ⟨rfl, q6⟩ := E6
    rw [chr8_lo8 hr.1 (k2 i hi).2] at g6
    exact ⟨T6, some (.int (f i)), _, _, _, X6, rfl, rfl, rfl, (fun h => by cases h), ⟨rfl, q6.trans hh4⟩, fun fs hl => Steps.trans g6 (X6.ireturnOut hexec hret (narrow_ch hr.1 hr.2) (Or.inr (Or.inr (Or.inr (Or.inl rfl)))) (hb hbytes d15) hl)⟩
  · exact absurd k0 (by decide)
theorem pays {l : Launch} {R : Room} {p : Program} {e : Env} {below : List Frame} {s : State} {sargs : Array Value} {len W : Nat} (x t : Addr) (V : Cell) (n : Nat) (f : Nat → Int32) (z : Int32) (fm : Value) (i : Nat) (htab : tab.before sargs s = true) (hfr : 4 ≤ R.frames) (hlo : W + 53 ≤ R.locals) :
    Back l R p e below s sargs yN len W (fun A₁ a₁ => A₁.cells + 0 ≤ R.cells ∧ A₁.slots + 0 ≤ R.slots ∧ P x t V n f z fm i a₁ A₁.U) (fun A₁ _ v₁ B₁ => E f i v₁ A₁.U B₁.U ∧ B₁.locs = A₁.locs ++ [] ∧ B₁.cells = A₁.cells + 0 ∧ B₁.slots = A₁.slots + 0) :=
  (law l x t V n f z fm i).pays htab hfr (by omega)
end ChN
end StrChars
namespace StrChars.Road
open Jvm Sem ClassFile Op Lib Jvm.Stand Jvm.Free Jvm.Free.XT
open Jvm.Lib.Cold (StaticIs)
/-- the words of String.charAt(int), the Latin-1 road alone -/
abbrev wordsChN : List Jvm.Cond := [.code ChN.yN ChN.yB 2 (some .char), .initialized ST, .fieldLink ST 9 ST "value" "[B", .fieldLink ST 38 ST "COMPACT_STRINGS" "Z", .fieldLink ST 15 ST "coder" "B", .code IsL.yN IsL.yB 1 (some .boolean), .methodLink ST 492 IsL.yN, .declares IsL.yN, .selects ST IsL.yN IsL.yN, .instanceMethod IsL.yN,
  .methodLink ST 495 LChA.yN, .static LChA.yN, .code LChA.yN LChA.yB 2 (some .char), .initialized "java/lang/StringLatin1", .methodLink "java/lang/StringLatin1" 9 JO.Str_checkIndex.yN, .static JO.Str_checkIndex.yN, .code JO.Str_checkIndex.yN JO.Str_checkIndex.yB 2 none,
  .fieldLink ST 1053 "jdk/internal/util/Preconditions" "SIOOBE_FORMATTER" "Ljava/util/function/BiFunction;", .methodLink ST 1059 JC.PreCheck.yN, .static JC.PreCheck.yN, .code JC.PreCheck.yN JC.PreCheck.yB 3 (some .int), .initialized "jdk/internal/util/Preconditions"]
theorem tabChN_of {a : Array Value} {s : State} (h : ∀ w ∈ wordsChN, w.before a s = true) : ChN.tab.before a s = true := by
  have hp : JC.PreCheck.tab.before a s = true := unparts (wk h (.code JC.PreCheck.yN JC.PreCheck.yB 3 (some .int))) (wks h (.initialized JC.PreCheck.yN.cls :: JC.PreCheck.site))
  have qk := consq hp h
  have hk : JO.Str_checkIndex.tab.before a s = true := unparts (wk qk (.code JO.Str_checkIndex.yN JO.Str_checkIndex.yB 2 none)) (wks qk (.initialized JO.Str_checkIndex.yN.cls :: JO.Str_checkIndex.site))
  have ql := consq hk h
  have hl : LChA.tab.before a s = true := unparts (wk ql (.code LChA.yN LChA.yB 2 (some .char))) (wks ql (.initialized LChA.yN.cls :: LChA.site))
  have hi : IsL.tab.before a s = true := unparts (wk h (.code IsL.yN IsL.yB 1 (some .boolean))) (wks h (.initialized IsL.yN.cls :: IsL.site))
  have q := consq hi (consq hl h)
  exact unparts (wk q (.code ChN.yN ChN.yB 2 (some .char))) (wks q (.initialized ChN.yN.cls :: ChN.site))
theorem movedChN {Z s : State} {a0 args : Array Value} (hZ : Z.Warmed39 s.vm) (hw : ∀ d ∈ wordsChN, d.before a0 Z = true) : ∀ d ∈ wordsChN, d.before args s = true := fun d hd => by
  have t : ∀ d ∈ wordsChN, (d.onTables && d.keepsFace) = true := by decide +kernel
  exact RoadKit.mv hZ (hw d hd) (t d hd)
/-- **charAt(i) OF A LATIN-1 STRING**, i < n: the char -/
theorem chN {p : Program} {l : Launch} {e : Env} {R : Room} {s : State} {args : Array Value} {below : List Frame} {len W : Nat} {Z : State} {a0 : Array Value} {h : Heap} (hZ : Z.Warmed39 s.vm) (hw : ∀ d ∈ wordsChN, d.before a0 Z = true) {kI : Nat} (wi : (Jvm.Cond.instantiable ST kI).before a0 Z = true)
    {x t : Addr} {kb : ClassId} {cs : List Int32} {N2 z : Int32} {vs : List Value} {fm : Value} {i : Nat} {j : Int32} (E : RoadKit.Exa Z h x ST) (V : RoadKit.Fld Z h x ST "value" "[B" (.ref t)) (C : RoadKit.Fld Z h x ST "coder" "B" (.int 0)) (K : RoadKit.Arv Z h t kb .byte N2 vs (.int 0)) (hc : CodA cs 0 N2 vs) (hb : ∀ c ∈ cs, ¬ c < 0 ∧ ¬ (65535 : Int32) < c)
    (S : RoadKit.Sta Z h ST "COMPACT_STRINGS" "Z" (.int z)) (hz : ¬ z = 0) (F : RoadKit.Sta Z h "jdk/internal/util/Preconditions" "SIOOBE_FORMATTER" "Ljava/util/function/BiFunction;" fm) (rf : fm.isRef = true) (l2 : cs.length ≤ 4000) (hi : i < cs.length) (hj : j = Int32.ofNat i) (hfr : 4 ≤ R.frames) (hlo : W + 53 ≤ R.locals) :
    Back l R p e below s args (⟨"java/lang/String", "charAt", "(I)C"⟩ : MethodName) len W (fun P a => a = #[.ref x, .int j] ∧ P.U.heap = h ∧ P.cells + 0 ≤ R.cells ∧ P.slots + 0 ≤ R.slots)
      (fun P _ v B => ∃ L, (v = some (.int (cs.getD i 0)) ∧ L = [] ∧ B.U.heap = h) ∧ B.locs = P.locs ++ L ∧ B.cells = P.cells + 0 ∧ B.slots = P.slots + 0) := by
  subst hj
  intro m meth c P g ig mk a X hg hsize hdg hW hn hp'
  obtain ⟨rfl, rfl, r1, r2⟩ := hp'
  have al : Z.vm.Alike P.U.vm := hZ.alike.trans X.warmed.alike
  obtain ⟨A, hx⟩ := txt_of wi al E V C K hc hb l2
  obtain ⟨v, B, X', ⟨⟨hv, hh⟩, hl, hk, hs⟩, st⟩ := ChN.pays x t A cs.length (fun j => cs.getD j 0) z fm i (tabChN_of (movedChN hZ hw)) hfr hlo m meth c P g ig mk _ X hg hsize hdg hW hn ⟨r1, r2, rfl, hx, hi, sta_is al S, hz, sta_is al F, rf⟩
  exact ⟨v, B, X', ⟨[], ⟨hv, rfl, hh⟩, hl, hk, hs⟩, st⟩
/-- what backV says of its String, as the contracts of this text ask it: cs's low bytes, coder 0 -/
theorem codOf {cs : List Int32} {n : Nat} (hn : cs.length = n) (hb : ∀ c ∈ cs, ¬ 255 < c) : CodA cs 0 (Int32.ofNat n) ((cs.map lo8).map Value.int) := Or.inl ⟨rfl, by rw [hn], by simp [List.map_map, Function.comp_def], hb⟩
end StrChars.Road
end Jvm.Pilot.@@N@@
namespace Jvm.Pilot.@@N@@
open Jvm Jvm.ClassFile Sem Op Lib Jvm.Free Jvm.Stand Jvm.LawKit Jvm.RoadKit Bundle Jvm.Pilot.@@N@@.Jvm.D
section Own
variable {p : Program} {l : Launch} {e : Env} {R : Room} {s : State} {m : MethodId} {args : Array Value} {below : List Frame} {meth : Method} {c : Code} {T : State} {locs : List Loc} {cells slots : Nat}
/-- from U the run comes to an end that Q allows -/
def own_Go (p : Program) (e : Env) (below : List Frame) (s : State) (kc ks : Nat) (Q : Option Value → Heap → List Loc → Prop) (U : State) : Prop :=
  ∃ s₂ o, Steps p.tables e below U s₂ ∧ s₂.status = .running ∧ Ended s₂ below o ∧ ∃ v L, o = .returned v ∧ Q v s₂.heap L ∧ FrameEnd s o s₂ L kc ks
theorem own_step {kc ks : Nat} {Q : Option Value → Heap → List Loc → Prop} {U U' : State} (k : ∀ t, Steps p.tables e below U' t → Steps p.tables e below U t) (g : own_Go p e below s kc ks Q U') : own_Go p e below s kc ks Q U := by
  obtain ⟨s₂, o, h, r⟩ := g
  exact ⟨s₂, o, k _ h, r⟩
theorem own_ret {kc ks : Nat} {Q : Option Value → Heap → List Loc → Prop} {U : State} (X : Stand p l e R s m args below meth c T locs cells slots) {v : Option Value} (hv : meth.sig.returnType = none → v = none) (hlocks : meth.locks = false) (hk : cells ≤ kc) (hs : slots ≤ ks) (hq : Q v T.heap locs)
    (k : ∀ fs, (∀ (f : JFrame) (acts : List Action), f.method = m → f.locked = none → f.entered = [] → (doReturn e (T.setTop f) acts v).1 = T.setFrames fs) → Steps p.tables e below U (T.setFrames fs)) : own_Go p e below s kc ks Q U := by
  obtain ⟨fs, hr, hrun, hended, hW, hsame⟩ := X.leave (v := v) hv hlocks
  exact ⟨_, _, k fs hr, hrun, hended, v, locs, rfl, hq, ⟨_, rfl⟩, hW, hsame.mono hk hs⟩
def own_GoW (p : Program) (e : Env) (below : List Frame) (s : State) (kc ks : Nat) (Q : Option Value → Heap → List Loc → Prop) (U : State) : Prop :=
  ∃ s₂ o, Steps p.tables e below U s₂ ∧ s₂.status = .running ∧ Ended s₂ below o ∧ ∃ v L, o = .returned v ∧ Q v s₂.heap L ∧ ReturnedEndW s o s₂ L kc ks
theorem own_stepW {kc ks : Nat} {Q : Option Value → Heap → List Loc → Prop} {U U' : State} (k : ∀ t, Steps p.tables e below U' t → Steps p.tables e below U t) (g : own_GoW p e below s kc ks Q U') : own_GoW p e below s kc ks Q U := by
  obtain ⟨s₂, o, h, r⟩ := g
  exact ⟨s₂, o, k _ h, r⟩
theorem own_retW {kc ks : Nat} {Q : Option Value → Heap → List Loc → Prop} {U : State} {vm₁ : Vm} {n : Nat} (X : Stand p l e R (s.setVm vm₁) m args below meth c T locs cells slots) (hS : s.Since vm₁ n) (hn : n ≤ T.heap.size) {v : Option Value} (hv : meth.sig.returnType = none → v = none) (hlocks : meth.locks = false) (hk : cells ≤ kc) (hs : slots ≤ ks) (hq : Q v T.heap locs)
    (k : ∀ fs, (∀ (f : JFrame) (acts : List Action), f.method = m → f.locked = none → f.entered = [] → (doReturn e (T.setTop f) acts v).1 = T.setFrames fs) → Steps p.tables e below U (T.setFrames fs)) : own_GoW p e below s kc ks Q U := by
  obtain ⟨fs, hr, hrun, hended, h1, h2, h3, h4⟩ := X.leaveW hS hn (v := v) hv hlocks
  exact ⟨_, _, k fs hr, hrun, hended, v, locs, rfl, hq, h1, h2, h3, h4.mono hk hs⟩
theorem own_narR {t : FieldType} {v : Value} (h : v.isRef = true) : narrow t v = v := by cases v <;> first | (cases h; done) | (cases t <;> rfl)
theorem own_fitR {t : String} {v : Value} (h : v.isRef = true) : fits (.object t) v = true := by cases v <;> first | (cases h; done) | rfl
theorem own_at {h : Heap} {a : Addr} {k : Cell} (e : T.heap = h) (q : h[a]? = some k) : T.heap[a]? = some k := e ▸ q
theorem own_pl0 {h : Heap} : ∀ a ∈ ([] : List Addr), ∀ c : Cell, h[a]? = some c → c.vm.isStatics = false := fun _ q => nomatch q
theorem own_plE {Z : State} {h : Heap} {a : Addr} {C : String} {ws : List Addr} (E : Exa Z h a C) (r : ∀ x ∈ ws, ∀ c : Cell, h[x]? = some c → c.vm.isStatics = false) : ∀ x ∈ a :: ws, ∀ c : Cell, h[x]? = some c → c.vm.isStatics = false := fun x hx c hc => by
  rcases List.mem_cons.mp hx with rfl | q
  · obtain ⟨cell, k, h1, -, -, h4, -⟩ := E
    cases h1.symm.trans hc; exact h4
  · exact r x q c hc
theorem own_plF {Z : State} {h : Heap} {a : Addr} {C n d : String} {v : Value} {ws : List Addr} (E : Fld Z h a C n d v) (r : ∀ x ∈ ws, ∀ c : Cell, h[x]? = some c → c.vm.isStatics = false) : ∀ x ∈ a :: ws, ∀ c : Cell, h[x]? = some c → c.vm.isStatics = false := fun x hx c hc => by
  rcases List.mem_cons.mp hx with rfl | q
  · exact old_plain E c hc
  · exact r x q c hc
theorem own_plV {Z : State} {h : Heap} {a : Addr} {k : ClassId} {ty : FieldType} {z : Int32} {vs : List Value} {d : Value} {ws : List Addr} (E : Arv Z h a k ty z vs d) (r : ∀ x ∈ ws, ∀ c : Cell, h[x]? = some c → c.vm.isStatics = false) : ∀ x ∈ a :: ws, ∀ c : Cell, h[x]? = some c → c.vm.isStatics = false := fun x hx c hc => by
  rcases List.mem_cons.mp hx with rfl | q
  · obtain ⟨cl, A, -⟩ := E
    cases A.1.symm.trans hc; exact A.plain
  · exact r x q c hc
theorem own_sta_keep {Z : State} {h h' : Heap} {C n d : String} {w : Value} {ws : List Addr} (F : Sta Z h C n d w) (K : Keep h h' ws) (r : ∀ x ∈ ws, ∀ c : Cell, h[x]? = some c → c.vm.isStatics = false) : Sta Z h' C n d w := by
  obtain ⟨cf, i, k, f, st, cell, h1, h2, h3, h4, h5, h6, h7⟩ := F
  exact ⟨cf, i, k, f, st, cell, h1, h2, h3, h4, K.2.1 st cell h5 (fun q => by rw [r st q cell h5] at h6; cases h6), h6, h7⟩
end Own
def own_lrem (x y : Int64) : Int64 := x - (x / y) * y
def own_pl : List Int64 := [1, 10, 100, 1000, 10000, 100000, 1000000, 10000000, 100000000, 1000000000, 10000000000, 100000000000, 1000000000000, 10000000000000, 100000000000000, 1000000000000000, 10000000000000000, 100000000000000000, 1000000000000000000]
def own_p10 (k : Int32) : Int64 := own_pl.getD k.toNatClampNeg 0
def own_B (k : Int32) (j : Nat) : Prop := k.toInt = (j : Int) ∧ j ≤ 18
theorem own_B.nat {k : Int32} {j : Nat} (h : own_B k j) : k.toNatClampNeg = j := by
  obtain ⟨h1, h2⟩ := h
  show k.toInt.toNat = j
  omega
theorem own_pl_at : ∀ j < 19, own_pl.getD j 0 = Int64.ofNat (10 ^ j) := by decide
theorem own_p10_eq {k : Int32} {j : Nat} (h : own_B k j) : own_p10 k = Int64.ofNat (10 ^ j) := by
  unfold own_p10
  rw [h.nat]
  exact own_pl_at j (by have := h.2; omega)
theorem own_ofN {a : Nat} (h : a < 9223372036854775808) : (Int64.ofNat a).toInt = a := Int64.toInt_ofNat_of_lt (by simpa using h)
theorem own_pow_lt {j : Nat} (h : j ≤ 18) : 10 ^ j < 9223372036854775808 := by
  have : 10 ^ j ≤ 10 ^ 18 := Nat.pow_le_pow_right (by decide) h
  omega
theorem own_divN {a b : Nat} (ha : a < 9223372036854775808) (hb : b < 9223372036854775808) : Int64.ofNat a / Int64.ofNat b = Int64.ofNat (a / b) := by
  apply Int64.toInt_inj.mp
  have h1 : a / b ≤ a := Nat.div_le_self _ _
  rw [Jvm.Kit.i64_div (by rw [own_ofN ha, own_ofN hb]; omega), own_ofN ha, own_ofN hb, own_ofN (by omega)]
  rw [Int.tdiv_eq_ediv_of_nonneg (by omega)]
  rfl
theorem own_remN {a b : Nat} (ha : a < 9223372036854775808) (hb : b < 9223372036854775808) : own_lrem (Int64.ofNat a) (Int64.ofNat b) = Int64.ofNat (a % b) := by
  apply Int64.toInt_inj.mp
  have h1 : a % b ≤ a := Nat.mod_le _ _
  unfold own_lrem
  rw [Jvm.Kit.i64_rem_nonneg (by rw [own_ofN ha]; omega), own_ofN ha, own_ofN hb, own_ofN (by omega)]
  rfl
theorem own_p10_nz {k : Int32} {j : Nat} (h : own_B k j) : own_p10 k ≠ 0 := by
  rw [own_p10_eq h]
  intro q
  have h2 := own_pow_lt h.2
  have := own_ofN h2
  rw [q] at this
  have h3 : 0 < 10 ^ j := Nat.pow_pos (by decide)
  have e0 : (0 : Int64).toInt = 0 := rfl
  omega
theorem own_p10_in {k : Int32} {j : Nat} (h : own_B k j) : ¬ k < 0 ∧ k < (19 : Int32) := by
  rw [Int32.lt_iff_toInt_lt, Int32.lt_iff_toInt_lt]
  have e0 : (0 : Int32).toInt = 0 := rfl
  have e1 : (19 : Int32).toInt = 19 := rfl
  obtain ⟨h1, h2⟩ := h
  omega
def own_w (M s i : Nat) : Nat := M / 10 ^ (20 - i) % 10 ^ (i - s)
theorem own_w_step {M s i : Nat} (h1 : s ≤ i) (h2 : i < 20) : own_w M s (i + 1) = own_w M s i * 10 + M / 10 ^ (19 - i) % 10 := by
  unfold own_w
  have e1 : 20 - (i + 1) = 19 - i := by omega
  have e2 : 20 - i = (19 - i) + 1 := by omega
  have e3 : i + 1 - s = (i - s) + 1 := by omega
  have p1 : 10 ^ ((19 - i) + 1) = 10 ^ (19 - i) * 10 := Nat.pow_succ ..
  have p2 : 10 ^ ((i - s) + 1) = 10 * 10 ^ (i - s) := by rw [Nat.pow_succ, Nat.mul_comm]
  rw [e1, e2, e3, p1, p2, ← Nat.div_div_eq_div_mul]
  generalize M / 10 ^ (19 - i) = Q
  rw [Nat.mod_mul]
  omega
theorem own_w_lt (M s i : Nat) : own_w M s i < 10 ^ (i - s) := Nat.mod_lt _ (Nat.pow_pos (by decide))
theorem own_w0 (M s : Nat) : own_w M s s = 0 := by unfold own_w; rw [Nat.sub_self]; exact Nat.mod_one _
def own_dgN (M i : Nat) : Int32 := Int32.ofNat (48 + M / 10 ^ (19 - i) % 10)
theorem own_dg_int (M i : Nat) : (own_dgN M i).toInt = 48 + (M / 10 ^ (19 - i) % 10 : Nat) := by
  unfold own_dgN
  have : M / 10 ^ (19 - i) % 10 < 10 := Nat.mod_lt _ (by decide)
  rw [Int32.toInt_ofNat_of_lt (by omega)]
  omega
theorem own_dg_range (M i : Nat) : ¬ own_dgN M i < 0 ∧ ¬ (255 : Int32) < own_dgN M i := by
  have h := own_dg_int M i
  have : M / 10 ^ (19 - i) % 10 < 10 := Nat.mod_lt _ (by decide)
  rw [Int32.lt_iff_toInt_lt, Int32.lt_iff_toInt_lt]
  have e0 : (0 : Int32).toInt = 0 := rfl
  have e1 : (255 : Int32).toInt = 255 := rfl
  omega
theorem own_dg_64 (M i : Nat) : (own_dgN M i - (48 : Int32)).toInt64 = Int64.ofNat (M / 10 ^ (19 - i) % 10) := by
  have h := own_dg_int M i
  have hl : M / 10 ^ (19 - i) % 10 < 10 := Nat.mod_lt _ (by decide)
  apply Int64.toInt_inj.mp
  rw [Int32.toInt_toInt64, Jvm.Kit.i32_sub (by have : (48 : Int32).toInt = 48 := rfl; omega) (by have : (48 : Int32).toInt = 48 := rfl; omega), h, own_ofN (by omega)]
  have : (48 : Int32).toInt = 48 := rfl
  omega
theorem own_acc_step {M s i : Nat} (h1 : s ≤ i) (h2 : i < 20) : (Int64.ofNat (own_w M s i) * (10 : Int64)) + (own_dgN M i - (48 : Int32)).toInt64 = Int64.ofNat (own_w M s (i + 1)) := by
  rw [own_dg_64, own_w_step h1 h2, Int64.ofNat_add, Int64.ofNat_mul]
  rfl

/-! the law's own side -/
def own_min (a b : Int32) : Int32 := if b < a then b else a
def own_max (a b : Int32) : Int32 := if a < b then b else a
theorem own_min_i (a b : Int32) : (own_min a b).toInt = min a.toInt b.toInt := by
  unfold own_min
  split
  · rename_i h; rw [Int32.lt_iff_toInt_lt] at h; omega
  · rename_i h; rw [Int32.lt_iff_toInt_lt] at h; omega
theorem own_max_i (a b : Int32) : (own_max a b).toInt = max a.toInt b.toInt := by
  unfold own_max
  split
  · rename_i h; rw [Int32.lt_iff_toInt_lt] at h; omega
  · rename_i h; rw [Int32.lt_iff_toInt_lt] at h; omega
theorem own_nn {a n : Int64} (h : own_lrem (a &&& (9223372036854775807 : Int64)) (1000000000000000000 : Int64) = n) : ∃ N : Nat, n = Int64.ofNat N ∧ N < 1000000000000000000 := by
  have h1 := Jvm.Kit.i64_mask a 9223372036854775807 (k := 63) (by decide) (by decide)
  have h2 : 0 ≤ (a &&& (9223372036854775807 : Int64)).toInt := by omega
  have h3 : n.toInt = (a &&& (9223372036854775807 : Int64)).toInt % 1000000000000000000 := by
    rw [← h]; unfold own_lrem; rw [Jvm.Kit.i64_rem_nonneg h2]; rfl
  have h4 : 0 ≤ n.toInt ∧ n.toInt < 1000000000000000000 := by omega
  refine ⟨n.toInt.toNat, ?_, by omega⟩
  apply Int64.toInt_inj.mp
  rw [own_ofN (by omega)]; omega
theorem own_tt {b t : Int32} (h : (b &&& (2147483647 : Int32)) % (100 : Int32) = t) : ∃ T : Nat, t.toInt = T ∧ T < 100 := by
  have h1 := Jvm.Kit.i32_mask b 2147483647 (k := 31) (by decide) (by decide)
  have h3 : t.toInt = (b &&& (2147483647 : Int32)).toInt % 100 := by
    rw [← h, Jvm.Kit.i32_rem_nonneg (by omega)]; rfl
  exact ⟨t.toInt.toNat, by omega, by omega⟩
theorem own_ss {p s : Int32} (h : (p &&& (2147483647 : Int32)) % (21 : Int32) = s) : ∃ S : Nat, s.toInt = S ∧ S ≤ 20 := by
  have h1 := Jvm.Kit.i32_mask p 2147483647 (k := 31) (by decide) (by decide)
  have h3 : s.toInt = (p &&& (2147483647 : Int32)).toInt % 21 := by
    rw [← h, Jvm.Kit.i32_rem_nonneg (by omega)]; rfl
  exact ⟨s.toInt.toNat, by omega, by omega⟩
theorem own_21 {s : Int32} {S : Nat} (hs : s.toInt = S) (h : S ≤ 20) : ((21 : Int32) - s).toInt = 21 - S := by
  have e : (21 : Int32).toInt = 21 := rfl
  rw [Jvm.Kit.i32_sub (by omega) (by omega), e, hs]
theorem own_21nz {s : Int32} {S : Nat} (hs : s.toInt = S) (h : S ≤ 20) : (21 : Int32) - s ≠ 0 := fun q => by
  have := own_21 hs h
  rw [q] at this
  have e : (0 : Int32).toInt = 0 := rfl
  omega
theorem own_ee {q s e : Int32} {S : Nat} (hs : s.toInt = S) (hS : S ≤ 20) (h : s + ((q &&& (2147483647 : Int32)) % ((21 : Int32) - s)) = e) : ∃ E : Nat, e.toInt = E ∧ S ≤ E ∧ E ≤ 20 := by
  have h1 := Jvm.Kit.i32_mask q 2147483647 (k := 31) (by decide) (by decide)
  have h2 := own_21 hs hS
  have h3 : ((q &&& (2147483647 : Int32)) % ((21 : Int32) - s)).toInt = (q &&& (2147483647 : Int32)).toInt % (21 - S) := by
    rw [Jvm.Kit.i32_rem_nonneg (by omega), h2]
  have h4 : 0 ≤ (q &&& (2147483647 : Int32)).toInt % (21 - (S : Int)) := Int.emod_nonneg _ (by omega)
  have h5 : (q &&& (2147483647 : Int32)).toInt % (21 - (S : Int)) < 21 - S := Int.emod_lt_of_pos _ (by omega)
  have h6 : e.toInt = S + (q &&& (2147483647 : Int32)).toInt % (21 - S) := by
    rw [← h, Jvm.Kit.i32_add (by omega) (by omega), h3, hs]
  exact ⟨e.toInt.toNat, by omega, by omega, by omega⟩
theorem own_sub_i {a b : Int32} {A B : Nat} (ha : a.toInt = A) (hb : b.toInt = B) (h1 : A ≤ 100) (h2 : B ≤ 100) : (a - b).toInt = (A : Int) - B := by
  rw [Jvm.Kit.i32_sub (by omega) (by omega), ha, hb]
theorem own_gt18 {s e : Int32} {S E : Nat} (hs : s.toInt = S) (he : e.toInt = E) (h1 : S ≤ E) (h2 : E ≤ 20) : (18 : Int32) < e - s ↔ 18 < E - S := by
  rw [Int32.lt_iff_toInt_lt, own_sub_i he hs (by omega) (by omega)]
  have : (18 : Int32).toInt = 18 := rfl
  omega
/-- the expected value, in plain numbers -/
theorem own_w_case1 {N T S E : Nat} (hT : T < 100) (h1 : S ≤ E) (h2 : E ≤ 18) : own_w (N * 100 + T) S E = N / 10 ^ (18 - E) % 10 ^ (E - S) := by
  unfold own_w
  have e : 20 - E = 2 + (18 - E) := by omega
  rw [e, Nat.pow_add, ← Nat.div_div_eq_div_mul]
  have : (N * 100 + T) / 10 ^ 2 = N := by omega
  rw [this]
theorem own_w_case2 {N T S E : Nat} (hT : T < 100) (h1 : S ≤ 18) (h2 : 18 ≤ E) (h3 : E ≤ 20) : own_w (N * 100 + T) S E = (N % 10 ^ (18 - S)) * 10 ^ (E - 18) + T / 10 ^ (20 - E) % 10 ^ (E - 18) := by
  unfold own_w
  have e1 : E - S = (E - 18) + (18 - S) := by omega
  have hE : E = 18 ∨ E = 19 ∨ E = 20 := by omega
  rcases hE with rfl | rfl | rfl
  · show (N * 100 + T) / 100 % 10 ^ (18 - S) = N % 10 ^ (18 - S) * 1 + T / 100 % 1
    have : (N * 100 + T) / 100 = N := by omega
    rw [this]; omega
  · rw [e1, Nat.pow_add]
    show (N * 100 + T) / 10 % (10 * 10 ^ (18 - S)) = N % 10 ^ (18 - S) * 10 + T / 10 % 10
    have : (N * 100 + T) / 10 = N * 10 + T / 10 := by omega
    rw [this, Nat.mod_mul]
    have a : (N * 10 + T / 10) % 10 = T / 10 % 10 := by omega
    have b : (N * 10 + T / 10) / 10 = N := by omega
    rw [a, b]; omega
  · rw [e1, Nat.pow_add]
    show (N * 100 + T) / 1 % (100 * 10 ^ (18 - S)) = N % 10 ^ (18 - S) * 100 + T / 1 % 100
    rw [Nat.div_one, Nat.mod_mul, Nat.div_one]
    have a : (N * 100 + T) % 100 = T % 100 := by omega
    have b : (N * 100 + T) / 100 = N := by omega
    rw [a, b]; omega
theorem own_w_case3 {N T S E : Nat} (hT : T < 100) (h1 : 18 ≤ S) (h2 : S ≤ E) (h3 : E ≤ 20) : own_w (N * 100 + T) S E = T / 10 ^ (20 - E) % 10 ^ (E - S) := by
  unfold own_w
  have hE : (S = 18 ∧ E = 18) ∨ (S = 18 ∧ E = 19) ∨ (S = 18 ∧ E = 20) ∨ (S = 19 ∧ E = 19) ∨ (S = 19 ∧ E = 20) ∨ (S = 20 ∧ E = 20) := by omega
  rcases hE with ⟨rfl, rfl⟩ | ⟨rfl, rfl⟩ | ⟨rfl, rfl⟩ | ⟨rfl, rfl⟩ | ⟨rfl, rfl⟩ | ⟨rfl, rfl⟩
  · show (N * 100 + T) / 100 % 1 = T / 100 % 1; omega
  · show (N * 100 + T) / 10 % 10 = T / 10 % 10; omega
  · show (N * 100 + T) / 1 % 100 = T / 1 % 100; omega
  · show (N * 100 + T) / 10 % 1 = T / 10 % 1; omega
  · show (N * 100 + T) / 1 % 10 = T / 1 % 10; omega
  · show (N * 100 + T) / 1 % 1 = T / 1 % 1; omega

def own_c2 (x : Int32) : Int32 := x.toUInt32.toUInt16.toUInt32.toInt32
def own_dg (n : Int64) (k : Int32) : Int32 := own_c2 (own_c2 ((48 : Int32) + (own_lrem (n / own_p10 k) (10 : Int64)).toInt32))
theorem own_10 : ∀ d : Fin 10, own_c2 (own_c2 (own_c2 ((48 : Int32) + (Int64.ofNat d.val).toInt32))) = Int32.ofNat (48 + d.val) := by decide +kernel
theorem own_dgc {N T j : Nat} {k : Int32} (hN : N < 1000000000000000000) (hT : T < 100) (hk : own_B k j) (hj : j ≤ 17) : own_c2 (own_dg (Int64.ofNat N) k) = own_dgN (N * 100 + T) (17 - j) := by
  unfold own_dg own_dgN
  have hp := own_pow_lt hk.2
  rw [own_p10_eq hk, own_divN (by omega) hp]
  have hd : N / 10 ^ j ≤ N := Nat.div_le_self _ _
  have e10 : (10 : Int64) = Int64.ofNat 10 := rfl
  rw [e10, own_remN (by omega) (by decide)]
  have hl : N / 10 ^ j % 10 < 10 := Nat.mod_lt _ (by decide)
  have := own_10 ⟨N / 10 ^ j % 10, hl⟩
  simp only [] at this
  rw [this]
  have e : 19 - (17 - j) = 2 + j := by omega
  rw [e, Nat.pow_add, ← Nat.div_div_eq_div_mul]
  have : (N * 100 + T) / 10 ^ 2 = N := by omega
  rw [this]
theorem own_t18F : ∀ d : Fin 100, own_c2 (own_c2 ((48 : Int32) + Int32.ofNat d.val / (10 : Int32))) = Int32.ofNat (48 + d.val / 10) := by decide +kernel
theorem own_t19F : ∀ d : Fin 100, own_c2 (own_c2 ((48 : Int32) + Int32.ofNat d.val % (10 : Int32))) = Int32.ofNat (48 + d.val % 10) := by decide +kernel
theorem own_tof {t : Int32} {T : Nat} (h : t.toInt = T) (hT : T < 100) : t = Int32.ofNat T := by
  apply Int32.toInt_inj.mp
  rw [Int32.toInt_ofNat_of_lt (by omega), h]
theorem own_t18 {t : Int32} {N T : Nat} (h : t.toInt = T) (hT : T < 100) : own_c2 (own_c2 ((48 : Int32) + t / (10 : Int32))) = own_dgN (N * 100 + T) 18 := by
  rw [own_tof h hT, own_t18F ⟨T, hT⟩]
  unfold own_dgN
  have : (N * 100 + T) / 10 ^ (19 - 18) % 10 = T / 10 := by show (N * 100 + T) / 10 % 10 = _; omega
  rw [this]
theorem own_t19 {t : Int32} {N T : Nat} (h : t.toInt = T) (hT : T < 100) : own_c2 (own_c2 ((48 : Int32) + t % (10 : Int32))) = own_dgN (N * 100 + T) 19 := by
  rw [own_tof h hT, own_t19F ⟨T, hT⟩]
  unfold own_dgN
  have : (N * 100 + T) / 10 ^ (19 - 19) % 10 = T % 10 := by show (N * 100 + T) / 1 % 10 = _; omega
  rw [this]
theorem own_lat1 {c : Int32} {M i : Nat} (h : c = own_dgN M i) : ¬ c < 0 ∧ ¬ (255 : Int32) < c := h ▸ own_dg_range M i
/-- Math.min(e, 18), Math.max(0, e18 - s), Math.max(s, 18), Math.max(0, e - ts) -/
theorem own_e18 {e x : Int32} {E : Nat} (he : e.toInt = E) (h : own_min e (18 : Int32) = x) : x.toInt = (min E 18 : Nat) := by
  rw [← h, own_min_i, he]; have : (18 : Int32).toInt = 18 := rfl; omega
theorem own_nl {s x y : Int32} {S X : Nat} (hs : s.toInt = S) (hS : S ≤ 20) (hx : x.toInt = X) (hX : X ≤ 20) (h : own_max (0 : Int32) (x - s) = y) : y.toInt = (X - S : Nat) := by
  rw [← h, own_max_i, own_sub_i hx hs (by omega) (by omega)]; have : (0 : Int32).toInt = 0 := rfl; omega
theorem own_ts {s x : Int32} {S : Nat} (hs : s.toInt = S) (h : own_max s (18 : Int32) = x) : x.toInt = (max S 18 : Nat) := by
  rw [← h, own_max_i, hs]; have : (18 : Int32).toInt = 18 := rfl; omega
theorem own_18B {x : Int32} {X : Nat} (hx : x.toInt = X) (hX : X ≤ 18) : own_B ((18 : Int32) - x) (18 - X) := by
  refine ⟨?_, by omega⟩
  rw [own_sub_i (A := 18) rfl hx (by omega) (by omega)]; omega
theorem own_20B {x : Int32} {X : Nat} (hx : x.toInt = X) (h1 : 2 ≤ X) (hX : X ≤ 20) : own_B ((20 : Int32) - x) (20 - X) := by
  refine ⟨?_, by omega⟩
  rw [own_sub_i (A := 20) rfl hx (by omega) (by omega)]; omega
theorem own_nlz {x : Int32} {X : Nat} (hx : x.toInt = X) : x = 0 ↔ X = 0 := by
  have e : (0 : Int32).toInt = 0 := rfl
  constructor
  · rintro rfl; omega
  · rintro rfl; exact Int32.toInt_inj.mp (by rw [hx, e]; rfl)
/-- what the law expects: both parts as plain numbers -/
theorem own_part {A B C : Nat} {k l : Int32} (hA : A < 1000000000000000000) (hk : own_B k B) (hl : own_B l C) : own_lrem (Int64.ofNat A / own_p10 k) (own_p10 l) = Int64.ofNat (A / 10 ^ B % 10 ^ C) := by
  have hd : A / 10 ^ B ≤ A := Nat.div_le_self _ _
  rw [own_p10_eq hk, own_p10_eq hl, own_divN (by omega) (own_pow_lt hk.2), own_remN (by omega) (own_pow_lt hl.2)]
theorem own_total {A B C : Nat} {l : Int32} (hl : own_B l C) : (Int64.ofNat A * own_p10 l) + Int64.ofNat B = Int64.ofNat (A * 10 ^ C + B) := by
  rw [own_p10_eq hl, Int64.ofNat_add, Int64.ofNat_mul]
theorem own_final {N T S E : Nat} (hT : T < 100) (h1 : S ≤ E) (h2 : E ≤ 20) : own_w (N * 100 + T) S E = (if min E 18 - S = 0 then 0 else N / 10 ^ (18 - min E 18) % 10 ^ (min E 18 - S)) * 10 ^ (E - max S 18) + (if E - max S 18 = 0 then 0 else T / 10 ^ (20 - E) % 10 ^ (E - max S 18)) := by
  by_cases c1 : E ≤ 18
  · rw [own_w_case1 hT h1 c1]
    have e1 : min E 18 = E := by omega
    have e2 : E - max S 18 = 0 := by omega
    rw [e1, e2]
    by_cases c2 : E - S = 0
    · simp [c2, Nat.mod_one]
    · simp [c2]
  · have e1 : min E 18 = 18 := by omega
    by_cases c2 : S ≤ 18
    · rw [own_w_case2 hT c2 (by omega) h2]
      have e2 : max S 18 = 18 := by omega
      have e3 : ¬ E - 18 = 0 := by omega
      rw [e1, e2]
      by_cases c3 : 18 - S = 0
      · simp [c3, e3, Nat.mod_one]
      · simp [c3, e3]
    · rw [own_w_case3 hT (by omega) h1 h2]
      have e2 : max S 18 = S := by omega
      have e3 : 18 - S = 0 := by omega
      rw [e1, e2, e3]
      by_cases c3 : E - S = 0
      · simp [c3, Nat.mod_one]
      · simp [c3]
theorem own_t64 {t : Int32} {T : Nat} (h : t.toInt = T) (hT : T < 100) : t.toInt64 = Int64.ofNat T := by
  apply Int64.toInt_inj.mp
  rw [Int32.toInt_toInt64, own_ofN (by omega), h]
def own_vv (M s e : Nat) : Int64 := if 18 < e - s then 9223372036854775807 else Int64.ofNat (own_w M s e)
theorem own_vv_big {M s e : Nat} (h : 18 < e - s) : own_vv M s e = (9223372036854775807 : Int64) := if_pos h
theorem own_fin {N T S E : Nat} {np tp : Int64} {tl : Int32} (hT : T < 100) (h1 : S ≤ E) (h2 : E ≤ 20) (hgt : ¬ 18 < E - S) (hnp : np = Int64.ofNat (if min E 18 - S = 0 then 0 else N / 10 ^ (18 - min E 18) % 10 ^ (min E 18 - S)))
    (htp : tp = Int64.ofNat (if E - max S 18 = 0 then 0 else T / 10 ^ (20 - E) % 10 ^ (E - max S 18))) (hl : own_B tl (E - max S 18)) : own_vv (N * 100 + T) S E = (np * own_p10 tl) + tp := by
  unfold own_vv
  rw [if_neg hgt, hnp, htp, own_total hl, ← own_final hT h1 h2]
theorem own_up {x : Int32} (h : ¬ x < 0 ∧ ¬ (255 : Int32) < x) : ¬ x < 0 ∧ ¬ (65535 : Int32) < x := by
  refine ⟨h.1, fun q => h.2 ?_⟩
  rw [Int32.lt_iff_toInt_lt] at q ⊢
  have e1 : (255 : Int32).toInt = 255 := rfl
  have e2 : (65535 : Int32).toInt = 65535 := rfl
  omega
theorem own_ofi {x : Int32} {i : Nat} (h : x.toInt = i) : x = Int32.ofNat i := by
  apply Int32.toInt_inj.mp
  have := x.toInt_lt
  rw [Int32.toInt_ofNat_of_lt (by omega), h]
theorem own_inc {x : Int32} {i : Nat} (h : x.toInt = i) (hi : i < 20) : (x + (1 : Int32)).toInt = ((i + 1 : Nat) : Int) := by
  have e : (1 : Int32).toInt = 1 := rfl
  rw [Jvm.Kit.i32_add (by omega) (by omega), h, e]; rfl
theorem own_lti {x y : Int32} {i e : Nat} (h : x.toInt = i) (g : y.toInt = e) : x < y ↔ i < e := by
  rw [Int32.lt_iff_toInt_lt, h, g]; omega
theorem own_pk_at (k : Int32) : ([(.long (1 : Int64)), (.long (10 : Int64)), (.long (100 : Int64)), (.long (1000 : Int64)), (.long (10000 : Int64)), (.long (100000 : Int64)), (.long (1000000 : Int64)), (.long (10000000 : Int64)), (.long (100000000 : Int64)), (.long (1000000000 : Int64)), (.long (10000000000 : Int64)), (.long (100000000000 : Int64)), (.long (1000000000000 : Int64)), (.long (10000000000000 : Int64)), (.long (100000000000000 : Int64)), (.long (1000000000000000 : Int64)), (.long (10000000000000000 : Int64)), (.long (100000000000000000 : Int64)), (.long (1000000000000000000 : Int64))] : List Value).getD k.toNatClampNeg (.long (0 : Int64)) = .long (own_p10 k) := by
  have h : ∀ (l : List Int64) (i : Nat), (l.map Value.long).getD i (.long 0) = .long (l.getD i 0) := fun l i => by
    simp only [List.getD_eq_getElem?_getD, List.getElem?_map]
    cases l[i]? <;> rfl
  exact h own_pl _
theorem own_pn0 : plainName "com/example/version_parser/versionparser/DecimalDigitsValuePinLaw" = true := by first | (simp [plainName, overriddenIn]; done) | decide +kernel
theorem own_d2_0 : decode method_2_code 0 = .ok (.bipush 19, 2) := by decide +kernel
theorem own_d2_2 : decode method_2_code 2 = .ok (.newarray .long, 2) := by decide +kernel
theorem own_d2_4 : decode method_2_code 4 = .ok (.dup, 1) := by decide +kernel
theorem own_d2_5 : decode method_2_code 5 = .ok (.iconst 0, 1) := by decide +kernel
theorem own_d2_6 : decode method_2_code 6 = .ok (.lconst 1, 1) := by decide +kernel
theorem own_d2_7 : decode method_2_code 7 = .ok (.lastore, 1) := by decide +kernel
theorem own_d2_8 : decode method_2_code 8 = .ok (.dup, 1) := by decide +kernel
theorem own_d2_9 : decode method_2_code 9 = .ok (.iconst 1, 1) := by decide +kernel
theorem own_d2_10 : decode method_2_code 10 = .ok (.ldc2_w 7, 3) := by decide +kernel
theorem own_d2_13 : decode method_2_code 13 = .ok (.lastore, 1) := by decide +kernel
theorem own_d2_14 : decode method_2_code 14 = .ok (.dup, 1) := by decide +kernel
theorem own_d2_15 : decode method_2_code 15 = .ok (.iconst 2, 1) := by decide +kernel
theorem own_d2_16 : decode method_2_code 16 = .ok (.ldc2_w 9, 3) := by decide +kernel
theorem own_d2_19 : decode method_2_code 19 = .ok (.lastore, 1) := by decide +kernel
theorem own_d2_20 : decode method_2_code 20 = .ok (.dup, 1) := by decide +kernel
theorem own_d2_21 : decode method_2_code 21 = .ok (.iconst 3, 1) := by decide +kernel
theorem own_d2_22 : decode method_2_code 22 = .ok (.ldc2_w 11, 3) := by decide +kernel
theorem own_d2_25 : decode method_2_code 25 = .ok (.lastore, 1) := by decide +kernel
theorem own_d2_26 : decode method_2_code 26 = .ok (.dup, 1) := by decide +kernel
theorem own_d2_27 : decode method_2_code 27 = .ok (.iconst 4, 1) := by decide +kernel
theorem own_d2_28 : decode method_2_code 28 = .ok (.ldc2_w 13, 3) := by decide +kernel
theorem own_d2_31 : decode method_2_code 31 = .ok (.lastore, 1) := by decide +kernel
theorem own_d2_32 : decode method_2_code 32 = .ok (.dup, 1) := by decide +kernel
theorem own_d2_33 : decode method_2_code 33 = .ok (.iconst 5, 1) := by decide +kernel
theorem own_d2_34 : decode method_2_code 34 = .ok (.ldc2_w 15, 3) := by decide +kernel
theorem own_d2_37 : decode method_2_code 37 = .ok (.lastore, 1) := by decide +kernel
theorem own_d2_38 : decode method_2_code 38 = .ok (.dup, 1) := by decide +kernel
theorem own_d2_39 : decode method_2_code 39 = .ok (.bipush 6, 2) := by decide +kernel
theorem own_d2_41 : decode method_2_code 41 = .ok (.ldc2_w 17, 3) := by decide +kernel
theorem own_d2_44 : decode method_2_code 44 = .ok (.lastore, 1) := by decide +kernel
theorem own_d2_45 : decode method_2_code 45 = .ok (.dup, 1) := by decide +kernel
theorem own_d2_46 : decode method_2_code 46 = .ok (.bipush 7, 2) := by decide +kernel
theorem own_d2_48 : decode method_2_code 48 = .ok (.ldc2_w 19, 3) := by decide +kernel
theorem own_d2_51 : decode method_2_code 51 = .ok (.lastore, 1) := by decide +kernel
theorem own_d2_52 : decode method_2_code 52 = .ok (.dup, 1) := by decide +kernel
theorem own_d2_53 : decode method_2_code 53 = .ok (.bipush 8, 2) := by decide +kernel
theorem own_d2_55 : decode method_2_code 55 = .ok (.ldc2_w 21, 3) := by decide +kernel
theorem own_d2_58 : decode method_2_code 58 = .ok (.lastore, 1) := by decide +kernel
theorem own_d2_59 : decode method_2_code 59 = .ok (.dup, 1) := by decide +kernel
theorem own_d2_60 : decode method_2_code 60 = .ok (.bipush 9, 2) := by decide +kernel
theorem own_d2_62 : decode method_2_code 62 = .ok (.ldc2_w 23, 3) := by decide +kernel
theorem own_d2_65 : decode method_2_code 65 = .ok (.lastore, 1) := by decide +kernel
theorem own_d2_66 : decode method_2_code 66 = .ok (.dup, 1) := by decide +kernel
theorem own_d2_67 : decode method_2_code 67 = .ok (.bipush 10, 2) := by decide +kernel
theorem own_d2_69 : decode method_2_code 69 = .ok (.ldc2_w 25, 3) := by decide +kernel
theorem own_d2_72 : decode method_2_code 72 = .ok (.lastore, 1) := by decide +kernel
theorem own_d2_73 : decode method_2_code 73 = .ok (.dup, 1) := by decide +kernel
theorem own_d2_74 : decode method_2_code 74 = .ok (.bipush 11, 2) := by decide +kernel
theorem own_d2_76 : decode method_2_code 76 = .ok (.ldc2_w 27, 3) := by decide +kernel
theorem own_d2_79 : decode method_2_code 79 = .ok (.lastore, 1) := by decide +kernel
theorem own_d2_80 : decode method_2_code 80 = .ok (.dup, 1) := by decide +kernel
theorem own_d2_81 : decode method_2_code 81 = .ok (.bipush 12, 2) := by decide +kernel
theorem own_d2_83 : decode method_2_code 83 = .ok (.ldc2_w 29, 3) := by decide +kernel
theorem own_d2_86 : decode method_2_code 86 = .ok (.lastore, 1) := by decide +kernel
theorem own_d2_87 : decode method_2_code 87 = .ok (.dup, 1) := by decide +kernel
theorem own_d2_88 : decode method_2_code 88 = .ok (.bipush 13, 2) := by decide +kernel
theorem own_d2_90 : decode method_2_code 90 = .ok (.ldc2_w 31, 3) := by decide +kernel
theorem own_d2_93 : decode method_2_code 93 = .ok (.lastore, 1) := by decide +kernel
theorem own_d2_94 : decode method_2_code 94 = .ok (.dup, 1) := by decide +kernel
theorem own_d2_95 : decode method_2_code 95 = .ok (.bipush 14, 2) := by decide +kernel
theorem own_d2_97 : decode method_2_code 97 = .ok (.ldc2_w 33, 3) := by decide +kernel
theorem own_d2_100 : decode method_2_code 100 = .ok (.lastore, 1) := by decide +kernel
theorem own_d2_101 : decode method_2_code 101 = .ok (.dup, 1) := by decide +kernel
theorem own_d2_102 : decode method_2_code 102 = .ok (.bipush 15, 2) := by decide +kernel
theorem own_d2_104 : decode method_2_code 104 = .ok (.ldc2_w 35, 3) := by decide +kernel
theorem own_d2_107 : decode method_2_code 107 = .ok (.lastore, 1) := by decide +kernel
theorem own_d2_108 : decode method_2_code 108 = .ok (.dup, 1) := by decide +kernel
theorem own_d2_109 : decode method_2_code 109 = .ok (.bipush 16, 2) := by decide +kernel
theorem own_d2_111 : decode method_2_code 111 = .ok (.ldc2_w 37, 3) := by decide +kernel
theorem own_d2_114 : decode method_2_code 114 = .ok (.lastore, 1) := by decide +kernel
theorem own_d2_115 : decode method_2_code 115 = .ok (.dup, 1) := by decide +kernel
theorem own_d2_116 : decode method_2_code 116 = .ok (.bipush 17, 2) := by decide +kernel
theorem own_d2_118 : decode method_2_code 118 = .ok (.ldc2_w 39, 3) := by decide +kernel
theorem own_d2_121 : decode method_2_code 121 = .ok (.lastore, 1) := by decide +kernel
theorem own_d2_122 : decode method_2_code 122 = .ok (.dup, 1) := by decide +kernel
theorem own_d2_123 : decode method_2_code 123 = .ok (.bipush 18, 2) := by decide +kernel
theorem own_d2_125 : decode method_2_code 125 = .ok (.ldc2_w 41, 3) := by decide +kernel
theorem own_d2_128 : decode method_2_code 128 = .ok (.lastore, 1) := by decide +kernel
theorem own_d2_129 : decode method_2_code 129 = .ok (.astore_n 1, 1) := by decide +kernel
theorem own_d2_130 : decode method_2_code 130 = .ok (.aload_n 1, 1) := by decide +kernel
theorem own_d2_131 : decode method_2_code 131 = .ok (.iload_n 0, 1) := by decide +kernel
theorem own_d2_132 : decode method_2_code 132 = .ok (.laload, 1) := by decide +kernel
theorem own_d2_133 : decode method_2_code 133 = .ok (.lreturn, 1) := by decide +kernel
def own_Q_p10 (Z : State) (p1 : Int32) (j : Nat) (h0 : Heap) (n0 : Nat) (v : Option Value) (h : Heap) (L : List Loc) : Prop := v = some (.long (own_p10 p1)) ∧ Fr n0 L ∧ Keep h0 h []
set_option maxRecDepth 65536 in
set_option maxHeartbeats 40000000 in
theorem own_m_p10 (l : Launch) (Z : State) (a0 : Array Value) (hw : ∀ d ∈ tables_1, d.before a0 Z = true) (ws : List Jvm.Cond) (p1 : Int32) (j : Nat) (h0 : Heap) (n0 : Nat) (Z0 : n0 ≤ h0.size) (hk : own_B p1 j) :
    MetFree l (⟨"com/example/version_parser/versionparser/DecimalDigitsValuePinLaw", "pow10", "(I)J"⟩ : MethodName) (head1 (Jvm.Cond.code (⟨"com/example/version_parser/versionparser/DecimalDigitsValuePinLaw", "pow10", "(I)J"⟩ : MethodName) method_2_code 2 (some .long) :: ws) ({ frames := 0, cells := 1, slots := 19, locals := 0 } : Room)) (fun a U => a = #[(.int p1)] ∧ Z.Warmed39 U.vm ∧ U.heap = h0) (fun _ _ _ _ _ => True) (fun _ U o U' => ∃ v L, o = .returned v ∧ own_Q_p10 Z p1 j h0 n0 v U'.heap L ∧ FrameEnd U o U' L ({ frames := 0, cells := 1, slots := 19, locals := 0 } : Room).cells ({ frames := 0, cells := 1, slots := 19, locals := 0 } : Room).slots) := by
  refine MetFree.of_bodySF (plainFor_of_name own_pn0) hisR ?_
  intro p e s m args below meth c s₁ Bd hml0 hP hK
  obtain ⟨rfl, hZ, hh⟩ := hP
  have hx := Bd.exec
  have hby := Bd.bytes
  have hml : c.maxLocals = 2 := hml0
  have hown : s.vm.findClass "com/example/version_parser/versionparser/DecimalDigitsValuePinLaw" = some m.cls := findClass_of_methodNamed Bd.named
  have hnm := (name_of_methodNamed Bd.named Bd.method).1
  have X0 : Stand p l e ({ frames := 0, cells := 1, slots := 19, locals := 0 } : Room) s m #[(.int p1)] below meth c s₁ [] 0 0 := Stand.of_body Bd
  have e0 : s₁.heap = h0 := by rw [← hh, Bd.state]; rfl
  have N0 := Fr.nil n0
  have K0 : Keep h0 h0 [] := Keep.refl _ _
  show own_Go p e below s ({ frames := 0, cells := 1, slots := 19, locals := 0 } : Room).cells ({ frames := 0, cells := 1, slots := 19, locals := 0 } : Room).slots (own_Q_p10 Z p1 j h0 n0) (s₁.setTop (entryFrame m #[(.int p1)] 2))
  have ef : entryFrame m #[(.int p1)] 2 = (mkF m 0 #[.val (.int p1), .unset] []) := by first | (simp [entryFrame, mkF, argsToLocals, Value.category, maxLocals]; done) | rfl
  rw [ef]
  show own_Go p e below s _ _ _ (s₁.setTop (mkF m 0 #[.val (.int p1), .unset] []))
  refine own_step (U' := (s₁.setTop (mkF m 2 #[.val (.int p1), .unset] [(.int (19 : Int32))]))) (fun t ht => XS.bipush X0.here hx rfl (hb hby own_d2_0) ht) ?_
  obtain ⟨T1, h1, k1, X1, e1, E1, A1, st1⟩ := newP X0 hx hZ (hw _ (List.mem_of_getElem? (i := 11) rfl)) e0 (g := (mkF m 2 #[.val (.int p1), .unset] [(.int (19 : Int32))])) rfl (hb hby own_d2_2) rfl (by decide) (cap := 19) (by decide) (by decide) (by decide) (by decide)
  obtain ⟨b1, g1⟩ : ∃ z, z = (h0).size := ⟨_, rfl⟩
  rw [← g1] at A1 st1
  have g_b1 : n0 ≤ b1 := Nat.le_trans (Nat.le_trans Z0 K0.1) (Nat.le_of_eq g1.symm)
  have sz_b1 : h0.size ≤ b1 := Nat.le_trans K0.1 (Nat.le_of_eq g1.symm)
  have K1 : Keep h0 h1 [] := K0.ext E1
  have V1 : Arv Z h1 b1 k1 .long (19 : Int32) [(.long (0 : Int64)), (.long (0 : Int64)), (.long (0 : Int64)), (.long (0 : Int64)), (.long (0 : Int64)), (.long (0 : Int64)), (.long (0 : Int64)), (.long (0 : Int64)), (.long (0 : Int64)), (.long (0 : Int64)), (.long (0 : Int64)), (.long (0 : Int64)), (.long (0 : Int64)), (.long (0 : Int64)), (.long (0 : Int64)), (.long (0 : Int64)), (.long (0 : Int64)), (.long (0 : Int64)), (.long (0 : Int64))] (.long (0 : Int64)) := (Arv.new A1 (by decide)).pad (pad_rep [] (.long (0 : Int64)) 19)
  refine own_step (U' := (T1.setTop (mkF m 4 #[.val (.int p1), .unset] [(.ref b1)]))) (fun t ht => st1 _ ht) ?_
  refine own_step (U' := (T1.setTop (mkF m 5 #[.val (.int p1), .unset] [(.ref b1), (.ref b1)]))) (fun t ht => XS.dup X1.here hx rfl (hb hby own_d2_4) rfl rfl ht) ?_
  refine own_step (U' := (T1.setTop (mkF m 6 #[.val (.int p1), .unset] [(.int (0 : Int32)), (.ref b1), (.ref b1)]))) (fun t ht => XS.iconst X1.here hx rfl (hb hby own_d2_5) ht) ?_
  refine own_step (U' := (T1.setTop (mkF m 7 #[.val (.int p1), .unset] [(.long (1 : Int64)), (.int (0 : Int32)), (.ref b1), (.ref b1)]))) (fun t ht => XT.lconstV X1.here hx rfl (1 : Int64) (hb hby own_d2_6) rfl ht) ?_
  obtain ⟨cl2, Ar2, q2, S2, N2_, H2, G2⟩ := (id V1)
  have hin2 : ¬ ((0 : Int32) < 0 ∨ cl2.slots.size ≤ ((0 : Int32)).toNatClampNeg) := inb_of S2 ⟨by decide, by decide⟩
  obtain ⟨T2, h2, X2, e2, W2, st2⟩ := stJ X1 hx hZ e1 Ar2 (j := (0 : Int32)) hin2 (g := (mkF m 7 #[.val (.int p1), .unset] [(.long (1 : Int64)), (.int (0 : Int32)), (.ref b1), (.ref b1)])) rfl rfl (hb hby own_d2_7)
  have V2 : Arv Z h2 b1 k1 .long (19 : Int32) [(.long (1 : Int64)), (.long (0 : Int64)), (.long (0 : Int64)), (.long (0 : Int64)), (.long (0 : Int64)), (.long (0 : Int64)), (.long (0 : Int64)), (.long (0 : Int64)), (.long (0 : Int64)), (.long (0 : Int64)), (.long (0 : Int64)), (.long (0 : Int64)), (.long (0 : Int64)), (.long (0 : Int64)), (.long (0 : Int64)), (.long (0 : Int64)), (.long (0 : Int64)), (.long (0 : Int64)), (.long (0 : Int64))] (.long (0 : Int64)) := Arv.set Ar2 q2 S2 N2_ H2 G2 rfl W2 0 rfl (Nat.le_of_ble_eq_true rfl)
  have N2 := Fr.snoc X2 N0 g_b1
  have K2 : Keep h0 h2 [] := K1.wr W2 (Or.inr sz_b1)
  refine own_step (U' := (T2.setTop (mkF m 8 #[.val (.int p1), .unset] [(.ref b1)]))) (fun t ht => st2 _ ht) ?_
  clear st1 E1 A1 st2 W2 hin2 G2 H2 N2_ S2 q2 Ar2 cl2 V1 X1 e1 K1 T1 h1
  refine own_step (U' := (T2.setTop (mkF m 9 #[.val (.int p1), .unset] [(.ref b1), (.ref b1)]))) (fun t ht => XS.dup X2.here hx rfl (hb hby own_d2_8) rfl rfl ht) ?_
  refine own_step (U' := (T2.setTop (mkF m 10 #[.val (.int p1), .unset] [(.int (1 : Int32)), (.ref b1), (.ref b1)]))) (fun t ht => XS.iconst X2.here hx rfl (hb hby own_d2_9) ht) ?_
  refine own_step (U' := (T2.setTop (mkF m 13 #[.val (.int p1), .unset] [(.long (10 : Int64)), (.int (1 : Int32)), (.ref b1), (.ref b1)]))) (fun t ht => X2.ldc2Long hx hown (mvT hZ (hw _ (List.mem_of_getElem? (i := 12) rfl))) (g := (mkF m 10 #[.val (.int p1), .unset] [(.int (1 : Int32)), (.ref b1), (.ref b1)])) rfl (hb hby own_d2_10) _ ht) ?_
  obtain ⟨cl3, Ar3, q3, S3, N3_, H3, G3⟩ := (id V2)
  have hin3 : ¬ ((1 : Int32) < 0 ∨ cl3.slots.size ≤ ((1 : Int32)).toNatClampNeg) := inb_of S3 ⟨by decide, by decide⟩
  obtain ⟨T3, h3, X3, e3, W3, st3⟩ := stJ X2 hx hZ e2 Ar3 (j := (1 : Int32)) hin3 (g := (mkF m 13 #[.val (.int p1), .unset] [(.long (10 : Int64)), (.int (1 : Int32)), (.ref b1), (.ref b1)])) rfl rfl (hb hby own_d2_13)
  have V3 : Arv Z h3 b1 k1 .long (19 : Int32) [(.long (1 : Int64)), (.long (10 : Int64)), (.long (0 : Int64)), (.long (0 : Int64)), (.long (0 : Int64)), (.long (0 : Int64)), (.long (0 : Int64)), (.long (0 : Int64)), (.long (0 : Int64)), (.long (0 : Int64)), (.long (0 : Int64)), (.long (0 : Int64)), (.long (0 : Int64)), (.long (0 : Int64)), (.long (0 : Int64)), (.long (0 : Int64)), (.long (0 : Int64)), (.long (0 : Int64)), (.long (0 : Int64))] (.long (0 : Int64)) := Arv.set Ar3 q3 S3 N3_ H3 G3 rfl W3 1 rfl (Nat.le_of_ble_eq_true rfl)
  have N3 := Fr.snoc X3 N2 g_b1
  have K3 : Keep h0 h3 [] := K2.wr W3 (Or.inr sz_b1)
  refine own_step (U' := (T3.setTop (mkF m 14 #[.val (.int p1), .unset] [(.ref b1)]))) (fun t ht => st3 _ ht) ?_
  clear st3 W3 hin3 G3 H3 N3_ S3 q3 Ar3 cl3 V2 X2 e2 N2 K2 T2 h2
  refine own_step (U' := (T3.setTop (mkF m 15 #[.val (.int p1), .unset] [(.ref b1), (.ref b1)]))) (fun t ht => XS.dup X3.here hx rfl (hb hby own_d2_14) rfl rfl ht) ?_
  refine own_step (U' := (T3.setTop (mkF m 16 #[.val (.int p1), .unset] [(.int (2 : Int32)), (.ref b1), (.ref b1)]))) (fun t ht => XS.iconst X3.here hx rfl (hb hby own_d2_15) ht) ?_
  refine own_step (U' := (T3.setTop (mkF m 19 #[.val (.int p1), .unset] [(.long (100 : Int64)), (.int (2 : Int32)), (.ref b1), (.ref b1)]))) (fun t ht => X3.ldc2Long hx hown (mvT hZ (hw _ (List.mem_of_getElem? (i := 13) rfl))) (g := (mkF m 16 #[.val (.int p1), .unset] [(.int (2 : Int32)), (.ref b1), (.ref b1)])) rfl (hb hby own_d2_16) _ ht) ?_
  obtain ⟨cl4, Ar4, q4, S4, N4_, H4, G4⟩ := (id V3)
  have hin4 : ¬ ((2 : Int32) < 0 ∨ cl4.slots.size ≤ ((2 : Int32)).toNatClampNeg) := inb_of S4 ⟨by decide, by decide⟩
  obtain ⟨T4, h4, X4, e4, W4, st4⟩ := stJ X3 hx hZ e3 Ar4 (j := (2 : Int32)) hin4 (g := (mkF m 19 #[.val (.int p1), .unset] [(.long (100 : Int64)), (.int (2 : Int32)), (.ref b1), (.ref b1)])) rfl rfl (hb hby own_d2_19)
  have V4 : Arv Z h4 b1 k1 .long (19 : Int32) [(.long (1 : Int64)), (.long (10 : Int64)), (.long (100 : Int64)), (.long (0 : Int64)), (.long (0 : Int64)), (.long (0 : Int64)), (.long (0 : Int64)), (.long (0 : Int64)), (.long (0 : Int64)), (.long (0 : Int64)), (.long (0 : Int64)), (.long (0 : Int64)), (.long (0 : Int64)), (.long (0 : Int64)), (.long (0 : Int64)), (.long (0 : Int64)), (.long (0 : Int64)), (.long (0 : Int64)), (.long (0 : Int64))] (.long (0 : Int64)) := Arv.set Ar4 q4 S4 N4_ H4 G4 rfl W4 2 rfl (Nat.le_of_ble_eq_true rfl)
  have N4 := Fr.snoc X4 N3 g_b1
  have K4 : Keep h0 h4 [] := K3.wr W4 (Or.inr sz_b1)
  refine own_step (U' := (T4.setTop (mkF m 20 #[.val (.int p1), .unset] [(.ref b1)]))) (fun t ht => st4 _ ht) ?_
  clear st4 W4 hin4 G4 H4 N4_ S4 q4 Ar4 cl4 V3 X3 e3 N3 K3 T3 h3
  refine own_step (U' := (T4.setTop (mkF m 21 #[.val (.int p1), .unset] [(.ref b1), (.ref b1)]))) (fun t ht => XS.dup X4.here hx rfl (hb hby own_d2_20) rfl rfl ht) ?_
  refine own_step (U' := (T4.setTop (mkF m 22 #[.val (.int p1), .unset] [(.int (3 : Int32)), (.ref b1), (.ref b1)]))) (fun t ht => XS.iconst X4.here hx rfl (hb hby own_d2_21) ht) ?_
  refine own_step (U' := (T4.setTop (mkF m 25 #[.val (.int p1), .unset] [(.long (1000 : Int64)), (.int (3 : Int32)), (.ref b1), (.ref b1)]))) (fun t ht => X4.ldc2Long hx hown (mvT hZ (hw _ (List.mem_of_getElem? (i := 14) rfl))) (g := (mkF m 22 #[.val (.int p1), .unset] [(.int (3 : Int32)), (.ref b1), (.ref b1)])) rfl (hb hby own_d2_22) _ ht) ?_
  obtain ⟨cl5, Ar5, q5, S5, N5_, H5, G5⟩ := (id V4)
  have hin5 : ¬ ((3 : Int32) < 0 ∨ cl5.slots.size ≤ ((3 : Int32)).toNatClampNeg) := inb_of S5 ⟨by decide, by decide⟩
  obtain ⟨T5, h5, X5, e5, W5, st5⟩ := stJ X4 hx hZ e4 Ar5 (j := (3 : Int32)) hin5 (g := (mkF m 25 #[.val (.int p1), .unset] [(.long (1000 : Int64)), (.int (3 : Int32)), (.ref b1), (.ref b1)])) rfl rfl (hb hby own_d2_25)
  have V5 : Arv Z h5 b1 k1 .long (19 : Int32) [(.long (1 : Int64)), (.long (10 : Int64)), (.long (100 : Int64)), (.long (1000 : Int64)), (.long (0 : Int64)), (.long (0 : Int64)), (.long (0 : Int64)), (.long (0 : Int64)), (.long (0 : Int64)), (.long (0 : Int64)), (.long (0 : Int64)), (.long (0 : Int64)), (.long (0 : Int64)), (.long (0 : Int64)), (.long (0 : Int64)), (.long (0 : Int64)), (.long (0 : Int64)), (.long (0 : Int64)), (.long (0 : Int64))] (.long (0 : Int64)) := Arv.set Ar5 q5 S5 N5_ H5 G5 rfl W5 3 rfl (Nat.le_of_ble_eq_true rfl)
  have N5 := Fr.snoc X5 N4 g_b1
  have K5 : Keep h0 h5 [] := K4.wr W5 (Or.inr sz_b1)
  refine own_step (U' := (T5.setTop (mkF m 26 #[.val (.int p1), .unset] [(.ref b1)]))) (fun t ht => st5 _ ht) ?_
  clear st5 W5 hin5 G5 H5 N5_ S5 q5 Ar5 cl5 V4 X4 e4 N4 K4 T4 h4
  refine own_step (U' := (T5.setTop (mkF m 27 #[.val (.int p1), .unset] [(.ref b1), (.ref b1)]))) (fun t ht => XS.dup X5.here hx rfl (hb hby own_d2_26) rfl rfl ht) ?_
  refine own_step (U' := (T5.setTop (mkF m 28 #[.val (.int p1), .unset] [(.int (4 : Int32)), (.ref b1), (.ref b1)]))) (fun t ht => XS.iconst X5.here hx rfl (hb hby own_d2_27) ht) ?_
  refine own_step (U' := (T5.setTop (mkF m 31 #[.val (.int p1), .unset] [(.long (10000 : Int64)), (.int (4 : Int32)), (.ref b1), (.ref b1)]))) (fun t ht => X5.ldc2Long hx hown (mvT hZ (hw _ (List.mem_of_getElem? (i := 15) rfl))) (g := (mkF m 28 #[.val (.int p1), .unset] [(.int (4 : Int32)), (.ref b1), (.ref b1)])) rfl (hb hby own_d2_28) _ ht) ?_
  obtain ⟨cl6, Ar6, q6, S6, N6_, H6, G6⟩ := (id V5)
  have hin6 : ¬ ((4 : Int32) < 0 ∨ cl6.slots.size ≤ ((4 : Int32)).toNatClampNeg) := inb_of S6 ⟨by decide, by decide⟩
  obtain ⟨T6, h6, X6, e6, W6, st6⟩ := stJ X5 hx hZ e5 Ar6 (j := (4 : Int32)) hin6 (g := (mkF m 31 #[.val (.int p1), .unset] [(.long (10000 : Int64)), (.int (4 : Int32)), (.ref b1), (.ref b1)])) rfl rfl (hb hby own_d2_31)
  have V6 : Arv Z h6 b1 k1 .long (19 : Int32) [(.long (1 : Int64)), (.long (10 : Int64)), (.long (100 : Int64)), (.long (1000 : Int64)), (.long (10000 : Int64)), (.long (0 : Int64)), (.long (0 : Int64)), (.long (0 : Int64)), (.long (0 : Int64)), (.long (0 : Int64)), (.long (0 : Int64)), (.long (0 : Int64)), (.long (0 : Int64)), (.long (0 : Int64)), (.long (0 : Int64)), (.long (0 : Int64)), (.long (0 : Int64)), (.long (0 : Int64)), (.long (0 : Int64))] (.long (0 : Int64)) := Arv.set Ar6 q6 S6 N6_ H6 G6 rfl W6 4 rfl (Nat.le_of_ble_eq_true rfl)
  have N6 := Fr.snoc X6 N5 g_b1
  have K6 : Keep h0 h6 [] := K5.wr W6 (Or.inr sz_b1)
  refine own_step (U' := (T6.setTop (mkF m 32 #[.val (.int p1), .unset] [(.ref b1)]))) (fun t ht => st6 _ ht) ?_
  clear st6 W6 hin6 G6 H6 N6_ S6 q6 Ar6 cl6 V5 X5 e5 N5 K5 T5 h5
  refine own_step (U' := (T6.setTop (mkF m 33 #[.val (.int p1), .unset] [(.ref b1), (.ref b1)]))) (fun t ht => XS.dup X6.here hx rfl (hb hby own_d2_32) rfl rfl ht) ?_
  refine own_step (U' := (T6.setTop (mkF m 34 #[.val (.int p1), .unset] [(.int (5 : Int32)), (.ref b1), (.ref b1)]))) (fun t ht => XS.iconst X6.here hx rfl (hb hby own_d2_33) ht) ?_
  refine own_step (U' := (T6.setTop (mkF m 37 #[.val (.int p1), .unset] [(.long (100000 : Int64)), (.int (5 : Int32)), (.ref b1), (.ref b1)]))) (fun t ht => X6.ldc2Long hx hown (mvT hZ (hw _ (List.mem_of_getElem? (i := 16) rfl))) (g := (mkF m 34 #[.val (.int p1), .unset] [(.int (5 : Int32)), (.ref b1), (.ref b1)])) rfl (hb hby own_d2_34) _ ht) ?_
  obtain ⟨cl7, Ar7, q7, S7, N7_, H7, G7⟩ := (id V6)
  have hin7 : ¬ ((5 : Int32) < 0 ∨ cl7.slots.size ≤ ((5 : Int32)).toNatClampNeg) := inb_of S7 ⟨by decide, by decide⟩
  obtain ⟨T7, h7, X7, e7, W7, st7⟩ := stJ X6 hx hZ e6 Ar7 (j := (5 : Int32)) hin7 (g := (mkF m 37 #[.val (.int p1), .unset] [(.long (100000 : Int64)), (.int (5 : Int32)), (.ref b1), (.ref b1)])) rfl rfl (hb hby own_d2_37)
  have V7 : Arv Z h7 b1 k1 .long (19 : Int32) [(.long (1 : Int64)), (.long (10 : Int64)), (.long (100 : Int64)), (.long (1000 : Int64)), (.long (10000 : Int64)), (.long (100000 : Int64)), (.long (0 : Int64)), (.long (0 : Int64)), (.long (0 : Int64)), (.long (0 : Int64)), (.long (0 : Int64)), (.long (0 : Int64)), (.long (0 : Int64)), (.long (0 : Int64)), (.long (0 : Int64)), (.long (0 : Int64)), (.long (0 : Int64)), (.long (0 : Int64)), (.long (0 : Int64))] (.long (0 : Int64)) := Arv.set Ar7 q7 S7 N7_ H7 G7 rfl W7 5 rfl (Nat.le_of_ble_eq_true rfl)
  have N7 := Fr.snoc X7 N6 g_b1
  have K7 : Keep h0 h7 [] := K6.wr W7 (Or.inr sz_b1)
  refine own_step (U' := (T7.setTop (mkF m 38 #[.val (.int p1), .unset] [(.ref b1)]))) (fun t ht => st7 _ ht) ?_
  clear st7 W7 hin7 G7 H7 N7_ S7 q7 Ar7 cl7 V6 X6 e6 N6 K6 T6 h6
  refine own_step (U' := (T7.setTop (mkF m 39 #[.val (.int p1), .unset] [(.ref b1), (.ref b1)]))) (fun t ht => XS.dup X7.here hx rfl (hb hby own_d2_38) rfl rfl ht) ?_
  refine own_step (U' := (T7.setTop (mkF m 41 #[.val (.int p1), .unset] [(.int (6 : Int32)), (.ref b1), (.ref b1)]))) (fun t ht => XS.bipush X7.here hx rfl (hb hby own_d2_39) ht) ?_
  refine own_step (U' := (T7.setTop (mkF m 44 #[.val (.int p1), .unset] [(.long (1000000 : Int64)), (.int (6 : Int32)), (.ref b1), (.ref b1)]))) (fun t ht => X7.ldc2Long hx hown (mvT hZ (hw _ (List.mem_of_getElem? (i := 17) rfl))) (g := (mkF m 41 #[.val (.int p1), .unset] [(.int (6 : Int32)), (.ref b1), (.ref b1)])) rfl (hb hby own_d2_41) _ ht) ?_
  obtain ⟨cl8, Ar8, q8, S8, N8_, H8, G8⟩ := (id V7)
  have hin8 : ¬ ((6 : Int32) < 0 ∨ cl8.slots.size ≤ ((6 : Int32)).toNatClampNeg) := inb_of S8 ⟨by decide, by decide⟩
  obtain ⟨T8, h8, X8, e8, W8, st8⟩ := stJ X7 hx hZ e7 Ar8 (j := (6 : Int32)) hin8 (g := (mkF m 44 #[.val (.int p1), .unset] [(.long (1000000 : Int64)), (.int (6 : Int32)), (.ref b1), (.ref b1)])) rfl rfl (hb hby own_d2_44)
  have V8 : Arv Z h8 b1 k1 .long (19 : Int32) [(.long (1 : Int64)), (.long (10 : Int64)), (.long (100 : Int64)), (.long (1000 : Int64)), (.long (10000 : Int64)), (.long (100000 : Int64)), (.long (1000000 : Int64)), (.long (0 : Int64)), (.long (0 : Int64)), (.long (0 : Int64)), (.long (0 : Int64)), (.long (0 : Int64)), (.long (0 : Int64)), (.long (0 : Int64)), (.long (0 : Int64)), (.long (0 : Int64)), (.long (0 : Int64)), (.long (0 : Int64)), (.long (0 : Int64))] (.long (0 : Int64)) := Arv.set Ar8 q8 S8 N8_ H8 G8 rfl W8 6 rfl (Nat.le_of_ble_eq_true rfl)
  have N8 := Fr.snoc X8 N7 g_b1
  have K8 : Keep h0 h8 [] := K7.wr W8 (Or.inr sz_b1)
  refine own_step (U' := (T8.setTop (mkF m 45 #[.val (.int p1), .unset] [(.ref b1)]))) (fun t ht => st8 _ ht) ?_
  clear st8 W8 hin8 G8 H8 N8_ S8 q8 Ar8 cl8 V7 X7 e7 N7 K7 T7 h7
  refine own_step (U' := (T8.setTop (mkF m 46 #[.val (.int p1), .unset] [(.ref b1), (.ref b1)]))) (fun t ht => XS.dup X8.here hx rfl (hb hby own_d2_45) rfl rfl ht) ?_
  refine own_step (U' := (T8.setTop (mkF m 48 #[.val (.int p1), .unset] [(.int (7 : Int32)), (.ref b1), (.ref b1)]))) (fun t ht => XS.bipush X8.here hx rfl (hb hby own_d2_46) ht) ?_
  refine own_step (U' := (T8.setTop (mkF m 51 #[.val (.int p1), .unset] [(.long (10000000 : Int64)), (.int (7 : Int32)), (.ref b1), (.ref b1)]))) (fun t ht => X8.ldc2Long hx hown (mvT hZ (hw _ (List.mem_of_getElem? (i := 18) rfl))) (g := (mkF m 48 #[.val (.int p1), .unset] [(.int (7 : Int32)), (.ref b1), (.ref b1)])) rfl (hb hby own_d2_48) _ ht) ?_
  obtain ⟨cl9, Ar9, q9, S9, N9_, H9, G9⟩ := (id V8)
  have hin9 : ¬ ((7 : Int32) < 0 ∨ cl9.slots.size ≤ ((7 : Int32)).toNatClampNeg) := inb_of S9 ⟨by decide, by decide⟩
  obtain ⟨T9, h9, X9, e9, W9, st9⟩ := stJ X8 hx hZ e8 Ar9 (j := (7 : Int32)) hin9 (g := (mkF m 51 #[.val (.int p1), .unset] [(.long (10000000 : Int64)), (.int (7 : Int32)), (.ref b1), (.ref b1)])) rfl rfl (hb hby own_d2_51)
  have V9 : Arv Z h9 b1 k1 .long (19 : Int32) [(.long (1 : Int64)), (.long (10 : Int64)), (.long (100 : Int64)), (.long (1000 : Int64)), (.long (10000 : Int64)), (.long (100000 : Int64)), (.long (1000000 : Int64)), (.long (10000000 : Int64)), (.long (0 : Int64)), (.long (0 : Int64)), (.long (0 : Int64)), (.long (0 : Int64)), (.long (0 : Int64)), (.long (0 : Int64)), (.long (0 : Int64)), (.long (0 : Int64)), (.long (0 : Int64)), (.long (0 : Int64)), (.long (0 : Int64))] (.long (0 : Int64)) := Arv.set Ar9 q9 S9 N9_ H9 G9 rfl W9 7 rfl (Nat.le_of_ble_eq_true rfl)
  have N9 := Fr.snoc X9 N8 g_b1
  have K9 : Keep h0 h9 [] := K8.wr W9 (Or.inr sz_b1)
  refine own_step (U' := (T9.setTop (mkF m 52 #[.val (.int p1), .unset] [(.ref b1)]))) (fun t ht => st9 _ ht) ?_
  clear st9 W9 hin9 G9 H9 N9_ S9 q9 Ar9 cl9 V8 X8 e8 N8 K8 T8 h8
  refine own_step (U' := (T9.setTop (mkF m 53 #[.val (.int p1), .unset] [(.ref b1), (.ref b1)]))) (fun t ht => XS.dup X9.here hx rfl (hb hby own_d2_52) rfl rfl ht) ?_
  refine own_step (U' := (T9.setTop (mkF m 55 #[.val (.int p1), .unset] [(.int (8 : Int32)), (.ref b1), (.ref b1)]))) (fun t ht => XS.bipush X9.here hx rfl (hb hby own_d2_53) ht) ?_
  refine own_step (U' := (T9.setTop (mkF m 58 #[.val (.int p1), .unset] [(.long (100000000 : Int64)), (.int (8 : Int32)), (.ref b1), (.ref b1)]))) (fun t ht => X9.ldc2Long hx hown (mvT hZ (hw _ (List.mem_of_getElem? (i := 19) rfl))) (g := (mkF m 55 #[.val (.int p1), .unset] [(.int (8 : Int32)), (.ref b1), (.ref b1)])) rfl (hb hby own_d2_55) _ ht) ?_
  obtain ⟨cl10, Ar10, q10, S10, N10_, H10, G10⟩ := (id V9)
  have hin10 : ¬ ((8 : Int32) < 0 ∨ cl10.slots.size ≤ ((8 : Int32)).toNatClampNeg) := inb_of S10 ⟨by decide, by decide⟩
  obtain ⟨T10, h10, X10, e10, W10, st10⟩ := stJ X9 hx hZ e9 Ar10 (j := (8 : Int32)) hin10 (g := (mkF m 58 #[.val (.int p1), .unset] [(.long (100000000 : Int64)), (.int (8 : Int32)), (.ref b1), (.ref b1)])) rfl rfl (hb hby own_d2_58)
  have V10 : Arv Z h10 b1 k1 .long (19 : Int32) [(.long (1 : Int64)), (.long (10 : Int64)), (.long (100 : Int64)), (.long (1000 : Int64)), (.long (10000 : Int64)), (.long (100000 : Int64)), (.long (1000000 : Int64)), (.long (10000000 : Int64)), (.long (100000000 : Int64)), (.long (0 : Int64)), (.long (0 : Int64)), (.long (0 : Int64)), (.long (0 : Int64)), (.long (0 : Int64)), (.long (0 : Int64)), (.long (0 : Int64)), (.long (0 : Int64)), (.long (0 : Int64)), (.long (0 : Int64))] (.long (0 : Int64)) := Arv.set Ar10 q10 S10 N10_ H10 G10 rfl W10 8 rfl (Nat.le_of_ble_eq_true rfl)
  have N10 := Fr.snoc X10 N9 g_b1
  have K10 : Keep h0 h10 [] := K9.wr W10 (Or.inr sz_b1)
  refine own_step (U' := (T10.setTop (mkF m 59 #[.val (.int p1), .unset] [(.ref b1)]))) (fun t ht => st10 _ ht) ?_
  clear st10 W10 hin10 G10 H10 N10_ S10 q10 Ar10 cl10 V9 X9 e9 N9 K9 T9 h9
  refine own_step (U' := (T10.setTop (mkF m 60 #[.val (.int p1), .unset] [(.ref b1), (.ref b1)]))) (fun t ht => XS.dup X10.here hx rfl (hb hby own_d2_59) rfl rfl ht) ?_
  refine own_step (U' := (T10.setTop (mkF m 62 #[.val (.int p1), .unset] [(.int (9 : Int32)), (.ref b1), (.ref b1)]))) (fun t ht => XS.bipush X10.here hx rfl (hb hby own_d2_60) ht) ?_
  refine own_step (U' := (T10.setTop (mkF m 65 #[.val (.int p1), .unset] [(.long (1000000000 : Int64)), (.int (9 : Int32)), (.ref b1), (.ref b1)]))) (fun t ht => X10.ldc2Long hx hown (mvT hZ (hw _ (List.mem_of_getElem? (i := 20) rfl))) (g := (mkF m 62 #[.val (.int p1), .unset] [(.int (9 : Int32)), (.ref b1), (.ref b1)])) rfl (hb hby own_d2_62) _ ht) ?_
  obtain ⟨cl11, Ar11, q11, S11, N11_, H11, G11⟩ := (id V10)
  have hin11 : ¬ ((9 : Int32) < 0 ∨ cl11.slots.size ≤ ((9 : Int32)).toNatClampNeg) := inb_of S11 ⟨by decide, by decide⟩
  obtain ⟨T11, h11, X11, e11, W11, st11⟩ := stJ X10 hx hZ e10 Ar11 (j := (9 : Int32)) hin11 (g := (mkF m 65 #[.val (.int p1), .unset] [(.long (1000000000 : Int64)), (.int (9 : Int32)), (.ref b1), (.ref b1)])) rfl rfl (hb hby own_d2_65)
  have V11 : Arv Z h11 b1 k1 .long (19 : Int32) [(.long (1 : Int64)), (.long (10 : Int64)), (.long (100 : Int64)), (.long (1000 : Int64)), (.long (10000 : Int64)), (.long (100000 : Int64)), (.long (1000000 : Int64)), (.long (10000000 : Int64)), (.long (100000000 : Int64)), (.long (1000000000 : Int64)), (.long (0 : Int64)), (.long (0 : Int64)), (.long (0 : Int64)), (.long (0 : Int64)), (.long (0 : Int64)), (.long (0 : Int64)), (.long (0 : Int64)), (.long (0 : Int64)), (.long (0 : Int64))] (.long (0 : Int64)) := Arv.set Ar11 q11 S11 N11_ H11 G11 rfl W11 9 rfl (Nat.le_of_ble_eq_true rfl)
  have N11 := Fr.snoc X11 N10 g_b1
  have K11 : Keep h0 h11 [] := K10.wr W11 (Or.inr sz_b1)
  refine own_step (U' := (T11.setTop (mkF m 66 #[.val (.int p1), .unset] [(.ref b1)]))) (fun t ht => st11 _ ht) ?_
  clear st11 W11 hin11 G11 H11 N11_ S11 q11 Ar11 cl11 V10 X10 e10 N10 K10 T10 h10
  refine own_step (U' := (T11.setTop (mkF m 67 #[.val (.int p1), .unset] [(.ref b1), (.ref b1)]))) (fun t ht => XS.dup X11.here hx rfl (hb hby own_d2_66) rfl rfl ht) ?_
  refine own_step (U' := (T11.setTop (mkF m 69 #[.val (.int p1), .unset] [(.int (10 : Int32)), (.ref b1), (.ref b1)]))) (fun t ht => XS.bipush X11.here hx rfl (hb hby own_d2_67) ht) ?_
  refine own_step (U' := (T11.setTop (mkF m 72 #[.val (.int p1), .unset] [(.long (10000000000 : Int64)), (.int (10 : Int32)), (.ref b1), (.ref b1)]))) (fun t ht => X11.ldc2Long hx hown (mvT hZ (hw _ (List.mem_of_getElem? (i := 21) rfl))) (g := (mkF m 69 #[.val (.int p1), .unset] [(.int (10 : Int32)), (.ref b1), (.ref b1)])) rfl (hb hby own_d2_69) _ ht) ?_
  obtain ⟨cl12, Ar12, q12, S12, N12_, H12, G12⟩ := (id V11)
  have hin12 : ¬ ((10 : Int32) < 0 ∨ cl12.slots.size ≤ ((10 : Int32)).toNatClampNeg) := inb_of S12 ⟨by decide, by decide⟩
  obtain ⟨T12, h12, X12, e12, W12, st12⟩ := stJ X11 hx hZ e11 Ar12 (j := (10 : Int32)) hin12 (g := (mkF m 72 #[.val (.int p1), .unset] [(.long (10000000000 : Int64)), (.int (10 : Int32)), (.ref b1), (.ref b1)])) rfl rfl (hb hby own_d2_72)
  have V12 : Arv Z h12 b1 k1 .long (19 : Int32) [(.long (1 : Int64)), (.long (10 : Int64)), (.long (100 : Int64)), (.long (1000 : Int64)), (.long (10000 : Int64)), (.long (100000 : Int64)), (.long (1000000 : Int64)), (.long (10000000 : Int64)), (.long (100000000 : Int64)), (.long (1000000000 : Int64)), (.long (10000000000 : Int64)), (.long (0 : Int64)), (.long (0 : Int64)), (.long (0 : Int64)), (.long (0 : Int64)), (.long (0 : Int64)), (.long (0 : Int64)), (.long (0 : Int64)), (.long (0 : Int64))] (.long (0 : Int64)) := Arv.set Ar12 q12 S12 N12_ H12 G12 rfl W12 10 rfl (Nat.le_of_ble_eq_true rfl)
  have N12 := Fr.snoc X12 N11 g_b1
  have K12 : Keep h0 h12 [] := K11.wr W12 (Or.inr sz_b1)
  refine own_step (U' := (T12.setTop (mkF m 73 #[.val (.int p1), .unset] [(.ref b1)]))) (fun t ht => st12 _ ht) ?_
  clear st12 W12 hin12 G12 H12 N12_ S12 q12 Ar12 cl12 V11 X11 e11 N11 K11 T11 h11
  refine own_step (U' := (T12.setTop (mkF m 74 #[.val (.int p1), .unset] [(.ref b1), (.ref b1)]))) (fun t ht => XS.dup X12.here hx rfl (hb hby own_d2_73) rfl rfl ht) ?_
  refine own_step (U' := (T12.setTop (mkF m 76 #[.val (.int p1), .unset] [(.int (11 : Int32)), (.ref b1), (.ref b1)]))) (fun t ht => XS.bipush X12.here hx rfl (hb hby own_d2_74) ht) ?_
  refine own_step (U' := (T12.setTop (mkF m 79 #[.val (.int p1), .unset] [(.long (100000000000 : Int64)), (.int (11 : Int32)), (.ref b1), (.ref b1)]))) (fun t ht => X12.ldc2Long hx hown (mvT hZ (hw _ (List.mem_of_getElem? (i := 22) rfl))) (g := (mkF m 76 #[.val (.int p1), .unset] [(.int (11 : Int32)), (.ref b1), (.ref b1)])) rfl (hb hby own_d2_76) _ ht) ?_
  obtain ⟨cl13, Ar13, q13, S13, N13_, H13, G13⟩ := (id V12)
  have hin13 : ¬ ((11 : Int32) < 0 ∨ cl13.slots.size ≤ ((11 : Int32)).toNatClampNeg) := inb_of S13 ⟨by decide, by decide⟩
  obtain ⟨T13, h13, X13, e13, W13, st13⟩ := stJ X12 hx hZ e12 Ar13 (j := (11 : Int32)) hin13 (g := (mkF m 79 #[.val (.int p1), .unset] [(.long (100000000000 : Int64)), (.int (11 : Int32)), (.ref b1), (.ref b1)])) rfl rfl (hb hby own_d2_79)
  have V13 : Arv Z h13 b1 k1 .long (19 : Int32) [(.long (1 : Int64)), (.long (10 : Int64)), (.long (100 : Int64)), (.long (1000 : Int64)), (.long (10000 : Int64)), (.long (100000 : Int64)), (.long (1000000 : Int64)), (.long (10000000 : Int64)), (.long (100000000 : Int64)), (.long (1000000000 : Int64)), (.long (10000000000 : Int64)), (.long (100000000000 : Int64)), (.long (0 : Int64)), (.long (0 : Int64)), (.long (0 : Int64)), (.long (0 : Int64)), (.long (0 : Int64)), (.long (0 : Int64)), (.long (0 : Int64))] (.long (0 : Int64)) := Arv.set Ar13 q13 S13 N13_ H13 G13 rfl W13 11 rfl (Nat.le_of_ble_eq_true rfl)
  have N13 := Fr.snoc X13 N12 g_b1
  have K13 : Keep h0 h13 [] := K12.wr W13 (Or.inr sz_b1)
  refine own_step (U' := (T13.setTop (mkF m 80 #[.val (.int p1), .unset] [(.ref b1)]))) (fun t ht => st13 _ ht) ?_
  clear st13 W13 hin13 G13 H13 N13_ S13 q13 Ar13 cl13 V12 X12 e12 N12 K12 T12 h12
  refine own_step (U' := (T13.setTop (mkF m 81 #[.val (.int p1), .unset] [(.ref b1), (.ref b1)]))) (fun t ht => XS.dup X13.here hx rfl (hb hby own_d2_80) rfl rfl ht) ?_
  refine own_step (U' := (T13.setTop (mkF m 83 #[.val (.int p1), .unset] [(.int (12 : Int32)), (.ref b1), (.ref b1)]))) (fun t ht => XS.bipush X13.here hx rfl (hb hby own_d2_81) ht) ?_
  refine own_step (U' := (T13.setTop (mkF m 86 #[.val (.int p1), .unset] [(.long (1000000000000 : Int64)), (.int (12 : Int32)), (.ref b1), (.ref b1)]))) (fun t ht => X13.ldc2Long hx hown (mvT hZ (hw _ (List.mem_of_getElem? (i := 23) rfl))) (g := (mkF m 83 #[.val (.int p1), .unset] [(.int (12 : Int32)), (.ref b1), (.ref b1)])) rfl (hb hby own_d2_83) _ ht) ?_
  obtain ⟨cl14, Ar14, q14, S14, N14_, H14, G14⟩ := (id V13)
  have hin14 : ¬ ((12 : Int32) < 0 ∨ cl14.slots.size ≤ ((12 : Int32)).toNatClampNeg) := inb_of S14 ⟨by decide, by decide⟩
  obtain ⟨T14, h14, X14, e14, W14, st14⟩ := stJ X13 hx hZ e13 Ar14 (j := (12 : Int32)) hin14 (g := (mkF m 86 #[.val (.int p1), .unset] [(.long (1000000000000 : Int64)), (.int (12 : Int32)), (.ref b1), (.ref b1)])) rfl rfl (hb hby own_d2_86)
  have V14 : Arv Z h14 b1 k1 .long (19 : Int32) [(.long (1 : Int64)), (.long (10 : Int64)), (.long (100 : Int64)), (.long (1000 : Int64)), (.long (10000 : Int64)), (.long (100000 : Int64)), (.long (1000000 : Int64)), (.long (10000000 : Int64)), (.long (100000000 : Int64)), (.long (1000000000 : Int64)), (.long (10000000000 : Int64)), (.long (100000000000 : Int64)), (.long (1000000000000 : Int64)), (.long (0 : Int64)), (.long (0 : Int64)), (.long (0 : Int64)), (.long (0 : Int64)), (.long (0 : Int64)), (.long (0 : Int64))] (.long (0 : Int64)) := Arv.set Ar14 q14 S14 N14_ H14 G14 rfl W14 12 rfl (Nat.le_of_ble_eq_true rfl)
  have N14 := Fr.snoc X14 N13 g_b1
  have K14 : Keep h0 h14 [] := K13.wr W14 (Or.inr sz_b1)
  refine own_step (U' := (T14.setTop (mkF m 87 #[.val (.int p1), .unset] [(.ref b1)]))) (fun t ht => st14 _ ht) ?_
  clear st14 W14 hin14 G14 H14 N14_ S14 q14 Ar14 cl14 V13 X13 e13 N13 K13 T13 h13
  refine own_step (U' := (T14.setTop (mkF m 88 #[.val (.int p1), .unset] [(.ref b1), (.ref b1)]))) (fun t ht => XS.dup X14.here hx rfl (hb hby own_d2_87) rfl rfl ht) ?_
  refine own_step (U' := (T14.setTop (mkF m 90 #[.val (.int p1), .unset] [(.int (13 : Int32)), (.ref b1), (.ref b1)]))) (fun t ht => XS.bipush X14.here hx rfl (hb hby own_d2_88) ht) ?_
  refine own_step (U' := (T14.setTop (mkF m 93 #[.val (.int p1), .unset] [(.long (10000000000000 : Int64)), (.int (13 : Int32)), (.ref b1), (.ref b1)]))) (fun t ht => X14.ldc2Long hx hown (mvT hZ (hw _ (List.mem_of_getElem? (i := 24) rfl))) (g := (mkF m 90 #[.val (.int p1), .unset] [(.int (13 : Int32)), (.ref b1), (.ref b1)])) rfl (hb hby own_d2_90) _ ht) ?_
  obtain ⟨cl15, Ar15, q15, S15, N15_, H15, G15⟩ := (id V14)
  have hin15 : ¬ ((13 : Int32) < 0 ∨ cl15.slots.size ≤ ((13 : Int32)).toNatClampNeg) := inb_of S15 ⟨by decide, by decide⟩
  obtain ⟨T15, h15, X15, e15, W15, st15⟩ := stJ X14 hx hZ e14 Ar15 (j := (13 : Int32)) hin15 (g := (mkF m 93 #[.val (.int p1), .unset] [(.long (10000000000000 : Int64)), (.int (13 : Int32)), (.ref b1), (.ref b1)])) rfl rfl (hb hby own_d2_93)
  have V15 : Arv Z h15 b1 k1 .long (19 : Int32) [(.long (1 : Int64)), (.long (10 : Int64)), (.long (100 : Int64)), (.long (1000 : Int64)), (.long (10000 : Int64)), (.long (100000 : Int64)), (.long (1000000 : Int64)), (.long (10000000 : Int64)), (.long (100000000 : Int64)), (.long (1000000000 : Int64)), (.long (10000000000 : Int64)), (.long (100000000000 : Int64)), (.long (1000000000000 : Int64)), (.long (10000000000000 : Int64)), (.long (0 : Int64)), (.long (0 : Int64)), (.long (0 : Int64)), (.long (0 : Int64)), (.long (0 : Int64))] (.long (0 : Int64)) := Arv.set Ar15 q15 S15 N15_ H15 G15 rfl W15 13 rfl (Nat.le_of_ble_eq_true rfl)
  have N15 := Fr.snoc X15 N14 g_b1
  have K15 : Keep h0 h15 [] := K14.wr W15 (Or.inr sz_b1)
  refine own_step (U' := (T15.setTop (mkF m 94 #[.val (.int p1), .unset] [(.ref b1)]))) (fun t ht => st15 _ ht) ?_
  clear st15 W15 hin15 G15 H15 N15_ S15 q15 Ar15 cl15 V14 X14 e14 N14 K14 T14 h14
  refine own_step (U' := (T15.setTop (mkF m 95 #[.val (.int p1), .unset] [(.ref b1), (.ref b1)]))) (fun t ht => XS.dup X15.here hx rfl (hb hby own_d2_94) rfl rfl ht) ?_
  refine own_step (U' := (T15.setTop (mkF m 97 #[.val (.int p1), .unset] [(.int (14 : Int32)), (.ref b1), (.ref b1)]))) (fun t ht => XS.bipush X15.here hx rfl (hb hby own_d2_95) ht) ?_
  refine own_step (U' := (T15.setTop (mkF m 100 #[.val (.int p1), .unset] [(.long (100000000000000 : Int64)), (.int (14 : Int32)), (.ref b1), (.ref b1)]))) (fun t ht => X15.ldc2Long hx hown (mvT hZ (hw _ (List.mem_of_getElem? (i := 25) rfl))) (g := (mkF m 97 #[.val (.int p1), .unset] [(.int (14 : Int32)), (.ref b1), (.ref b1)])) rfl (hb hby own_d2_97) _ ht) ?_
  obtain ⟨cl16, Ar16, q16, S16, N16_, H16, G16⟩ := (id V15)
  have hin16 : ¬ ((14 : Int32) < 0 ∨ cl16.slots.size ≤ ((14 : Int32)).toNatClampNeg) := inb_of S16 ⟨by decide, by decide⟩
  obtain ⟨T16, h16, X16, e16, W16, st16⟩ := stJ X15 hx hZ e15 Ar16 (j := (14 : Int32)) hin16 (g := (mkF m 100 #[.val (.int p1), .unset] [(.long (100000000000000 : Int64)), (.int (14 : Int32)), (.ref b1), (.ref b1)])) rfl rfl (hb hby own_d2_100)
  have V16 : Arv Z h16 b1 k1 .long (19 : Int32) [(.long (1 : Int64)), (.long (10 : Int64)), (.long (100 : Int64)), (.long (1000 : Int64)), (.long (10000 : Int64)), (.long (100000 : Int64)), (.long (1000000 : Int64)), (.long (10000000 : Int64)), (.long (100000000 : Int64)), (.long (1000000000 : Int64)), (.long (10000000000 : Int64)), (.long (100000000000 : Int64)), (.long (1000000000000 : Int64)), (.long (10000000000000 : Int64)), (.long (100000000000000 : Int64)), (.long (0 : Int64)), (.long (0 : Int64)), (.long (0 : Int64)), (.long (0 : Int64))] (.long (0 : Int64)) := Arv.set Ar16 q16 S16 N16_ H16 G16 rfl W16 14 rfl (Nat.le_of_ble_eq_true rfl)
  have N16 := Fr.snoc X16 N15 g_b1
  have K16 : Keep h0 h16 [] := K15.wr W16 (Or.inr sz_b1)
  refine own_step (U' := (T16.setTop (mkF m 101 #[.val (.int p1), .unset] [(.ref b1)]))) (fun t ht => st16 _ ht) ?_
  clear st16 W16 hin16 G16 H16 N16_ S16 q16 Ar16 cl16 V15 X15 e15 N15 K15 T15 h15
  refine own_step (U' := (T16.setTop (mkF m 102 #[.val (.int p1), .unset] [(.ref b1), (.ref b1)]))) (fun t ht => XS.dup X16.here hx rfl (hb hby own_d2_101) rfl rfl ht) ?_
  refine own_step (U' := (T16.setTop (mkF m 104 #[.val (.int p1), .unset] [(.int (15 : Int32)), (.ref b1), (.ref b1)]))) (fun t ht => XS.bipush X16.here hx rfl (hb hby own_d2_102) ht) ?_
  refine own_step (U' := (T16.setTop (mkF m 107 #[.val (.int p1), .unset] [(.long (1000000000000000 : Int64)), (.int (15 : Int32)), (.ref b1), (.ref b1)]))) (fun t ht => X16.ldc2Long hx hown (mvT hZ (hw _ (List.mem_of_getElem? (i := 26) rfl))) (g := (mkF m 104 #[.val (.int p1), .unset] [(.int (15 : Int32)), (.ref b1), (.ref b1)])) rfl (hb hby own_d2_104) _ ht) ?_
  obtain ⟨cl17, Ar17, q17, S17, N17_, H17, G17⟩ := (id V16)
  have hin17 : ¬ ((15 : Int32) < 0 ∨ cl17.slots.size ≤ ((15 : Int32)).toNatClampNeg) := inb_of S17 ⟨by decide, by decide⟩
  obtain ⟨T17, h17, X17, e17, W17, st17⟩ := stJ X16 hx hZ e16 Ar17 (j := (15 : Int32)) hin17 (g := (mkF m 107 #[.val (.int p1), .unset] [(.long (1000000000000000 : Int64)), (.int (15 : Int32)), (.ref b1), (.ref b1)])) rfl rfl (hb hby own_d2_107)
  have V17 : Arv Z h17 b1 k1 .long (19 : Int32) [(.long (1 : Int64)), (.long (10 : Int64)), (.long (100 : Int64)), (.long (1000 : Int64)), (.long (10000 : Int64)), (.long (100000 : Int64)), (.long (1000000 : Int64)), (.long (10000000 : Int64)), (.long (100000000 : Int64)), (.long (1000000000 : Int64)), (.long (10000000000 : Int64)), (.long (100000000000 : Int64)), (.long (1000000000000 : Int64)), (.long (10000000000000 : Int64)), (.long (100000000000000 : Int64)), (.long (1000000000000000 : Int64)), (.long (0 : Int64)), (.long (0 : Int64)), (.long (0 : Int64))] (.long (0 : Int64)) := Arv.set Ar17 q17 S17 N17_ H17 G17 rfl W17 15 rfl (Nat.le_of_ble_eq_true rfl)
  have N17 := Fr.snoc X17 N16 g_b1
  have K17 : Keep h0 h17 [] := K16.wr W17 (Or.inr sz_b1)
  refine own_step (U' := (T17.setTop (mkF m 108 #[.val (.int p1), .unset] [(.ref b1)]))) (fun t ht => st17 _ ht) ?_
  clear st17 W17 hin17 G17 H17 N17_ S17 q17 Ar17 cl17 V16 X16 e16 N16 K16 T16 h16
  refine own_step (U' := (T17.setTop (mkF m 109 #[.val (.int p1), .unset] [(.ref b1), (.ref b1)]))) (fun t ht => XS.dup X17.here hx rfl (hb hby own_d2_108) rfl rfl ht) ?_
  refine own_step (U' := (T17.setTop (mkF m 111 #[.val (.int p1), .unset] [(.int (16 : Int32)), (.ref b1), (.ref b1)]))) (fun t ht => XS.bipush X17.here hx rfl (hb hby own_d2_109) ht) ?_
  refine own_step (U' := (T17.setTop (mkF m 114 #[.val (.int p1), .unset] [(.long (10000000000000000 : Int64)), (.int (16 : Int32)), (.ref b1), (.ref b1)]))) (fun t ht => X17.ldc2Long hx hown (mvT hZ (hw _ (List.mem_of_getElem? (i := 27) rfl))) (g := (mkF m 111 #[.val (.int p1), .unset] [(.int (16 : Int32)), (.ref b1), (.ref b1)])) rfl (hb hby own_d2_111) _ ht) ?_
  obtain ⟨cl18, Ar18, q18, S18, N18_, H18, G18⟩ := (id V17)
  have hin18 : ¬ ((16 : Int32) < 0 ∨ cl18.slots.size ≤ ((16 : Int32)).toNatClampNeg) := inb_of S18 ⟨by decide, by decide⟩
  obtain ⟨T18, h18, X18, e18, W18, st18⟩ := stJ X17 hx hZ e17 Ar18 (j := (16 : Int32)) hin18 (g := (mkF m 114 #[.val (.int p1), .unset] [(.long (10000000000000000 : Int64)), (.int (16 : Int32)), (.ref b1), (.ref b1)])) rfl rfl (hb hby own_d2_114)
  have V18 : Arv Z h18 b1 k1 .long (19 : Int32) [(.long (1 : Int64)), (.long (10 : Int64)), (.long (100 : Int64)), (.long (1000 : Int64)), (.long (10000 : Int64)), (.long (100000 : Int64)), (.long (1000000 : Int64)), (.long (10000000 : Int64)), (.long (100000000 : Int64)), (.long (1000000000 : Int64)), (.long (10000000000 : Int64)), (.long (100000000000 : Int64)), (.long (1000000000000 : Int64)), (.long (10000000000000 : Int64)), (.long (100000000000000 : Int64)), (.long (1000000000000000 : Int64)), (.long (10000000000000000 : Int64)), (.long (0 : Int64)), (.long (0 : Int64))] (.long (0 : Int64)) := Arv.set Ar18 q18 S18 N18_ H18 G18 rfl W18 16 rfl (Nat.le_of_ble_eq_true rfl)
  have N18 := Fr.snoc X18 N17 g_b1
  have K18 : Keep h0 h18 [] := K17.wr W18 (Or.inr sz_b1)
  refine own_step (U' := (T18.setTop (mkF m 115 #[.val (.int p1), .unset] [(.ref b1)]))) (fun t ht => st18 _ ht) ?_
  clear st18 W18 hin18 G18 H18 N18_ S18 q18 Ar18 cl18 V17 X17 e17 N17 K17 T17 h17
  refine own_step (U' := (T18.setTop (mkF m 116 #[.val (.int p1), .unset] [(.ref b1), (.ref b1)]))) (fun t ht => XS.dup X18.here hx rfl (hb hby own_d2_115) rfl rfl ht) ?_
  refine own_step (U' := (T18.setTop (mkF m 118 #[.val (.int p1), .unset] [(.int (17 : Int32)), (.ref b1), (.ref b1)]))) (fun t ht => XS.bipush X18.here hx rfl (hb hby own_d2_116) ht) ?_
  refine own_step (U' := (T18.setTop (mkF m 121 #[.val (.int p1), .unset] [(.long (100000000000000000 : Int64)), (.int (17 : Int32)), (.ref b1), (.ref b1)]))) (fun t ht => X18.ldc2Long hx hown (mvT hZ (hw _ (List.mem_of_getElem? (i := 28) rfl))) (g := (mkF m 118 #[.val (.int p1), .unset] [(.int (17 : Int32)), (.ref b1), (.ref b1)])) rfl (hb hby own_d2_118) _ ht) ?_
  obtain ⟨cl19, Ar19, q19, S19, N19_, H19, G19⟩ := (id V18)
  have hin19 : ¬ ((17 : Int32) < 0 ∨ cl19.slots.size ≤ ((17 : Int32)).toNatClampNeg) := inb_of S19 ⟨by decide, by decide⟩
  obtain ⟨T19, h19, X19, e19, W19, st19⟩ := stJ X18 hx hZ e18 Ar19 (j := (17 : Int32)) hin19 (g := (mkF m 121 #[.val (.int p1), .unset] [(.long (100000000000000000 : Int64)), (.int (17 : Int32)), (.ref b1), (.ref b1)])) rfl rfl (hb hby own_d2_121)
  have V19 : Arv Z h19 b1 k1 .long (19 : Int32) [(.long (1 : Int64)), (.long (10 : Int64)), (.long (100 : Int64)), (.long (1000 : Int64)), (.long (10000 : Int64)), (.long (100000 : Int64)), (.long (1000000 : Int64)), (.long (10000000 : Int64)), (.long (100000000 : Int64)), (.long (1000000000 : Int64)), (.long (10000000000 : Int64)), (.long (100000000000 : Int64)), (.long (1000000000000 : Int64)), (.long (10000000000000 : Int64)), (.long (100000000000000 : Int64)), (.long (1000000000000000 : Int64)), (.long (10000000000000000 : Int64)), (.long (100000000000000000 : Int64)), (.long (0 : Int64))] (.long (0 : Int64)) := Arv.set Ar19 q19 S19 N19_ H19 G19 rfl W19 17 rfl (Nat.le_of_ble_eq_true rfl)
  have N19 := Fr.snoc X19 N18 g_b1
  have K19 : Keep h0 h19 [] := K18.wr W19 (Or.inr sz_b1)
  refine own_step (U' := (T19.setTop (mkF m 122 #[.val (.int p1), .unset] [(.ref b1)]))) (fun t ht => st19 _ ht) ?_
  clear st19 W19 hin19 G19 H19 N19_ S19 q19 Ar19 cl19 V18 X18 e18 N18 K18 T18 h18
  refine own_step (U' := (T19.setTop (mkF m 123 #[.val (.int p1), .unset] [(.ref b1), (.ref b1)]))) (fun t ht => XS.dup X19.here hx rfl (hb hby own_d2_122) rfl rfl ht) ?_
  refine own_step (U' := (T19.setTop (mkF m 125 #[.val (.int p1), .unset] [(.int (18 : Int32)), (.ref b1), (.ref b1)]))) (fun t ht => XS.bipush X19.here hx rfl (hb hby own_d2_123) ht) ?_
  refine own_step (U' := (T19.setTop (mkF m 128 #[.val (.int p1), .unset] [(.long (1000000000000000000 : Int64)), (.int (18 : Int32)), (.ref b1), (.ref b1)]))) (fun t ht => X19.ldc2Long hx hown (mvT hZ (hw _ (List.mem_of_getElem? (i := 1) rfl))) (g := (mkF m 125 #[.val (.int p1), .unset] [(.int (18 : Int32)), (.ref b1), (.ref b1)])) rfl (hb hby own_d2_125) _ ht) ?_
  obtain ⟨cl20, Ar20, q20, S20, N20_, H20, G20⟩ := (id V19)
  have hin20 : ¬ ((18 : Int32) < 0 ∨ cl20.slots.size ≤ ((18 : Int32)).toNatClampNeg) := inb_of S20 ⟨by decide, by decide⟩
  obtain ⟨T20, h20, X20, e20, W20, st20⟩ := stJ X19 hx hZ e19 Ar20 (j := (18 : Int32)) hin20 (g := (mkF m 128 #[.val (.int p1), .unset] [(.long (1000000000000000000 : Int64)), (.int (18 : Int32)), (.ref b1), (.ref b1)])) rfl rfl (hb hby own_d2_128)
  have V20 : Arv Z h20 b1 k1 .long (19 : Int32) [(.long (1 : Int64)), (.long (10 : Int64)), (.long (100 : Int64)), (.long (1000 : Int64)), (.long (10000 : Int64)), (.long (100000 : Int64)), (.long (1000000 : Int64)), (.long (10000000 : Int64)), (.long (100000000 : Int64)), (.long (1000000000 : Int64)), (.long (10000000000 : Int64)), (.long (100000000000 : Int64)), (.long (1000000000000 : Int64)), (.long (10000000000000 : Int64)), (.long (100000000000000 : Int64)), (.long (1000000000000000 : Int64)), (.long (10000000000000000 : Int64)), (.long (100000000000000000 : Int64)), (.long (1000000000000000000 : Int64))] (.long (0 : Int64)) := Arv.set Ar20 q20 S20 N20_ H20 G20 rfl W20 18 rfl (Nat.le_of_ble_eq_true rfl)
  have N20 := Fr.snoc X20 N19 g_b1
  have K20 : Keep h0 h20 [] := K19.wr W20 (Or.inr sz_b1)
  refine own_step (U' := (T20.setTop (mkF m 129 #[.val (.int p1), .unset] [(.ref b1)]))) (fun t ht => st20 _ ht) ?_
  clear st20 W20 hin20 G20 H20 N20_ S20 q20 Ar20 cl20 V19 X19 e19 N19 K19 T19 h19
  refine own_step (U' := (T20.setTop (mkF m 130 #[.val (.int p1), .val (.ref b1)] []))) (fun t ht => XS.astoreN X20.here hx rfl (hb hby own_d2_129) rfl rfl (l' := #[.val (.int p1), .val (.ref b1)]) rfl ht) ?_
  refine own_step (U' := (T20.setTop (mkF m 131 #[.val (.int p1), .val (.ref b1)] [(.ref b1)]))) (fun t ht => XS.aloadN X20.here hx rfl (hb hby own_d2_130) rfl rfl ht) ?_
  refine own_step (U' := (T20.setTop (mkF m 132 #[.val (.int p1), .val (.ref b1)] [(.int p1), (.ref b1)]))) (fun t ht => XS.iloadN X20.here hx rfl (hb hby own_d2_131) rfl ht) ?_
  obtain ⟨cl21, Ar21, q21, S21, N21_, H21, G21⟩ := (id V20)
  have hin21 : ¬ (p1 < 0 ∨ cl21.slots.size ≤ (p1).toNatClampNeg) := inb_of S21 (own_p10_in hk)
  have hat21 : cl21.slots[(p1).toNatClampNeg]? = some (.long (own_p10 p1)) := Has.at H21 hin21 (own_pk_at _)
  refine own_step (U' := (T20.setTop (mkF m 133 #[.val (.int p1), .val (.ref b1)] [(.long (own_p10 p1))]))) (fun t ht => X20.laload hx (j := p1) (v := (.long (own_p10 p1))) (own_at e20 Ar21.1) (State.isArrayOf_alike hZ.alike Ar21.2.1) Ar21.2.2 hin21 hat21 (g := (mkF m 132 #[.val (.int p1), .val (.ref b1)] [(.int p1), (.ref b1)])) rfl rfl (hb hby own_d2_132) _ ht) ?_
  refine own_ret X20 (v := (some (.long (own_p10 p1)))) (fun h => by rw [Bd.returns] at h; cases h) Bd.notSynchronized (by decide) (by decide) ?_ (fun fs hr => retOut X20 hx (t := .long) Bd.returns rfl (Or.inr (Or.inl ⟨rfl, rfl, _, rfl⟩)) (hb hby own_d2_133) hr)
  show own_Q_p10 Z p1 j h0 n0 _ T20.heap _
  rw [e20]
  exact ⟨rfl, N20, K20⟩
theorem own_pd0 : parseMethodDescriptor "(I)J" = some ⟨[.int], some .long⟩ := by decide +kernel
theorem own_d1_0 : decode method_3_code 0 = .ok (.bipush 48, 2) := by decide +kernel
theorem own_d1_2 : decode method_3_code 2 = .ok (.lload_n 0, 1) := by decide +kernel
theorem own_d1_3 : decode method_3_code 3 = .ok (.iload_n 2, 1) := by decide +kernel
theorem own_d1_4 : decode method_3_code 4 = .ok (.invokestatic 43, 3) := by decide +kernel
theorem own_d1_7 : decode method_3_code 7 = .ok (.ldiv, 1) := by decide +kernel
theorem own_d1_8 : decode method_3_code 8 = .ok (.ldc2_w 7, 3) := by decide +kernel
theorem own_d1_11 : decode method_3_code 11 = .ok (.lrem, 1) := by decide +kernel
theorem own_d1_12 : decode method_3_code 12 = .ok (.l2i, 1) := by decide +kernel
theorem own_d1_13 : decode method_3_code 13 = .ok (.iadd, 1) := by decide +kernel
theorem own_d1_14 : decode method_3_code 14 = .ok (.i2c, 1) := by decide +kernel
theorem own_d1_15 : decode method_3_code 15 = .ok (.ireturn, 1) := by decide +kernel
def own_Q_dig (Z : State) (p1 : Int64) (p2 : Int32) (j : Nat) (h0 : Heap) (n0 : Nat) (v : Option Value) (h : Heap) (L : List Loc) : Prop := v = some (.int (own_dg p1 p2)) ∧ Fr n0 L ∧ Keep h0 h []
set_option maxRecDepth 65536 in
set_option maxHeartbeats 40000000 in
theorem own_m_dig (l : Launch) (Z : State) (a0 : Array Value) (hw : ∀ d ∈ tables_1, d.before a0 Z = true) (ws : List Jvm.Cond) (p1 : Int64) (p2 : Int32) (j : Nat) (h0 : Heap) (n0 : Nat) (Z0 : n0 ≤ h0.size) (hk : own_B p2 j) :
    MetFree l (⟨"com/example/version_parser/versionparser/DecimalDigitsValuePinLaw", "dig", "(JI)C"⟩ : MethodName) (head1 (Jvm.Cond.code (⟨"com/example/version_parser/versionparser/DecimalDigitsValuePinLaw", "dig", "(JI)C"⟩ : MethodName) method_3_code 3 (some .char) :: ws) ({ frames := 1, cells := 1, slots := 19, locals := 16 } : Room)) (fun a U => a = #[(.long p1), (.int p2)] ∧ Z.Warmed39 U.vm ∧ U.heap = h0) (fun _ _ _ _ _ => True) (fun _ U o U' => ∃ v L, o = .returned v ∧ own_Q_dig Z p1 p2 j h0 n0 v U'.heap L ∧ FrameEnd U o U' L ({ frames := 1, cells := 1, slots := 19, locals := 16 } : Room).cells ({ frames := 1, cells := 1, slots := 19, locals := 16 } : Room).slots) := by
  refine MetFree.of_bodySF (plainFor_of_name own_pn0) hisR ?_
  intro p e s m args below meth c s₁ Bd hml0 hP hK
  obtain ⟨rfl, hZ, hh⟩ := hP
  have hx := Bd.exec
  have hby := Bd.bytes
  have hml : c.maxLocals = 3 := hml0
  have hown : s.vm.findClass "com/example/version_parser/versionparser/DecimalDigitsValuePinLaw" = some m.cls := findClass_of_methodNamed Bd.named
  have hnm := (name_of_methodNamed Bd.named Bd.method).1
  have X0 : Stand p l e ({ frames := 1, cells := 1, slots := 19, locals := 16 } : Room) s m #[(.long p1), (.int p2)] below meth c s₁ [] 0 0 := Stand.of_body Bd
  have e0 : s₁.heap = h0 := by rw [← hh, Bd.state]; rfl
  have N0 := Fr.nil n0
  have K0 : Keep h0 h0 [] := Keep.refl _ _
  show own_Go p e below s ({ frames := 1, cells := 1, slots := 19, locals := 16 } : Room).cells ({ frames := 1, cells := 1, slots := 19, locals := 16 } : Room).slots (own_Q_dig Z p1 p2 j h0 n0) (s₁.setTop (entryFrame m #[(.long p1), (.int p2)] 3))
  have ef : entryFrame m #[(.long p1), (.int p2)] 3 = (mkF m 0 #[.val (.long p1), .second, .val (.int p2)] []) := by first | (simp [entryFrame, mkF, argsToLocals, Value.category, maxLocals]; done) | rfl
  rw [ef]
  show own_Go p e below s _ _ _ (s₁.setTop (mkF m 0 #[.val (.long p1), .second, .val (.int p2)] []))
  refine own_step (U' := (s₁.setTop (mkF m 2 #[.val (.long p1), .second, .val (.int p2)] [(.int (48 : Int32))]))) (fun t ht => XS.bipush X0.here hx rfl (hb hby own_d1_0) ht) ?_
  refine own_step (U' := (s₁.setTop (mkF m 3 #[.val (.long p1), .second, .val (.int p2)] [(.long p1), (.int (48 : Int32))]))) (fun t ht => XT.lloadN X0.here hx rfl (hb hby own_d1_2) rfl ht) ?_
  refine own_step (U' := (s₁.setTop (mkF m 4 #[.val (.long p1), .second, .val (.int p2)] [(.int p2), (.long p1), (.int (48 : Int32))]))) (fun t ht => XS.iloadN X0.here hx rfl (hb hby own_d1_3) rfl ht) ?_
  obtain ⟨_, _, ⟨T22, L22, k22, n22⟩, -, X22, ⟨Lc22, hQ22, l22, y22, z22⟩, st22⟩ := Jvm.LawKit.callS X0 hx (y := (⟨"com/example/version_parser/versionparser/DecimalDigitsValuePinLaw", "pow10", "(I)J"⟩ : MethodName)) hown (mvT hZ (hw _ (List.mem_of_getElem? (i := 8) rfl))) (mvT hZ (hw _ (List.mem_of_getElem? (i := 9) rfl))) (mvT hZ (hw _ (List.mem_of_getElem? (i := 6) rfl))) (mvT hZ (hw _ (List.mem_of_getElem? (i := 10) rfl))) (by decide) (backOf (W := 3) (own_m_p10 l Z a0 hw [] (p2) (j) h0 n0 Z0 hk) hZ (hw _ (List.mem_of_getElem? (i := 10) rfl)) (hw _ (List.mem_of_getElem? (i := 6) rfl)) (by decide) (by decide)) (g := (mkF m 4 #[.val (.long p1), .second, .val (.int p2)] [(.int p2), (.long p1), (.int (48 : Int32))])) rfl (by rw [hml]; rfl) (argsL := [(.int p2)]) (rest := [(.long p1), (.int (48 : Int32))]) (lenOf own_pd0 rfl) rfl (by show 2 * 0 + _ ≤ _; exact Nat.le_of_eq rfl) (hb hby own_d1_4) (fun _ _ => ⟨rfl, e0, (by decide : 0 + 1 ≤ _), (by decide : 0 + 19 ≤ _)⟩)
  dsimp only [Pt.U, Pt.locs, Pt.cells, Pt.slots] at X22 l22 y22 z22 st22 hQ22
  subst l22 y22 z22
  obtain ⟨rfl, Nq22, Kq22⟩ := hQ22
  have N22 := Fr.app N0 Nq22
  have K22 : Keep h0 T22.heap [] := K0.trans Kq22 all0
  refine own_step (U' := (T22.setTop (mkF m 7 #[.val (.long p1), .second, .val (.int p2)] [(.long (own_p10 p2)), (.long p1), (.int (48 : Int32))]))) (fun t ht => st22 _ ht) ?_
  refine own_step (U' := (T22.setTop (mkF m 8 #[.val (.long p1), .second, .val (.int p2)] [(.long (p1 / (own_p10 p2))), (.int (48 : Int32))]))) (fun t ht => XT.ldiv X22.here hx rfl (hb hby own_d1_7) rfl (own_p10_nz hk) ht) ?_
  refine own_step (U' := (T22.setTop (mkF m 11 #[.val (.long p1), .second, .val (.int p2)] [(.long (10 : Int64)), (.long (p1 / (own_p10 p2))), (.int (48 : Int32))]))) (fun t ht => X22.ldc2Long hx hown (mvT hZ (hw _ (List.mem_of_getElem? (i := 12) rfl))) (g := (mkF m 8 #[.val (.long p1), .second, .val (.int p2)] [(.long (p1 / (own_p10 p2))), (.int (48 : Int32))])) rfl (hb hby own_d1_8) _ ht) ?_
  refine own_step (U' := (T22.setTop (mkF m 12 #[.val (.long p1), .second, .val (.int p2)] [(.long (own_lrem (p1 / (own_p10 p2)) (10 : Int64))), (.int (48 : Int32))]))) (fun t ht => XT.lrem X22.here hx rfl (hb hby own_d1_11) rfl (by decide) ht) ?_
  refine own_step (U' := (T22.setTop (mkF m 13 #[.val (.long p1), .second, .val (.int p2)] [(.int ((own_lrem (p1 / (own_p10 p2)) (10 : Int64)).toInt32)), (.int (48 : Int32))]))) (fun t ht => XT.l2i X22.here hx rfl (hb hby own_d1_12) rfl ht) ?_
  refine own_step (U' := (T22.setTop (mkF m 14 #[.val (.long p1), .second, .val (.int p2)] [(.int ((48 : Int32) + ((own_lrem (p1 / (own_p10 p2)) (10 : Int64)).toInt32)))]))) (fun t ht => XS.iadd X22.here hx rfl (hb hby own_d1_13) rfl ht) ?_
  refine own_step (U' := (T22.setTop (mkF m 15 #[.val (.long p1), .second, .val (.int p2)] [(.int (((48 : Int32) + ((own_lrem (p1 / (own_p10 p2)) (10 : Int64)).toInt32)).toUInt32.toUInt16.toUInt32.toInt32))]))) (fun t ht => XT.i2c X22.here hx rfl (hb hby own_d1_14) rfl ht) ?_
  refine own_ret X22 (v := (some (.int (nar .char (((48 : Int32) + ((own_lrem (p1 / (own_p10 p2)) (10 : Int64)).toInt32)).toUInt32.toUInt16.toUInt32.toInt32))))) (fun h => by rw [Bd.returns] at h; cases h) Bd.notSynchronized (by decide) (by decide) ?_ (fun fs hr => retN X22 hx (t := .char) Bd.returns (by simp) (hb hby own_d1_15) hr)
  show own_Q_dig Z p1 p2 j h0 n0 _ T22.heap _
  show own_Q_dig Z p1 p2 j h0 n0 _ T22.heap _
  exact ⟨rfl, N22, K22⟩
theorem own_pf1 : plainFor (⟨"java/lang/Math", "min", "(II)I"⟩ : MethodName) = true := by decide +kernel
theorem own_d9_0 : decode jdk_29_method_69_code 0 = .ok (.iload_n 0, 1) := by decide +kernel
theorem own_d9_1 : decode jdk_29_method_69_code 1 = .ok (.iload_n 1, 1) := by decide +kernel
theorem own_d9_2 : decode jdk_29_method_69_code 2 = .ok (.if_icmp .gt 7, 3) := by decide +kernel
theorem own_d9_5 : decode jdk_29_method_69_code 5 = .ok (.iload_n 0, 1) := by decide +kernel
theorem own_d9_6 : decode jdk_29_method_69_code 6 = .ok (.goto 4, 3) := by decide +kernel
theorem own_d9_9 : decode jdk_29_method_69_code 9 = .ok (.iload_n 1, 1) := by decide +kernel
theorem own_d9_10 : decode jdk_29_method_69_code 10 = .ok (.ireturn, 1) := by decide +kernel
def own_Q_min (Z : State) (p1 : Int32) (p2 : Int32) (h0 : Heap) (n0 : Nat) (v : Option Value) (h : Heap) (L : List Loc) : Prop := v = some (.int (own_min p1 p2)) ∧ Fr n0 L ∧ h = h0
set_option maxRecDepth 65536 in
set_option maxHeartbeats 40000000 in
theorem own_m_min (l : Launch) (Z : State) (a0 : Array Value) (hw : ∀ d ∈ tables_1, d.before a0 Z = true) (ws : List Jvm.Cond) (p1 : Int32) (p2 : Int32) (h0 : Heap) (n0 : Nat) (Z0 : n0 ≤ h0.size)  :
    MetFree l (⟨"java/lang/Math", "min", "(II)I"⟩ : MethodName) (head1 (Jvm.Cond.code (⟨"java/lang/Math", "min", "(II)I"⟩ : MethodName) jdk_29_method_69_code 2 (some .int) :: ws) ({ frames := 0, cells := 0, slots := 0, locals := 0 } : Room)) (fun a U => a = #[(.int p1), (.int p2)] ∧ Z.Warmed39 U.vm ∧ U.heap = h0) (fun _ _ _ _ _ => True) (fun _ U o U' => ∃ v L, o = .returned v ∧ own_Q_min Z p1 p2 h0 n0 v U'.heap L ∧ FrameEnd U o U' L ({ frames := 0, cells := 0, slots := 0, locals := 0 } : Room).cells ({ frames := 0, cells := 0, slots := 0, locals := 0 } : Room).slots) := by
  refine MetFree.of_bodySF own_pf1 hisR ?_
  intro p e s m args below meth c s₁ Bd hml0 hP hK
  obtain ⟨rfl, hZ, hh⟩ := hP
  have hx := Bd.exec
  have hby := Bd.bytes
  have hml : c.maxLocals = 2 := hml0
  have hown : s.vm.findClass "java/lang/Math" = some m.cls := findClass_of_methodNamed Bd.named
  have hnm := (name_of_methodNamed Bd.named Bd.method).1
  have X0 : Stand p l e ({ frames := 0, cells := 0, slots := 0, locals := 0 } : Room) s m #[(.int p1), (.int p2)] below meth c s₁ [] 0 0 := Stand.of_body Bd
  have e0 : s₁.heap = h0 := by rw [← hh, Bd.state]; rfl
  have N0 := Fr.nil n0
  have K0 : Keep h0 h0 [] := Keep.refl _ _
  show own_Go p e below s ({ frames := 0, cells := 0, slots := 0, locals := 0 } : Room).cells ({ frames := 0, cells := 0, slots := 0, locals := 0 } : Room).slots (own_Q_min Z p1 p2 h0 n0) (s₁.setTop (entryFrame m #[(.int p1), (.int p2)] 2))
  have ef : entryFrame m #[(.int p1), (.int p2)] 2 = (mkF m 0 #[.val (.int p1), .val (.int p2)] []) := by first | (simp [entryFrame, mkF, argsToLocals, Value.category, maxLocals]; done) | rfl
  rw [ef]
  show own_Go p e below s _ _ _ (s₁.setTop (mkF m 0 #[.val (.int p1), .val (.int p2)] []))
  refine own_step (U' := (s₁.setTop (mkF m 1 #[.val (.int p1), .val (.int p2)] [(.int p1)]))) (fun t ht => XS.iloadN X0.here hx rfl (hb hby own_d9_0) rfl ht) ?_
  refine own_step (U' := (s₁.setTop (mkF m 2 #[.val (.int p1), .val (.int p2)] [(.int p2), (.int p1)]))) (fun t ht => XS.iloadN X0.here hx rfl (hb hby own_d9_1) rfl ht) ?_
  by_cases hc2_23 : p2 < p1
  ·
    refine own_step (U' := (s₁.setTop (mkF m 9 #[.val (.int p1), .val (.int p2)] []))) (fun t ht => XS.icmpYes X0.here hx rfl (pc0 := 2) (pc' := 9) rfl (hb hby own_d9_2) rfl (XT.ii_gt_t hc2_23) (by decide) (by decide) ht) ?_
    refine own_step (U' := (s₁.setTop (mkF m 10 #[.val (.int p1), .val (.int p2)] [(.int p2)]))) (fun t ht => XS.iloadN X0.here hx rfl (hb hby own_d9_9) rfl ht) ?_
    refine own_ret X0 (v := (some (.int p2))) (fun h => by rw [Bd.returns] at h; cases h) Bd.notSynchronized (by decide) (by decide) ?_ (fun fs hr => retI X0 hx Bd.returns (hb hby own_d9_10) hr)
    show own_Q_min Z p1 p2 h0 n0 _ s₁.heap _
    rw [e0]
    refine ⟨?_, N0, rfl⟩
    simp [own_min, nar, hc2_23]
  ·
    refine own_step (U' := (s₁.setTop (mkF m 5 #[.val (.int p1), .val (.int p2)] []))) (fun t ht => XS.icmpNo X0.here hx rfl (hb hby own_d9_2) rfl (XT.ii_gt_f hc2_23) ht) ?_
    refine own_step (U' := (s₁.setTop (mkF m 6 #[.val (.int p1), .val (.int p2)] [(.int p1)]))) (fun t ht => XS.iloadN X0.here hx rfl (hb hby own_d9_5) rfl ht) ?_
    refine own_step (U' := (s₁.setTop (mkF m 10 #[.val (.int p1), .val (.int p2)] [(.int p1)]))) (fun t ht => XS.goto X0.here hx rfl (pc0 := 6) (pc' := 10) rfl (hb hby own_d9_6) (by decide) (by decide) ht) ?_
    refine own_ret X0 (v := (some (.int p1))) (fun h => by rw [Bd.returns] at h; cases h) Bd.notSynchronized (by decide) (by decide) ?_ (fun fs hr => retI X0 hx Bd.returns (hb hby own_d9_10) hr)
    show own_Q_min Z p1 p2 h0 n0 _ s₁.heap _
    rw [e0]
    refine ⟨?_, N0, rfl⟩
    simp [own_min, nar, hc2_23]
theorem own_pf2 : plainFor (⟨"java/lang/Math", "max", "(II)I"⟩ : MethodName) = true := by decide +kernel
theorem own_d10_0 : decode jdk_29_method_65_code 0 = .ok (.iload_n 0, 1) := by decide +kernel
theorem own_d10_1 : decode jdk_29_method_65_code 1 = .ok (.iload_n 1, 1) := by decide +kernel
theorem own_d10_2 : decode jdk_29_method_65_code 2 = .ok (.if_icmp .lt 7, 3) := by decide +kernel
theorem own_d10_5 : decode jdk_29_method_65_code 5 = .ok (.iload_n 0, 1) := by decide +kernel
theorem own_d10_6 : decode jdk_29_method_65_code 6 = .ok (.goto 4, 3) := by decide +kernel
theorem own_d10_9 : decode jdk_29_method_65_code 9 = .ok (.iload_n 1, 1) := by decide +kernel
theorem own_d10_10 : decode jdk_29_method_65_code 10 = .ok (.ireturn, 1) := by decide +kernel
def own_Q_max (Z : State) (p1 : Int32) (p2 : Int32) (h0 : Heap) (n0 : Nat) (v : Option Value) (h : Heap) (L : List Loc) : Prop := v = some (.int (own_max p1 p2)) ∧ Fr n0 L ∧ h = h0
set_option maxRecDepth 65536 in
set_option maxHeartbeats 40000000 in
theorem own_m_max (l : Launch) (Z : State) (a0 : Array Value) (hw : ∀ d ∈ tables_1, d.before a0 Z = true) (ws : List Jvm.Cond) (p1 : Int32) (p2 : Int32) (h0 : Heap) (n0 : Nat) (Z0 : n0 ≤ h0.size)  :
    MetFree l (⟨"java/lang/Math", "max", "(II)I"⟩ : MethodName) (head1 (Jvm.Cond.code (⟨"java/lang/Math", "max", "(II)I"⟩ : MethodName) jdk_29_method_65_code 2 (some .int) :: ws) ({ frames := 0, cells := 0, slots := 0, locals := 0 } : Room)) (fun a U => a = #[(.int p1), (.int p2)] ∧ Z.Warmed39 U.vm ∧ U.heap = h0) (fun _ _ _ _ _ => True) (fun _ U o U' => ∃ v L, o = .returned v ∧ own_Q_max Z p1 p2 h0 n0 v U'.heap L ∧ FrameEnd U o U' L ({ frames := 0, cells := 0, slots := 0, locals := 0 } : Room).cells ({ frames := 0, cells := 0, slots := 0, locals := 0 } : Room).slots) := by
  refine MetFree.of_bodySF own_pf2 hisR ?_
  intro p e s m args below meth c s₁ Bd hml0 hP hK
  obtain ⟨rfl, hZ, hh⟩ := hP
  have hx := Bd.exec
  have hby := Bd.bytes
  have hml : c.maxLocals = 2 := hml0
  have hown : s.vm.findClass "java/lang/Math" = some m.cls := findClass_of_methodNamed Bd.named
  have hnm := (name_of_methodNamed Bd.named Bd.method).1
  have X0 : Stand p l e ({ frames := 0, cells := 0, slots := 0, locals := 0 } : Room) s m #[(.int p1), (.int p2)] below meth c s₁ [] 0 0 := Stand.of_body Bd
  have e0 : s₁.heap = h0 := by rw [← hh, Bd.state]; rfl
  have N0 := Fr.nil n0
  have K0 : Keep h0 h0 [] := Keep.refl _ _
  show own_Go p e below s ({ frames := 0, cells := 0, slots := 0, locals := 0 } : Room).cells ({ frames := 0, cells := 0, slots := 0, locals := 0 } : Room).slots (own_Q_max Z p1 p2 h0 n0) (s₁.setTop (entryFrame m #[(.int p1), (.int p2)] 2))
  have ef : entryFrame m #[(.int p1), (.int p2)] 2 = (mkF m 0 #[.val (.int p1), .val (.int p2)] []) := by first | (simp [entryFrame, mkF, argsToLocals, Value.category, maxLocals]; done) | rfl
  rw [ef]
  show own_Go p e below s _ _ _ (s₁.setTop (mkF m 0 #[.val (.int p1), .val (.int p2)] []))
  refine own_step (U' := (s₁.setTop (mkF m 1 #[.val (.int p1), .val (.int p2)] [(.int p1)]))) (fun t ht => XS.iloadN X0.here hx rfl (hb hby own_d10_0) rfl ht) ?_
  refine own_step (U' := (s₁.setTop (mkF m 2 #[.val (.int p1), .val (.int p2)] [(.int p2), (.int p1)]))) (fun t ht => XS.iloadN X0.here hx rfl (hb hby own_d10_1) rfl ht) ?_
  by_cases hc2_24 : p1 < p2
  ·
    refine own_step (U' := (s₁.setTop (mkF m 9 #[.val (.int p1), .val (.int p2)] []))) (fun t ht => XS.icmpYes X0.here hx rfl (pc0 := 2) (pc' := 9) rfl (hb hby own_d10_2) rfl (XT.ii_lt_t hc2_24) (by decide) (by decide) ht) ?_
    refine own_step (U' := (s₁.setTop (mkF m 10 #[.val (.int p1), .val (.int p2)] [(.int p2)]))) (fun t ht => XS.iloadN X0.here hx rfl (hb hby own_d10_9) rfl ht) ?_
    refine own_ret X0 (v := (some (.int p2))) (fun h => by rw [Bd.returns] at h; cases h) Bd.notSynchronized (by decide) (by decide) ?_ (fun fs hr => retI X0 hx Bd.returns (hb hby own_d10_10) hr)
    show own_Q_max Z p1 p2 h0 n0 _ s₁.heap _
    rw [e0]
    refine ⟨?_, N0, rfl⟩
    simp [own_max, nar, hc2_24]
  ·
    refine own_step (U' := (s₁.setTop (mkF m 5 #[.val (.int p1), .val (.int p2)] []))) (fun t ht => XS.icmpNo X0.here hx rfl (hb hby own_d10_2) rfl (XT.ii_lt_f hc2_24) ht) ?_
    refine own_step (U' := (s₁.setTop (mkF m 6 #[.val (.int p1), .val (.int p2)] [(.int p1)]))) (fun t ht => XS.iloadN X0.here hx rfl (hb hby own_d10_5) rfl ht) ?_
    refine own_step (U' := (s₁.setTop (mkF m 10 #[.val (.int p1), .val (.int p2)] [(.int p1)]))) (fun t ht => XS.goto X0.here hx rfl (pc0 := 6) (pc' := 10) rfl (hb hby own_d10_6) (by decide) (by decide) ht) ?_
    refine own_ret X0 (v := (some (.int p1))) (fun h => by rw [Bd.returns] at h; cases h) Bd.notSynchronized (by decide) (by decide) ?_ (fun fs hr => retI X0 hx Bd.returns (hb hby own_d10_10) hr)
    show own_Q_max Z p1 p2 h0 n0 _ s₁.heap _
    rw [e0]
    refine ⟨?_, N0, rfl⟩
    simp [own_max, nar, hc2_24]
theorem own_pn3 : plainName "com/example/version_parser/versionparser/DecimalDigits" = true := by first | (simp [plainName, overriddenIn]; done) | decide +kernel
theorem own_pd1 : parseMethodDescriptor "(I)C" = some ⟨[.int], some .char⟩ := by decide +kernel
theorem own_d11_0 : decode prog_2_method_2_code 0 = .ok (.iload_n 2, 1) := by decide +kernel
theorem own_d11_1 : decode prog_2_method_2_code 1 = .ok (.iload_n 1, 1) := by decide +kernel
theorem own_d11_2 : decode prog_2_method_2_code 2 = .ok (.isub, 1) := by decide +kernel
theorem own_d11_3 : decode prog_2_method_2_code 3 = .ok (.bipush 18, 2) := by decide +kernel
theorem own_d11_5 : decode prog_2_method_2_code 5 = .ok (.if_icmp .le 7, 3) := by decide +kernel
theorem own_d11_8 : decode prog_2_method_2_code 8 = .ok (.ldc2_w 11, 3) := by decide +kernel
theorem own_d11_11 : decode prog_2_method_2_code 11 = .ok (.lreturn, 1) := by decide +kernel
theorem own_d11_12 : decode prog_2_method_2_code 12 = .ok (.lconst 0, 1) := by decide +kernel
theorem own_d11_13 : decode prog_2_method_2_code 13 = .ok (.lstore_n 3, 1) := by decide +kernel
theorem own_d11_14 : decode prog_2_method_2_code 14 = .ok (.iload_n 1, 1) := by decide +kernel
theorem own_d11_15 : decode prog_2_method_2_code 15 = .ok (.istore 5, 2) := by decide +kernel
theorem own_d11_17 : decode prog_2_method_2_code 17 = .ok (.iload 5, 2) := by decide +kernel
theorem own_d11_19 : decode prog_2_method_2_code 19 = .ok (.iload_n 2, 1) := by decide +kernel
theorem own_d11_20 : decode prog_2_method_2_code 20 = .ok (.if_icmp .ge 26, 3) := by decide +kernel
theorem own_d11_23 : decode prog_2_method_2_code 23 = .ok (.lload_n 3, 1) := by decide +kernel
theorem own_d11_24 : decode prog_2_method_2_code 24 = .ok (.ldc2_w 13, 3) := by decide +kernel
theorem own_d11_27 : decode prog_2_method_2_code 27 = .ok (.lmul, 1) := by decide +kernel
theorem own_d11_28 : decode prog_2_method_2_code 28 = .ok (.aload_n 0, 1) := by decide +kernel
theorem own_d11_29 : decode prog_2_method_2_code 29 = .ok (.iload 5, 2) := by decide +kernel
theorem own_d11_31 : decode prog_2_method_2_code 31 = .ok (.invokevirtual 15, 3) := by decide +kernel
theorem own_d11_34 : decode prog_2_method_2_code 34 = .ok (.bipush 48, 2) := by decide +kernel
theorem own_d11_36 : decode prog_2_method_2_code 36 = .ok (.isub, 1) := by decide +kernel
theorem own_d11_37 : decode prog_2_method_2_code 37 = .ok (.i2l, 1) := by decide +kernel
theorem own_d11_38 : decode prog_2_method_2_code 38 = .ok (.ladd, 1) := by decide +kernel
theorem own_d11_39 : decode prog_2_method_2_code 39 = .ok (.lstore_n 3, 1) := by decide +kernel
theorem own_d11_40 : decode prog_2_method_2_code 40 = .ok (.iinc 5 1, 3) := by decide +kernel
theorem own_d11_43 : decode prog_2_method_2_code 43 = .ok (.goto (-26), 3) := by decide +kernel
theorem own_d11_46 : decode prog_2_method_2_code 46 = .ok (.lload_n 3, 1) := by decide +kernel
theorem own_d11_47 : decode prog_2_method_2_code 47 = .ok (.lreturn, 1) := by decide +kernel
def own_Q_dv (Z : State) (a1 : Addr) (p2 : Int32) (p3 : Int32) (t1 : Addr) (kb : ClassId) (cs : List Int32) (M : Nat) (sn : Nat) (en : Nat) (cz : Int32) (fm : Value) (h0 : Heap) (n0 : Nat) (v : Option Value) (h : Heap) (L : List Loc) : Prop := v = some (.long (own_vv M sn en)) ∧ Fr n0 L ∧ Keep h0 h []
set_option maxRecDepth 65536 in
set_option maxHeartbeats 40000000 in
theorem own_m_dv (l : Launch) (Z : State) (a0 : Array Value) (hw : ∀ d ∈ tables_1, d.before a0 Z = true) (ws : List Jvm.Cond) (a1 : Addr) (p2 : Int32) (p3 : Int32) (t1 : Addr) (kb : ClassId) (cs : List Int32) (M : Nat) (sn : Nat) (en : Nat) (cz : Int32) (fm : Value) (h0 : Heap) (n0 : Nat) (Z0 : n0 ≤ h0.size) (E1 : Exa Z h0 a1 "java/lang/String") (Fv : Fld Z h0 a1 "java/lang/String" "value" "[B" (.ref t1)) (Fc : Fld Z h0 a1 "java/lang/String" "coder" "B" (.int (0 : Int32))) (Vb : Arv Z h0 t1 kb .byte (20 : Int32) ((cs.map (fun c => c.toInt8.toInt32)).map Value.int) (.int (0 : Int32))) (S_cz : Sta Z h0 "java/lang/String" "COMPACT_STRINGS" "Z" (.int cz)) (S_fm : Sta Z h0 "jdk/internal/util/Preconditions" "SIOOBE_FORMATTER" "Ljava/util/function/BiFunction;" fm) (hcz : ¬ cz = 0) (hfm : fm.isRef = true) (hlen : cs.length = 20) (hdig : ∀ i, i < 20 → cs.getD i 0 = own_dgN M i) (hp : ∀ c ∈ cs, ¬ c < 0 ∧ ¬ (255 : Int32) < c) (hs : p2.toInt = (sn : Int)) (he : p3.toInt = (en : Int)) (hse : sn ≤ en) (he2 : en ≤ 20) :
    MetFree l (⟨"com/example/version_parser/versionparser/DecimalDigits", "value", "(Ljava/lang/String;II)J"⟩ : MethodName) (head1 (Jvm.Cond.code (⟨"com/example/version_parser/versionparser/DecimalDigits", "value", "(Ljava/lang/String;II)J"⟩ : MethodName) prog_2_method_2_code 6 (some .long) :: ws) ({ frames := 4, cells := 0, slots := 0, locals := 55 } : Room)) (fun a U => a = #[(.ref a1), (.int p2), (.int p3)] ∧ Z.Warmed39 U.vm ∧ U.heap = h0) (fun _ _ _ _ _ => True) (fun _ U o U' => ∃ v L, o = .returned v ∧ own_Q_dv Z a1 p2 p3 t1 kb cs M sn en cz fm h0 n0 v U'.heap L ∧ FrameEnd U o U' L ({ frames := 4, cells := 0, slots := 0, locals := 55 } : Room).cells ({ frames := 4, cells := 0, slots := 0, locals := 55 } : Room).slots) := by
  refine MetFree.of_bodySF (plainFor_of_name own_pn3) hisR ?_
  intro p e s m args below meth c s₁ Bd hml0 hP hK
  obtain ⟨rfl, hZ, hh⟩ := hP
  have hx := Bd.exec
  have hby := Bd.bytes
  have hml : c.maxLocals = 6 := hml0
  have hown : s.vm.findClass "com/example/version_parser/versionparser/DecimalDigits" = some m.cls := findClass_of_methodNamed Bd.named
  have hnm := (name_of_methodNamed Bd.named Bd.method).1
  have X0 : Stand p l e ({ frames := 4, cells := 0, slots := 0, locals := 55 } : Room) s m #[(.ref a1), (.int p2), (.int p3)] below meth c s₁ [] 0 0 := Stand.of_body Bd
  have e0 : s₁.heap = h0 := by rw [← hh, Bd.state]; rfl
  have N0 := Fr.nil n0
  have K0 : Keep h0 h0 [] := Keep.refl _ _
  show own_Go p e below s ({ frames := 4, cells := 0, slots := 0, locals := 55 } : Room).cells ({ frames := 4, cells := 0, slots := 0, locals := 55 } : Room).slots (own_Q_dv Z a1 p2 p3 t1 kb cs M sn en cz fm h0 n0) (s₁.setTop (entryFrame m #[(.ref a1), (.int p2), (.int p3)] 6))
  have ef : entryFrame m #[(.ref a1), (.int p2), (.int p3)] 6 = (mkF m 0 #[.val (.ref a1), .val (.int p2), .val (.int p3), .unset, .unset, .unset] []) := by first | (simp [entryFrame, mkF, argsToLocals, Value.category, maxLocals]; done) | rfl
  rw [ef]
  have own_hch : ∀ d ∈ StrChars.Road.wordsChN, d.before a0 Z = true := fun d hd => hw d ((by decide +kernel : ∀ d ∈ StrChars.Road.wordsChN, d ∈ tables_1) d hd)
  show own_Go p e below s _ _ _ (s₁.setTop (mkF m 0 #[.val (.ref a1), .val (.int p2), .val (.int p3), .unset, .unset, .unset] []))
  have hcd : StrChars.Road.CodA cs 0 (20 : Int32) ((cs.map (fun c => c.toInt8.toInt32)).map Value.int) := StrChars.Road.codOf (n := 20) hlen (fun x hx => (hp x hx).2)
  have hbd : ∀ x ∈ cs, ¬ x < 0 ∧ ¬ (65535 : Int32) < x := fun x hx => own_up (hp x hx)
  refine own_step (U' := (s₁.setTop (mkF m 1 #[.val (.ref a1), .val (.int p2), .val (.int p3), .unset, .unset, .unset] [(.int p3)]))) (fun t ht => XS.iloadN X0.here hx rfl (hb hby own_d11_0) rfl ht) ?_
  refine own_step (U' := (s₁.setTop (mkF m 2 #[.val (.ref a1), .val (.int p2), .val (.int p3), .unset, .unset, .unset] [(.int p2), (.int p3)]))) (fun t ht => XS.iloadN X0.here hx rfl (hb hby own_d11_1) rfl ht) ?_
  refine own_step (U' := (s₁.setTop (mkF m 3 #[.val (.ref a1), .val (.int p2), .val (.int p3), .unset, .unset, .unset] [(.int (p3 - p2))]))) (fun t ht => XS.isub X0.here hx rfl (hb hby own_d11_2) rfl ht) ?_
  refine own_step (U' := (s₁.setTop (mkF m 5 #[.val (.ref a1), .val (.int p2), .val (.int p3), .unset, .unset, .unset] [(.int (18 : Int32)), (.int (p3 - p2))]))) (fun t ht => XS.bipush X0.here hx rfl (hb hby own_d11_3) ht) ?_
  by_cases hc5_25 : (18 : Int32) < (p3 - p2)
  ·
    refine own_step (U' := (s₁.setTop (mkF m 8 #[.val (.ref a1), .val (.int p2), .val (.int p3), .unset, .unset, .unset] []))) (fun t ht => XS.icmpNo X0.here hx rfl (hb hby own_d11_5) rfl (XT.ii_le_f hc5_25) ht) ?_
    refine own_step (U' := (s₁.setTop (mkF m 11 #[.val (.ref a1), .val (.int p2), .val (.int p3), .unset, .unset, .unset] [(.long (9223372036854775807 : Int64))]))) (fun t ht => X0.ldc2Long hx hown (mvT hZ (hw _ (List.mem_of_getElem? (i := 92) rfl))) (g := (mkF m 8 #[.val (.ref a1), .val (.int p2), .val (.int p3), .unset, .unset, .unset] [])) rfl (hb hby own_d11_8) _ ht) ?_
    refine own_ret X0 (v := (some (.long (9223372036854775807 : Int64)))) (fun h => by rw [Bd.returns] at h; cases h) Bd.notSynchronized (by decide) (by decide) ?_ (fun fs hr => retOut X0 hx (t := .long) Bd.returns rfl (Or.inr (Or.inl ⟨rfl, rfl, _, rfl⟩)) (hb hby own_d11_11) hr)
    show own_Q_dv Z a1 p2 p3 t1 kb cs M sn en cz fm h0 n0 _ s₁.heap _
    rw [e0]
    refine ⟨?_, N0, K0⟩
    rw [own_vv_big ((own_gt18 hs he hse he2).mp hc5_25)]
  ·
    refine own_step (U' := (s₁.setTop (mkF m 12 #[.val (.ref a1), .val (.int p2), .val (.int p3), .unset, .unset, .unset] []))) (fun t ht => XS.icmpYes X0.here hx rfl (pc0 := 5) (pc' := 12) rfl (hb hby own_d11_5) rfl (XT.ii_le_t hc5_25) (by decide) (by decide) ht) ?_
    refine own_step (U' := (s₁.setTop (mkF m 13 #[.val (.ref a1), .val (.int p2), .val (.int p3), .unset, .unset, .unset] [(.long (0 : Int64))]))) (fun t ht => XT.lconstV X0.here hx rfl (0 : Int64) (hb hby own_d11_12) rfl ht) ?_
    refine own_step (U' := (s₁.setTop (mkF m 14 #[.val (.ref a1), .val (.int p2), .val (.int p3), .val (.long (0 : Int64)), .second, .unset] []))) (fun t ht => XT.lstoreN X0.here hx rfl (hb hby own_d11_13) rfl (l' := #[.val (.ref a1), .val (.int p2), .val (.int p3), .val (.long (0 : Int64)), .second, .unset]) rfl ht) ?_
    refine own_step (U' := (s₁.setTop (mkF m 15 #[.val (.ref a1), .val (.int p2), .val (.int p3), .val (.long (0 : Int64)), .second, .unset] [(.int p2)]))) (fun t ht => XS.iloadN X0.here hx rfl (hb hby own_d11_14) rfl ht) ?_
    refine own_step (U' := (s₁.setTop (mkF m 17 #[.val (.ref a1), .val (.int p2), .val (.int p3), .val (.long (0 : Int64)), .second, .val (.int p2)] []))) (fun t ht => XS.istore X0.here hx rfl (hb hby own_d11_15) rfl (l' := #[.val (.ref a1), .val (.int p2), .val (.int p3), .val (.long (0 : Int64)), .second, .val (.int p2)]) rfl ht) ?_
    have hgt : ¬ 18 < en - sn := fun q => hc5_25 ((own_gt18 hs he hse he2).mpr q)
    have loop : ∀ (k : Nat) (i : Nat) (i5 : Int32) (T_ : State) (L_ : List Loc) (X_ : Stand p l e ({ frames := 4, cells := 0, slots := 0, locals := 55 } : Room) s m #[(.ref a1), (.int p2), (.int p3)] below meth c T_ L_ 0 0) (N_ : Fr n0 L_) (K_ : Keep h0 T_.heap []) (f_0 : Exa Z T_.heap a1 "java/lang/String") (f_1 : Fld Z T_.heap a1 "java/lang/String" "value" "[B" (.ref t1)) (f_2 : Fld Z T_.heap a1 "java/lang/String" "coder" "B" (.int (0 : Int32))) (f_3 : Arv Z T_.heap t1 kb .byte (20 : Int32) ((cs.map (fun c => c.toInt8.toInt32)).map Value.int) (.int (0 : Int32))) (f_4 : Sta Z T_.heap "java/lang/String" "COMPACT_STRINGS" "Z" (.int cz)) (f_5 : Sta Z T_.heap "jdk/internal/util/Preconditions" "SIOOBE_FORMATTER" "Ljava/util/function/BiFunction;" fm) (hi5 : i5.toInt = (i : Int)) (hsi : sn ≤ i) (hik : i + k = en), own_Go p e below s ({ frames := 4, cells := 0, slots := 0, locals := 55 } : Room).cells ({ frames := 4, cells := 0, slots := 0, locals := 55 } : Room).slots (own_Q_dv Z a1 p2 p3 t1 kb cs M sn en cz fm h0 n0) (T_.setTop (mkF m 17 #[.val (.ref a1), .val (.int p2), .val (.int p3), .val (.long (Int64.ofNat (own_w M sn i))), .second, .val (.int i5)] [])) := by
      intro k
      induction k with
      | zero =>
        intro i i5 T_ L_ X_ N_ K_ f_0 f_1 f_2 f_3 f_4 f_5 hi5 hsi hik
        refine own_step (U' := (T_.setTop (mkF m 19 #[.val (.ref a1), .val (.int p2), .val (.int p3), .val (.long (Int64.ofNat (own_w M sn i))), .second, .val (.int i5)] [(.int i5)]))) (fun t ht => XS.iload X_.here hx rfl (hb hby own_d11_17) rfl ht) ?_
        refine own_step (U' := (T_.setTop (mkF m 20 #[.val (.ref a1), .val (.int p2), .val (.int p3), .val (.long (Int64.ofNat (own_w M sn i))), .second, .val (.int i5)] [(.int p3), (.int i5)]))) (fun t ht => XS.iloadN X_.here hx rfl (hb hby own_d11_19) rfl ht) ?_
        refine own_step (U' := (T_.setTop (mkF m 46 #[.val (.ref a1), .val (.int p2), .val (.int p3), .val (.long (Int64.ofNat (own_w M sn i))), .second, .val (.int i5)] []))) (fun t ht => XS.icmpYes X_.here hx rfl (pc0 := 20) (pc' := 46) rfl (hb hby own_d11_20) rfl (XT.ii_ge_t ((fun q => absurd ((own_lti hi5 he).mp q) (by omega)) : ¬ (i5 < p3))) (by decide) (by decide) ht) ?_
        refine own_step (U' := (T_.setTop (mkF m 47 #[.val (.ref a1), .val (.int p2), .val (.int p3), .val (.long (Int64.ofNat (own_w M sn i))), .second, .val (.int i5)] [(.long (Int64.ofNat (own_w M sn i)))]))) (fun t ht => XT.lloadN X_.here hx rfl (hb hby own_d11_46) rfl ht) ?_
        refine own_ret X_ (v := (some (.long (Int64.ofNat (own_w M sn i))))) (fun h => by rw [Bd.returns] at h; cases h) Bd.notSynchronized (by decide) (by decide) ?_ (fun fs hr => retOut X_ hx (t := .long) Bd.returns rfl (Or.inr (Or.inl ⟨rfl, rfl, _, rfl⟩)) (hb hby own_d11_47) hr)
        show own_Q_dv Z a1 p2 p3 t1 kb cs M sn en cz fm h0 n0 _ T_.heap _
        show own_Q_dv Z a1 p2 p3 t1 kb cs M sn en cz fm h0 n0 _ T_.heap _
        refine ⟨?_, N_, K_⟩
        have hie : i = en := by omega
        subst hie
        unfold own_vv
        rw [if_neg hgt]
      | succ k ih =>
        intro i i5 T_ L_ X_ N_ K_ f_0 f_1 f_2 f_3 f_4 f_5 hi5 hsi hik
        refine own_step (U' := (T_.setTop (mkF m 19 #[.val (.ref a1), .val (.int p2), .val (.int p3), .val (.long (Int64.ofNat (own_w M sn i))), .second, .val (.int i5)] [(.int i5)]))) (fun t ht => XS.iload X_.here hx rfl (hb hby own_d11_17) rfl ht) ?_
        refine own_step (U' := (T_.setTop (mkF m 20 #[.val (.ref a1), .val (.int p2), .val (.int p3), .val (.long (Int64.ofNat (own_w M sn i))), .second, .val (.int i5)] [(.int p3), (.int i5)]))) (fun t ht => XS.iloadN X_.here hx rfl (hb hby own_d11_19) rfl ht) ?_
        refine own_step (U' := (T_.setTop (mkF m 23 #[.val (.ref a1), .val (.int p2), .val (.int p3), .val (.long (Int64.ofNat (own_w M sn i))), .second, .val (.int i5)] []))) (fun t ht => XS.icmpNo X_.here hx rfl (hb hby own_d11_20) rfl (XT.ii_ge_f (((own_lti hi5 he).mpr (by omega)) : i5 < p3)) ht) ?_
        refine own_step (U' := (T_.setTop (mkF m 24 #[.val (.ref a1), .val (.int p2), .val (.int p3), .val (.long (Int64.ofNat (own_w M sn i))), .second, .val (.int i5)] [(.long (Int64.ofNat (own_w M sn i)))]))) (fun t ht => XT.lloadN X_.here hx rfl (hb hby own_d11_23) rfl ht) ?_
        refine own_step (U' := (T_.setTop (mkF m 27 #[.val (.ref a1), .val (.int p2), .val (.int p3), .val (.long (Int64.ofNat (own_w M sn i))), .second, .val (.int i5)] [(.long (10 : Int64)), (.long (Int64.ofNat (own_w M sn i)))]))) (fun t ht => X_.ldc2Long hx hown (mvT hZ (hw _ (List.mem_of_getElem? (i := 69) rfl))) (g := (mkF m 24 #[.val (.ref a1), .val (.int p2), .val (.int p3), .val (.long (Int64.ofNat (own_w M sn i))), .second, .val (.int i5)] [(.long (Int64.ofNat (own_w M sn i)))])) rfl (hb hby own_d11_24) _ ht) ?_
        refine own_step (U' := (T_.setTop (mkF m 28 #[.val (.ref a1), .val (.int p2), .val (.int p3), .val (.long (Int64.ofNat (own_w M sn i))), .second, .val (.int i5)] [(.long ((Int64.ofNat (own_w M sn i)) * (10 : Int64)))]))) (fun t ht => XT.lmul X_.here hx rfl (hb hby own_d11_27) rfl ht) ?_
        refine own_step (U' := (T_.setTop (mkF m 29 #[.val (.ref a1), .val (.int p2), .val (.int p3), .val (.long (Int64.ofNat (own_w M sn i))), .second, .val (.int i5)] [(.ref a1), (.long ((Int64.ofNat (own_w M sn i)) * (10 : Int64)))]))) (fun t ht => XS.aloadN X_.here hx rfl (hb hby own_d11_28) rfl rfl ht) ?_
        refine own_step (U' := (T_.setTop (mkF m 31 #[.val (.ref a1), .val (.int p2), .val (.int p3), .val (.long (Int64.ofNat (own_w M sn i))), .second, .val (.int i5)] [(.int i5), (.ref a1), (.long ((Int64.ofNat (own_w M sn i)) * (10 : Int64)))]))) (fun t ht => XS.iload X_.here hx rfl (hb hby own_d11_29) rfl ht) ?_
        obtain ⟨cq26, kq26, q26a, q26b, q26c⟩ := isOf hZ rfl f_0
        obtain ⟨_, _, ⟨T26, L26, k26, n26⟩, -, X26, ⟨Lc26, hQ26, l26, y26, z26⟩, st26⟩ := X_.virtualBack hx (y := (⟨"java/lang/String", "charAt", "(I)C"⟩ : MethodName)) (z := (⟨"java/lang/String", "charAt", "(I)C"⟩ : MethodName)) hown (mvT hZ (hw _ (List.mem_of_getElem? (i := 70) rfl))) (mvT hZ (hw _ (List.mem_of_getElem? (i := 71) rfl))) (notFace_of_selects (args := #[]) (mvT hZ (hw _ (List.mem_of_getElem? (i := 73) rfl)))) (mvT hZ (hw _ (List.mem_of_getElem? (i := 73) rfl))) (mvT hZ (hw _ (List.mem_of_getElem? (i := 72) rfl))) (by decide) (StrChars.Road.chN (W := 2) hZ own_hch (kI := 4) (hw _ (List.mem_of_getElem? (i := 30) rfl)) f_0 f_1 f_2 f_3 hcd hbd f_4 hcz f_5 hfm (by omega) (i := i) (by omega) (j := i5) (own_ofi hi5) (by decide) (by decide)) q26a q26c (g := (mkF m 31 #[.val (.ref a1), .val (.int p2), .val (.int p3), .val (.long (Int64.ofNat (own_w M sn i))), .second, .val (.int i5)] [(.int i5), (.ref a1), (.long ((Int64.ofNat (own_w M sn i)) * (10 : Int64)))])) rfl (by rw [hml]; rfl) (Steps.refl _) (argsL := [(.int i5)]) (rest := [(.long ((Int64.ofNat (own_w M sn i)) * (10 : Int64)))]) (lenOf own_pd1 rfl) rfl (by show 2 * 0 + _ ≤ _; exact Nat.le_of_eq rfl) (hb hby own_d11_31) (fun _ _ => ⟨rfl, rfl, (by decide : 0 + 0 ≤ _), (by decide : 0 + 0 ≤ _)⟩)
        dsimp only [Pt.U, Pt.locs, Pt.cells, Pt.slots] at X26 l26 y26 z26 st26 hQ26
        subst l26 y26 z26
        rw [hdig i (by omega)] at hQ26
        obtain ⟨rfl, hL26, e26⟩ := hQ26
        have N26 := Fr.app N_ (by rw [hL26]; exact Fr.nil n0 : Fr n0 Lc26)
        refine own_step (U' := (T26.setTop (mkF m 34 #[.val (.ref a1), .val (.int p2), .val (.int p3), .val (.long (Int64.ofNat (own_w M sn i))), .second, .val (.int i5)] [(.int (own_dgN M i)), (.long ((Int64.ofNat (own_w M sn i)) * (10 : Int64)))]))) (fun t ht => st26.trans ht) ?_
        refine own_step (U' := (T26.setTop (mkF m 36 #[.val (.ref a1), .val (.int p2), .val (.int p3), .val (.long (Int64.ofNat (own_w M sn i))), .second, .val (.int i5)] [(.int (48 : Int32)), (.int (own_dgN M i)), (.long ((Int64.ofNat (own_w M sn i)) * (10 : Int64)))]))) (fun t ht => XS.bipush X26.here hx rfl (hb hby own_d11_34) ht) ?_
        refine own_step (U' := (T26.setTop (mkF m 37 #[.val (.ref a1), .val (.int p2), .val (.int p3), .val (.long (Int64.ofNat (own_w M sn i))), .second, .val (.int i5)] [(.int ((own_dgN M i) - (48 : Int32))), (.long ((Int64.ofNat (own_w M sn i)) * (10 : Int64)))]))) (fun t ht => XS.isub X26.here hx rfl (hb hby own_d11_36) rfl ht) ?_
        refine own_step (U' := (T26.setTop (mkF m 38 #[.val (.ref a1), .val (.int p2), .val (.int p3), .val (.long (Int64.ofNat (own_w M sn i))), .second, .val (.int i5)] [(.long (((own_dgN M i) - (48 : Int32)).toInt64)), (.long ((Int64.ofNat (own_w M sn i)) * (10 : Int64)))]))) (fun t ht => XT.i2l X26.here hx rfl (hb hby own_d11_37) rfl ht) ?_
        refine own_step (U' := (T26.setTop (mkF m 39 #[.val (.ref a1), .val (.int p2), .val (.int p3), .val (.long (Int64.ofNat (own_w M sn i))), .second, .val (.int i5)] [(.long (((Int64.ofNat (own_w M sn i)) * (10 : Int64)) + (((own_dgN M i) - (48 : Int32)).toInt64)))]))) (fun t ht => XT.ladd X26.here hx rfl (hb hby own_d11_38) rfl ht) ?_
        refine own_step (U' := (T26.setTop (mkF m 40 #[.val (.ref a1), .val (.int p2), .val (.int p3), .val (.long (((Int64.ofNat (own_w M sn i)) * (10 : Int64)) + (((own_dgN M i) - (48 : Int32)).toInt64))), .second, .val (.int i5)] []))) (fun t ht => XT.lstoreN X26.here hx rfl (hb hby own_d11_39) rfl (l' := #[.val (.ref a1), .val (.int p2), .val (.int p3), .val (.long (((Int64.ofNat (own_w M sn i)) * (10 : Int64)) + (((own_dgN M i) - (48 : Int32)).toInt64))), .second, .val (.int i5)]) rfl ht) ?_
        refine own_step (U' := (T26.setTop (mkF m 43 #[.val (.ref a1), .val (.int p2), .val (.int p3), .val (.long (((Int64.ofNat (own_w M sn i)) * (10 : Int64)) + (((own_dgN M i) - (48 : Int32)).toInt64))), .second, .val (.int (i5 + (1 : Int32)))] []))) (fun t ht => XT.iincV X26.here hx rfl (1 : Int32) (hb hby own_d11_40) rfl rfl (l' := #[.val (.ref a1), .val (.int p2), .val (.int p3), .val (.long (((Int64.ofNat (own_w M sn i)) * (10 : Int64)) + (((own_dgN M i) - (48 : Int32)).toInt64))), .second, .val (.int (i5 + (1 : Int32)))]) rfl ht) ?_
        refine own_step (U' := (T26.setTop (mkF m 17 #[.val (.ref a1), .val (.int p2), .val (.int p3), .val (.long (((Int64.ofNat (own_w M sn i)) * (10 : Int64)) + (((own_dgN M i) - (48 : Int32)).toInt64))), .second, .val (.int (i5 + (1 : Int32)))] []))) (fun t ht => XS.goto X26.here hx rfl (pc0 := 43) (pc' := 17) rfl (hb hby own_d11_43) (by decide) (by decide) ht) ?_
        rw [own_acc_step hsi (by omega)]
        exact ih (i + 1) _ _ _ X26 N26 (by rw [e26]; exact K_) (by rw [e26]; exact f_0) (by rw [e26]; exact f_1) (by rw [e26]; exact f_2) (by rw [e26]; exact f_3) (by rw [e26]; exact f_4) (by rw [e26]; exact f_5) (own_inc hi5 (by omega)) (by omega) (by omega)
    have e00 : (0 : Int64) = Int64.ofNat (own_w M sn sn) := by rw [own_w0]; rfl
    rw [e00]
    exact loop (en - sn) sn _ _ _ X0 N0 (by rw [e0]; exact K0) (by rw [e0]; exact E1) (by rw [e0]; exact Fv) (by rw [e0]; exact Fc) (by rw [e0]; exact Vb) (by rw [e0]; exact S_cz) (by rw [e0]; exact S_fm) hs (Nat.le_refl _) (by omega)
theorem own_pd2 : parseMethodDescriptor "(JI)C" = some ⟨[.long, .int], some .char⟩ := by decide +kernel
theorem own_pd3 : parseMethodDescriptor "([C)V" = some ⟨[(.array .char)], none⟩ := by decide +kernel
theorem own_pd4 : parseMethodDescriptor "(Ljava/lang/String;II)J" = some ⟨[(.object "java/lang/String"), .int, .int], some .long⟩ := by decide +kernel
theorem own_pd5 : parseMethodDescriptor "(II)I" = some ⟨[.int, .int], some .int⟩ := by decide +kernel
def own_Q_law (Z : State) (p1 : Int64) (p2 : Int32) (p3 : Int32) (p4 : Int32) (cz : Int32) (fm : Value) (h0 : Heap) (n0 : Nat) (v : Option Value) (h : Heap) (L : List Loc) : Prop := v = some (.int 1) ∧ Fr n0 L
set_option maxRecDepth 65536 in
set_option maxHeartbeats 40000000 in
theorem own_m_law (l : Launch) (Z : State) (a0 : Array Value) (hw : ∀ d ∈ tables_1, d.before a0 Z = true) (ws : List Jvm.Cond) (p1 : Int64) (p2 : Int32) (p3 : Int32) (p4 : Int32) (cz : Int32) (fm : Value) (h0 : Heap) (n0 : Nat) (Z0 : n0 ≤ h0.size) (S_cz : Sta Z h0 "java/lang/String" "COMPACT_STRINGS" "Z" (.int cz)) (S_fm : Sta Z h0 "jdk/internal/util/Preconditions" "SIOOBE_FORMATTER" "Ljava/util/function/BiFunction;" fm) (hcz : ¬ cz = 0) (hfm : fm.isRef = true) :
    MetFree l x (head1 (Jvm.Cond.code x code maxLocals ret :: ws) room_1) (fun a U => a = #[(.long p1), (.int p2), (.int p3), (.int p4)] ∧ Z.Warmed39 U.vm ∧ U.heap = h0) (fun _ _ _ _ _ => True) (fun _ U o U' => ∃ v L, o = .returned v ∧ own_Q_law Z p1 p2 p3 p4 cz fm h0 n0 v U'.heap L ∧ FrameEnd U o U' L 26 481) := by
  refine MetFree.of_bodySF (plainFor_of_name own_pn0) hisR ?_
  intro p e s m args below meth c s₁ Bd hml0 hP hK
  obtain ⟨rfl, hZ, hh⟩ := hP
  have hx := Bd.exec
  have hby := Bd.bytes
  have hml : c.maxLocals = 22 := hml0
  have hown : s.vm.findClass "com/example/version_parser/versionparser/DecimalDigitsValuePinLaw" = some m.cls := findClass_of_methodNamed Bd.named
  have hnm := (name_of_methodNamed Bd.named Bd.method).1
  have X0 : Stand p l e room_1 s m #[(.long p1), (.int p2), (.int p3), (.int p4)] below meth c s₁ [] 0 0 := Stand.of_body Bd
  have e0 : s₁.heap = h0 := by rw [← hh, Bd.state]; rfl
  have N0 := Fr.nil n0
  have K0 : Keep h0 h0 [] := Keep.refl _ _
  show own_Go p e below s 26 481 (own_Q_law Z p1 p2 p3 p4 cz fm h0 n0) (s₁.setTop (entryFrame m #[(.long p1), (.int p2), (.int p3), (.int p4)] maxLocals))
  have ef : entryFrame m #[(.long p1), (.int p2), (.int p3), (.int p4)] maxLocals = (mkF m 0 #[.val (.long p1), .second, .val (.int p2), .val (.int p3), .val (.int p4), .unset, .unset, .unset, .unset, .unset, .unset, .unset, .unset, .unset, .unset, .unset, .unset, .unset, .unset, .unset, .unset, .unset] []) := by first | (simp [entryFrame, mkF, argsToLocals, Value.category, maxLocals]; done) | rfl
  rw [ef]
  have own_hws : ∀ d ∈ StrChars.Road.words, d.before a0 Z = true := fun d hd => hw d ((by decide +kernel : ∀ d ∈ StrChars.Road.words, d ∈ tables_1) d hd)
  show own_Go p e below s _ _ _ (s₁.setTop (mkF m 0 #[.val (.long p1), .second, .val (.int p2), .val (.int p3), .val (.int p4), .unset, .unset, .unset, .unset, .unset, .unset, .unset, .unset, .unset, .unset, .unset, .unset, .unset, .unset, .unset, .unset, .unset] []))
  refine own_step (U' := (s₁.setTop (mkF m 1 #[.val (.long p1), .second, .val (.int p2), .val (.int p3), .val (.int p4), .unset, .unset, .unset, .unset, .unset, .unset, .unset, .unset, .unset, .unset, .unset, .unset, .unset, .unset, .unset, .unset, .unset] [(.long p1)]))) (fun t ht => XT.lloadN X0.here hx rfl (hb hby at_0) rfl ht) ?_
  refine own_step (U' := (s₁.setTop (mkF m 4 #[.val (.long p1), .second, .val (.int p2), .val (.int p3), .val (.int p4), .unset, .unset, .unset, .unset, .unset, .unset, .unset, .unset, .unset, .unset, .unset, .unset, .unset, .unset, .unset, .unset, .unset] [(.long (9223372036854775807 : Int64)), (.long p1)]))) (fun t ht => X0.ldc2Long hx hown (mvT hZ (hw _ (List.mem_of_getElem? (i := 0) rfl))) (g := (mkF m 1 #[.val (.long p1), .second, .val (.int p2), .val (.int p3), .val (.int p4), .unset, .unset, .unset, .unset, .unset, .unset, .unset, .unset, .unset, .unset, .unset, .unset, .unset, .unset, .unset, .unset, .unset] [(.long p1)])) rfl (hb hby at_1) _ ht) ?_
  refine own_step (U' := (s₁.setTop (mkF m 5 #[.val (.long p1), .second, .val (.int p2), .val (.int p3), .val (.int p4), .unset, .unset, .unset, .unset, .unset, .unset, .unset, .unset, .unset, .unset, .unset, .unset, .unset, .unset, .unset, .unset, .unset] [(.long (p1 &&& (9223372036854775807 : Int64)))]))) (fun t ht => XT.land X0.here hx rfl (hb hby at_4) rfl ht) ?_
  refine own_step (U' := (s₁.setTop (mkF m 8 #[.val (.long p1), .second, .val (.int p2), .val (.int p3), .val (.int p4), .unset, .unset, .unset, .unset, .unset, .unset, .unset, .unset, .unset, .unset, .unset, .unset, .unset, .unset, .unset, .unset, .unset] [(.long (1000000000000000000 : Int64)), (.long (p1 &&& (9223372036854775807 : Int64)))]))) (fun t ht => X0.ldc2Long hx hown (mvT hZ (hw _ (List.mem_of_getElem? (i := 1) rfl))) (g := (mkF m 5 #[.val (.long p1), .second, .val (.int p2), .val (.int p3), .val (.int p4), .unset, .unset, .unset, .unset, .unset, .unset, .unset, .unset, .unset, .unset, .unset, .unset, .unset, .unset, .unset, .unset, .unset] [(.long (p1 &&& (9223372036854775807 : Int64)))])) rfl (hb hby at_5) _ ht) ?_
  refine own_step (U' := (s₁.setTop (mkF m 9 #[.val (.long p1), .second, .val (.int p2), .val (.int p3), .val (.int p4), .unset, .unset, .unset, .unset, .unset, .unset, .unset, .unset, .unset, .unset, .unset, .unset, .unset, .unset, .unset, .unset, .unset] [(.long (own_lrem (p1 &&& (9223372036854775807 : Int64)) (1000000000000000000 : Int64)))]))) (fun t ht => XT.lrem X0.here hx rfl (hb hby at_8) rfl (by decide) ht) ?_
  refine own_step (U' := (s₁.setTop (mkF m 11 #[.val (.long p1), .second, .val (.int p2), .val (.int p3), .val (.int p4), .val (.long (own_lrem (p1 &&& (9223372036854775807 : Int64)) (1000000000000000000 : Int64))), .second, .unset, .unset, .unset, .unset, .unset, .unset, .unset, .unset, .unset, .unset, .unset, .unset, .unset, .unset, .unset] []))) (fun t ht => XT.lstore X0.here hx rfl (hb hby at_9) rfl (l' := #[.val (.long p1), .second, .val (.int p2), .val (.int p3), .val (.int p4), .val (.long (own_lrem (p1 &&& (9223372036854775807 : Int64)) (1000000000000000000 : Int64))), .second, .unset, .unset, .unset, .unset, .unset, .unset, .unset, .unset, .unset, .unset, .unset, .unset, .unset, .unset, .unset]) rfl ht) ?_
  generalize h_nn : (own_lrem (p1 &&& (9223372036854775807 : Int64)) (1000000000000000000 : Int64)) = nn
  obtain ⟨N, rfl, hN⟩ := own_nn h_nn
  refine own_step (U' := (s₁.setTop (mkF m 12 #[.val (.long p1), .second, .val (.int p2), .val (.int p3), .val (.int p4), .val (.long (Int64.ofNat N)), .second, .unset, .unset, .unset, .unset, .unset, .unset, .unset, .unset, .unset, .unset, .unset, .unset, .unset, .unset, .unset] [(.int p2)]))) (fun t ht => XS.iloadN X0.here hx rfl (hb hby at_11) rfl ht) ?_
  refine own_step (U' := (s₁.setTop (mkF m 14 #[.val (.long p1), .second, .val (.int p2), .val (.int p3), .val (.int p4), .val (.long (Int64.ofNat N)), .second, .unset, .unset, .unset, .unset, .unset, .unset, .unset, .unset, .unset, .unset, .unset, .unset, .unset, .unset, .unset] [(.int (2147483647 : Int32)), (.int p2)]))) (fun t ht => X0.ldcInt hx hown (mvT hZ (hw _ (List.mem_of_getElem? (i := 2) rfl))) (g := (mkF m 12 #[.val (.long p1), .second, .val (.int p2), .val (.int p3), .val (.int p4), .val (.long (Int64.ofNat N)), .second, .unset, .unset, .unset, .unset, .unset, .unset, .unset, .unset, .unset, .unset, .unset, .unset, .unset, .unset, .unset] [(.int p2)])) rfl (hb hby at_12) _ ht) ?_
  refine own_step (U' := (s₁.setTop (mkF m 15 #[.val (.long p1), .second, .val (.int p2), .val (.int p3), .val (.int p4), .val (.long (Int64.ofNat N)), .second, .unset, .unset, .unset, .unset, .unset, .unset, .unset, .unset, .unset, .unset, .unset, .unset, .unset, .unset, .unset] [(.int (p2 &&& (2147483647 : Int32)))]))) (fun t ht => XS.iand X0.here hx rfl (hb hby at_14) rfl ht) ?_
  refine own_step (U' := (s₁.setTop (mkF m 17 #[.val (.long p1), .second, .val (.int p2), .val (.int p3), .val (.int p4), .val (.long (Int64.ofNat N)), .second, .unset, .unset, .unset, .unset, .unset, .unset, .unset, .unset, .unset, .unset, .unset, .unset, .unset, .unset, .unset] [(.int (100 : Int32)), (.int (p2 &&& (2147483647 : Int32)))]))) (fun t ht => XS.bipush X0.here hx rfl (hb hby at_15) ht) ?_
  refine own_step (U' := (s₁.setTop (mkF m 18 #[.val (.long p1), .second, .val (.int p2), .val (.int p3), .val (.int p4), .val (.long (Int64.ofNat N)), .second, .unset, .unset, .unset, .unset, .unset, .unset, .unset, .unset, .unset, .unset, .unset, .unset, .unset, .unset, .unset] [(.int ((p2 &&& (2147483647 : Int32)) % (100 : Int32)))]))) (fun t ht => iremM X0 hx rfl (hb hby at_17) rfl (by decide) ht) ?_
  refine own_step (U' := (s₁.setTop (mkF m 20 #[.val (.long p1), .second, .val (.int p2), .val (.int p3), .val (.int p4), .val (.long (Int64.ofNat N)), .second, .val (.int ((p2 &&& (2147483647 : Int32)) % (100 : Int32))), .unset, .unset, .unset, .unset, .unset, .unset, .unset, .unset, .unset, .unset, .unset, .unset, .unset, .unset] []))) (fun t ht => XS.istore X0.here hx rfl (hb hby at_18) rfl (l' := #[.val (.long p1), .second, .val (.int p2), .val (.int p3), .val (.int p4), .val (.long (Int64.ofNat N)), .second, .val (.int ((p2 &&& (2147483647 : Int32)) % (100 : Int32))), .unset, .unset, .unset, .unset, .unset, .unset, .unset, .unset, .unset, .unset, .unset, .unset, .unset, .unset]) rfl ht) ?_
  generalize h_tt : ((p2 &&& (2147483647 : Int32)) % (100 : Int32)) = tt
  obtain ⟨TT, htt, hT⟩ := own_tt h_tt
  refine own_step (U' := (s₁.setTop (mkF m 22 #[.val (.long p1), .second, .val (.int p2), .val (.int p3), .val (.int p4), .val (.long (Int64.ofNat N)), .second, .val (.int tt), .unset, .unset, .unset, .unset, .unset, .unset, .unset, .unset, .unset, .unset, .unset, .unset, .unset, .unset] [(.int (20 : Int32))]))) (fun t ht => XS.bipush X0.here hx rfl (hb hby at_20) ht) ?_
  obtain ⟨T27, h27, k27, X27, e27, E27, A27, st27⟩ := newP X0 hx hZ (hw _ (List.mem_of_getElem? (i := 3) rfl)) e0 (g := (mkF m 22 #[.val (.long p1), .second, .val (.int p2), .val (.int p3), .val (.int p4), .val (.long (Int64.ofNat N)), .second, .val (.int tt), .unset, .unset, .unset, .unset, .unset, .unset, .unset, .unset, .unset, .unset, .unset, .unset, .unset, .unset] [(.int (20 : Int32))])) rfl (hb hby at_22) rfl (by decide) (cap := 20) (by decide) (by decide) (by decide) (by decide)
  obtain ⟨b27, g27⟩ : ∃ z, z = (h0).size := ⟨_, rfl⟩
  rw [← g27] at A27 st27
  have g_b27 : n0 ≤ b27 := Nat.le_trans (Nat.le_trans Z0 K0.1) (Nat.le_of_eq g27.symm)
  have sz_b27 : h0.size ≤ b27 := Nat.le_trans K0.1 (Nat.le_of_eq g27.symm)
  have f27_0 : Sta Z h27 "java/lang/String" "COMPACT_STRINGS" "Z" (.int cz) := S_cz.ext E27
  have f27_1 : Sta Z h27 "jdk/internal/util/Preconditions" "SIOOBE_FORMATTER" "Ljava/util/function/BiFunction;" fm := S_fm.ext E27
  have K27 : Keep h0 h27 [] := K0.ext E27
  have V27 : Arv Z h27 b27 k27 .char (20 : Int32) [(.int (0 : Int32)), (.int (0 : Int32)), (.int (0 : Int32)), (.int (0 : Int32)), (.int (0 : Int32)), (.int (0 : Int32)), (.int (0 : Int32)), (.int (0 : Int32)), (.int (0 : Int32)), (.int (0 : Int32)), (.int (0 : Int32)), (.int (0 : Int32)), (.int (0 : Int32)), (.int (0 : Int32)), (.int (0 : Int32)), (.int (0 : Int32)), (.int (0 : Int32)), (.int (0 : Int32)), (.int (0 : Int32)), (.int (0 : Int32))] (.int (0 : Int32)) := (Arv.new A27 (by decide)).pad (pad_rep [] (.int (0 : Int32)) 20)
  refine own_step (U' := (T27.setTop (mkF m 24 #[.val (.long p1), .second, .val (.int p2), .val (.int p3), .val (.int p4), .val (.long (Int64.ofNat N)), .second, .val (.int tt), .unset, .unset, .unset, .unset, .unset, .unset, .unset, .unset, .unset, .unset, .unset, .unset, .unset, .unset] [(.ref b27)]))) (fun t ht => st27 _ ht) ?_
  refine own_step (U' := (T27.setTop (mkF m 26 #[.val (.long p1), .second, .val (.int p2), .val (.int p3), .val (.int p4), .val (.long (Int64.ofNat N)), .second, .val (.int tt), .val (.ref b27), .unset, .unset, .unset, .unset, .unset, .unset, .unset, .unset, .unset, .unset, .unset, .unset, .unset] []))) (fun t ht => XS.astore X27.here hx rfl (hb hby at_24) rfl rfl (l' := #[.val (.long p1), .second, .val (.int p2), .val (.int p3), .val (.int p4), .val (.long (Int64.ofNat N)), .second, .val (.int tt), .val (.ref b27), .unset, .unset, .unset, .unset, .unset, .unset, .unset, .unset, .unset, .unset, .unset, .unset, .unset]) rfl ht) ?_
  refine own_step (U' := (T27.setTop (mkF m 28 #[.val (.long p1), .second, .val (.int p2), .val (.int p3), .val (.int p4), .val (.long (Int64.ofNat N)), .second, .val (.int tt), .val (.ref b27), .unset, .unset, .unset, .unset, .unset, .unset, .unset, .unset, .unset, .unset, .unset, .unset, .unset] [(.ref b27)]))) (fun t ht => XS.aload X27.here hx rfl (hb hby at_26) rfl rfl ht) ?_
  refine own_step (U' := (T27.setTop (mkF m 29 #[.val (.long p1), .second, .val (.int p2), .val (.int p3), .val (.int p4), .val (.long (Int64.ofNat N)), .second, .val (.int tt), .val (.ref b27), .unset, .unset, .unset, .unset, .unset, .unset, .unset, .unset, .unset, .unset, .unset, .unset, .unset] [(.int (0 : Int32)), (.ref b27)]))) (fun t ht => XS.iconst X27.here hx rfl (hb hby at_28) ht) ?_
  refine own_step (U' := (T27.setTop (mkF m 31 #[.val (.long p1), .second, .val (.int p2), .val (.int p3), .val (.int p4), .val (.long (Int64.ofNat N)), .second, .val (.int tt), .val (.ref b27), .unset, .unset, .unset, .unset, .unset, .unset, .unset, .unset, .unset, .unset, .unset, .unset, .unset] [(.long (Int64.ofNat N)), (.int (0 : Int32)), (.ref b27)]))) (fun t ht => XT.lload X27.here hx rfl (hb hby at_29) rfl ht) ?_
  refine own_step (U' := (T27.setTop (mkF m 33 #[.val (.long p1), .second, .val (.int p2), .val (.int p3), .val (.int p4), .val (.long (Int64.ofNat N)), .second, .val (.int tt), .val (.ref b27), .unset, .unset, .unset, .unset, .unset, .unset, .unset, .unset, .unset, .unset, .unset, .unset, .unset] [(.int (17 : Int32)), (.long (Int64.ofNat N)), (.int (0 : Int32)), (.ref b27)]))) (fun t ht => XS.bipush X27.here hx rfl (hb hby at_31) ht) ?_
  obtain ⟨_, _, ⟨T28, L28, k28, n28⟩, -, X28, ⟨Lc28, hQ28, l28, y28, z28⟩, st28⟩ := Jvm.LawKit.callS X27 hx (y := (⟨"com/example/version_parser/versionparser/DecimalDigitsValuePinLaw", "dig", "(JI)C"⟩ : MethodName)) hown (mvT hZ (hw _ (List.mem_of_getElem? (i := 4) rfl))) (mvT hZ (hw _ (List.mem_of_getElem? (i := 5) rfl))) (mvT hZ (hw _ (List.mem_of_getElem? (i := 6) rfl))) (mvT hZ (hw _ (List.mem_of_getElem? (i := 7) rfl))) (by decide) (backOf (W := 2) (own_m_dig l Z a0 hw [] ((Int64.ofNat N)) ((17 : Int32)) (17) h27 n0 (Nat.le_trans Z0 K27.1) ⟨rfl, by decide⟩) hZ (hw _ (List.mem_of_getElem? (i := 7) rfl)) (hw _ (List.mem_of_getElem? (i := 6) rfl)) (by decide) (by decide)) (g := (mkF m 33 #[.val (.long p1), .second, .val (.int p2), .val (.int p3), .val (.int p4), .val (.long (Int64.ofNat N)), .second, .val (.int tt), .val (.ref b27), .unset, .unset, .unset, .unset, .unset, .unset, .unset, .unset, .unset, .unset, .unset, .unset, .unset] [(.int (17 : Int32)), (.long (Int64.ofNat N)), (.int (0 : Int32)), (.ref b27)])) rfl (by rw [hml]; rfl) (argsL := [(.long (Int64.ofNat N)), (.int (17 : Int32))]) (rest := [(.int (0 : Int32)), (.ref b27)]) (lenOf own_pd2 rfl) rfl (by show 2 * 0 + _ ≤ _; exact Nat.le_of_eq rfl) (hb hby at_33) (fun _ _ => ⟨rfl, e27, (by decide : 1 + 1 ≤ _), (by decide : 20 + 19 ≤ _)⟩)
  dsimp only [Pt.U, Pt.locs, Pt.cells, Pt.slots] at X28 l28 y28 z28 st28 hQ28
  subst l28 y28 z28
  obtain ⟨rfl, Nq28, Kq28⟩ := hQ28
  have N28 := Fr.app N0 Nq28
  have f28_0 : Sta Z T28.heap "java/lang/String" "COMPACT_STRINGS" "Z" (.int cz) := own_sta_keep f27_0 Kq28 own_pl0
  have f28_1 : Sta Z T28.heap "jdk/internal/util/Preconditions" "SIOOBE_FORMATTER" "Ljava/util/function/BiFunction;" fm := own_sta_keep f27_1 Kq28 own_pl0
  have f28_2 : Arv Z T28.heap b27 k27 .char (20 : Int32) [(.int (0 : Int32)), (.int (0 : Int32)), (.int (0 : Int32)), (.int (0 : Int32)), (.int (0 : Int32)), (.int (0 : Int32)), (.int (0 : Int32)), (.int (0 : Int32)), (.int (0 : Int32)), (.int (0 : Int32)), (.int (0 : Int32)), (.int (0 : Int32)), (.int (0 : Int32)), (.int (0 : Int32)), (.int (0 : Int32)), (.int (0 : Int32)), (.int (0 : Int32)), (.int (0 : Int32)), (.int (0 : Int32)), (.int (0 : Int32))] (.int (0 : Int32)) := V27.keep Kq28 nin0
  have K28 : Keep h0 T28.heap [] := K27.trans Kq28 all0
  refine own_step (U' := (T28.setTop (mkF m 36 #[.val (.long p1), .second, .val (.int p2), .val (.int p3), .val (.int p4), .val (.long (Int64.ofNat N)), .second, .val (.int tt), .val (.ref b27), .unset, .unset, .unset, .unset, .unset, .unset, .unset, .unset, .unset, .unset, .unset, .unset, .unset] [(.int (own_dg (Int64.ofNat N) (17 : Int32))), (.int (0 : Int32)), (.ref b27)]))) (fun t ht => st28 _ ht) ?_
  obtain ⟨cl29, Ar29, q29, S29, N29_, H29, G29⟩ := (id f28_2)
  have hin29 : ¬ ((0 : Int32) < 0 ∨ cl29.slots.size ≤ ((0 : Int32)).toNatClampNeg) := inb_of S29 ⟨by decide, by decide⟩
  obtain ⟨T29, h29, X29, e29, W29, st29⟩ := stC X28 hx hZ rfl Ar29 (j := (0 : Int32)) hin29 (g := (mkF m 36 #[.val (.long p1), .second, .val (.int p2), .val (.int p3), .val (.int p4), .val (.long (Int64.ofNat N)), .second, .val (.int tt), .val (.ref b27), .unset, .unset, .unset, .unset, .unset, .unset, .unset, .unset, .unset, .unset, .unset, .unset, .unset] [(.int (own_dg (Int64.ofNat N) (17 : Int32))), (.int (0 : Int32)), (.ref b27)])) rfl rfl (hb hby at_36)
  have f29_0 : Sta Z h29 "java/lang/String" "COMPACT_STRINGS" "Z" (.int cz) := f28_0.wr W29
  have f29_1 : Sta Z h29 "jdk/internal/util/Preconditions" "SIOOBE_FORMATTER" "Ljava/util/function/BiFunction;" fm := f28_1.wr W29
  have V29 : Arv Z h29 b27 k27 .char (20 : Int32) [(.int ((own_dg (Int64.ofNat N) (17 : Int32)).toUInt32.toUInt16.toUInt32.toInt32)), (.int (0 : Int32)), (.int (0 : Int32)), (.int (0 : Int32)), (.int (0 : Int32)), (.int (0 : Int32)), (.int (0 : Int32)), (.int (0 : Int32)), (.int (0 : Int32)), (.int (0 : Int32)), (.int (0 : Int32)), (.int (0 : Int32)), (.int (0 : Int32)), (.int (0 : Int32)), (.int (0 : Int32)), (.int (0 : Int32)), (.int (0 : Int32)), (.int (0 : Int32)), (.int (0 : Int32)), (.int (0 : Int32))] (.int (0 : Int32)) := Arv.set Ar29 q29 S29 N29_ H29 G29 (fits_nar_char _) W29 0 rfl (Nat.le_of_ble_eq_true rfl)
  have N29 := Fr.snoc X29 N28 g_b27
  have K29 : Keep h0 h29 [] := K28.wr W29 (Or.inr sz_b27)
  refine own_step (U' := (T29.setTop (mkF m 37 #[.val (.long p1), .second, .val (.int p2), .val (.int p3), .val (.int p4), .val (.long (Int64.ofNat N)), .second, .val (.int tt), .val (.ref b27), .unset, .unset, .unset, .unset, .unset, .unset, .unset, .unset, .unset, .unset, .unset, .unset, .unset] []))) (fun t ht => st29 _ ht) ?_
  refine own_step (U' := (T29.setTop (mkF m 39 #[.val (.long p1), .second, .val (.int p2), .val (.int p3), .val (.int p4), .val (.long (Int64.ofNat N)), .second, .val (.int tt), .val (.ref b27), .unset, .unset, .unset, .unset, .unset, .unset, .unset, .unset, .unset, .unset, .unset, .unset, .unset] [(.ref b27)]))) (fun t ht => XS.aload X29.here hx rfl (hb hby at_37) rfl rfl ht) ?_
  refine own_step (U' := (T29.setTop (mkF m 40 #[.val (.long p1), .second, .val (.int p2), .val (.int p3), .val (.int p4), .val (.long (Int64.ofNat N)), .second, .val (.int tt), .val (.ref b27), .unset, .unset, .unset, .unset, .unset, .unset, .unset, .unset, .unset, .unset, .unset, .unset, .unset] [(.int (1 : Int32)), (.ref b27)]))) (fun t ht => XS.iconst X29.here hx rfl (hb hby at_39) ht) ?_
  refine own_step (U' := (T29.setTop (mkF m 42 #[.val (.long p1), .second, .val (.int p2), .val (.int p3), .val (.int p4), .val (.long (Int64.ofNat N)), .second, .val (.int tt), .val (.ref b27), .unset, .unset, .unset, .unset, .unset, .unset, .unset, .unset, .unset, .unset, .unset, .unset, .unset] [(.long (Int64.ofNat N)), (.int (1 : Int32)), (.ref b27)]))) (fun t ht => XT.lload X29.here hx rfl (hb hby at_40) rfl ht) ?_
  refine own_step (U' := (T29.setTop (mkF m 44 #[.val (.long p1), .second, .val (.int p2), .val (.int p3), .val (.int p4), .val (.long (Int64.ofNat N)), .second, .val (.int tt), .val (.ref b27), .unset, .unset, .unset, .unset, .unset, .unset, .unset, .unset, .unset, .unset, .unset, .unset, .unset] [(.int (16 : Int32)), (.long (Int64.ofNat N)), (.int (1 : Int32)), (.ref b27)]))) (fun t ht => XS.bipush X29.here hx rfl (hb hby at_42) ht) ?_
  obtain ⟨_, _, ⟨T30, L30, k30, n30⟩, -, X30, ⟨Lc30, hQ30, l30, y30, z30⟩, st30⟩ := Jvm.LawKit.callS X29 hx (y := (⟨"com/example/version_parser/versionparser/DecimalDigitsValuePinLaw", "dig", "(JI)C"⟩ : MethodName)) hown (mvT hZ (hw _ (List.mem_of_getElem? (i := 4) rfl))) (mvT hZ (hw _ (List.mem_of_getElem? (i := 5) rfl))) (mvT hZ (hw _ (List.mem_of_getElem? (i := 6) rfl))) (mvT hZ (hw _ (List.mem_of_getElem? (i := 7) rfl))) (by decide) (backOf (W := 2) (own_m_dig l Z a0 hw [] ((Int64.ofNat N)) ((16 : Int32)) (16) h29 n0 (Nat.le_trans Z0 K29.1) ⟨rfl, by decide⟩) hZ (hw _ (List.mem_of_getElem? (i := 7) rfl)) (hw _ (List.mem_of_getElem? (i := 6) rfl)) (by decide) (by decide)) (g := (mkF m 44 #[.val (.long p1), .second, .val (.int p2), .val (.int p3), .val (.int p4), .val (.long (Int64.ofNat N)), .second, .val (.int tt), .val (.ref b27), .unset, .unset, .unset, .unset, .unset, .unset, .unset, .unset, .unset, .unset, .unset, .unset, .unset] [(.int (16 : Int32)), (.long (Int64.ofNat N)), (.int (1 : Int32)), (.ref b27)])) rfl (by rw [hml]; rfl) (argsL := [(.long (Int64.ofNat N)), (.int (16 : Int32))]) (rest := [(.int (1 : Int32)), (.ref b27)]) (lenOf own_pd2 rfl) rfl (by show 2 * 0 + _ ≤ _; exact Nat.le_of_eq rfl) (hb hby at_44) (fun _ _ => ⟨rfl, e29, (by decide : 2 + 1 ≤ _), (by decide : 39 + 19 ≤ _)⟩)
  dsimp only [Pt.U, Pt.locs, Pt.cells, Pt.slots] at X30 l30 y30 z30 st30 hQ30
  subst l30 y30 z30
  obtain ⟨rfl, Nq30, Kq30⟩ := hQ30
  have N30 := Fr.app N29 Nq30
  have f30_0 : Sta Z T30.heap "java/lang/String" "COMPACT_STRINGS" "Z" (.int cz) := own_sta_keep f29_0 Kq30 own_pl0
  have f30_1 : Sta Z T30.heap "jdk/internal/util/Preconditions" "SIOOBE_FORMATTER" "Ljava/util/function/BiFunction;" fm := own_sta_keep f29_1 Kq30 own_pl0
  have f30_2 : Arv Z T30.heap b27 k27 .char (20 : Int32) [(.int ((own_dg (Int64.ofNat N) (17 : Int32)).toUInt32.toUInt16.toUInt32.toInt32)), (.int (0 : Int32)), (.int (0 : Int32)), (.int (0 : Int32)), (.int (0 : Int32)), (.int (0 : Int32)), (.int (0 : Int32)), (.int (0 : Int32)), (.int (0 : Int32)), (.int (0 : Int32)), (.int (0 : Int32)), (.int (0 : Int32)), (.int (0 : Int32)), (.int (0 : Int32)), (.int (0 : Int32)), (.int (0 : Int32)), (.int (0 : Int32)), (.int (0 : Int32)), (.int (0 : Int32)), (.int (0 : Int32))] (.int (0 : Int32)) := V29.keep Kq30 nin0
  have K30 : Keep h0 T30.heap [] := K29.trans Kq30 all0
  refine own_step (U' := (T30.setTop (mkF m 47 #[.val (.long p1), .second, .val (.int p2), .val (.int p3), .val (.int p4), .val (.long (Int64.ofNat N)), .second, .val (.int tt), .val (.ref b27), .unset, .unset, .unset, .unset, .unset, .unset, .unset, .unset, .unset, .unset, .unset, .unset, .unset] [(.int (own_dg (Int64.ofNat N) (16 : Int32))), (.int (1 : Int32)), (.ref b27)]))) (fun t ht => st30 _ ht) ?_
  obtain ⟨cl31, Ar31, q31, S31, N31_, H31, G31⟩ := (id f30_2)
  have hin31 : ¬ ((1 : Int32) < 0 ∨ cl31.slots.size ≤ ((1 : Int32)).toNatClampNeg) := inb_of S31 ⟨by decide, by decide⟩
  obtain ⟨T31, h31, X31, e31, W31, st31⟩ := stC X30 hx hZ rfl Ar31 (j := (1 : Int32)) hin31 (g := (mkF m 47 #[.val (.long p1), .second, .val (.int p2), .val (.int p3), .val (.int p4), .val (.long (Int64.ofNat N)), .second, .val (.int tt), .val (.ref b27), .unset, .unset, .unset, .unset, .unset, .unset, .unset, .unset, .unset, .unset, .unset, .unset, .unset] [(.int (own_dg (Int64.ofNat N) (16 : Int32))), (.int (1 : Int32)), (.ref b27)])) rfl rfl (hb hby at_47)
  have f31_0 : Sta Z h31 "java/lang/String" "COMPACT_STRINGS" "Z" (.int cz) := f30_0.wr W31
  have f31_1 : Sta Z h31 "jdk/internal/util/Preconditions" "SIOOBE_FORMATTER" "Ljava/util/function/BiFunction;" fm := f30_1.wr W31
  have V31 : Arv Z h31 b27 k27 .char (20 : Int32) [(.int ((own_dg (Int64.ofNat N) (17 : Int32)).toUInt32.toUInt16.toUInt32.toInt32)), (.int ((own_dg (Int64.ofNat N) (16 : Int32)).toUInt32.toUInt16.toUInt32.toInt32)), (.int (0 : Int32)), (.int (0 : Int32)), (.int (0 : Int32)), (.int (0 : Int32)), (.int (0 : Int32)), (.int (0 : Int32)), (.int (0 : Int32)), (.int (0 : Int32)), (.int (0 : Int32)), (.int (0 : Int32)), (.int (0 : Int32)), (.int (0 : Int32)), (.int (0 : Int32)), (.int (0 : Int32)), (.int (0 : Int32)), (.int (0 : Int32)), (.int (0 : Int32)), (.int (0 : Int32))] (.int (0 : Int32)) := Arv.set Ar31 q31 S31 N31_ H31 G31 (fits_nar_char _) W31 1 rfl (Nat.le_of_ble_eq_true rfl)
  have N31 := Fr.snoc X31 N30 g_b27
  have K31 : Keep h0 h31 [] := K30.wr W31 (Or.inr sz_b27)
  refine own_step (U' := (T31.setTop (mkF m 48 #[.val (.long p1), .second, .val (.int p2), .val (.int p3), .val (.int p4), .val (.long (Int64.ofNat N)), .second, .val (.int tt), .val (.ref b27), .unset, .unset, .unset, .unset, .unset, .unset, .unset, .unset, .unset, .unset, .unset, .unset, .unset] []))) (fun t ht => st31 _ ht) ?_
  refine own_step (U' := (T31.setTop (mkF m 50 #[.val (.long p1), .second, .val (.int p2), .val (.int p3), .val (.int p4), .val (.long (Int64.ofNat N)), .second, .val (.int tt), .val (.ref b27), .unset, .unset, .unset, .unset, .unset, .unset, .unset, .unset, .unset, .unset, .unset, .unset, .unset] [(.ref b27)]))) (fun t ht => XS.aload X31.here hx rfl (hb hby at_48) rfl rfl ht) ?_
  refine own_step (U' := (T31.setTop (mkF m 51 #[.val (.long p1), .second, .val (.int p2), .val (.int p3), .val (.int p4), .val (.long (Int64.ofNat N)), .second, .val (.int tt), .val (.ref b27), .unset, .unset, .unset, .unset, .unset, .unset, .unset, .unset, .unset, .unset, .unset, .unset, .unset] [(.int (2 : Int32)), (.ref b27)]))) (fun t ht => XS.iconst X31.here hx rfl (hb hby at_50) ht) ?_
  refine own_step (U' := (T31.setTop (mkF m 53 #[.val (.long p1), .second, .val (.int p2), .val (.int p3), .val (.int p4), .val (.long (Int64.ofNat N)), .second, .val (.int tt), .val (.ref b27), .unset, .unset, .unset, .unset, .unset, .unset, .unset, .unset, .unset, .unset, .unset, .unset, .unset] [(.long (Int64.ofNat N)), (.int (2 : Int32)), (.ref b27)]))) (fun t ht => XT.lload X31.here hx rfl (hb hby at_51) rfl ht) ?_
  refine own_step (U' := (T31.setTop (mkF m 55 #[.val (.long p1), .second, .val (.int p2), .val (.int p3), .val (.int p4), .val (.long (Int64.ofNat N)), .second, .val (.int tt), .val (.ref b27), .unset, .unset, .unset, .unset, .unset, .unset, .unset, .unset, .unset, .unset, .unset, .unset, .unset] [(.int (15 : Int32)), (.long (Int64.ofNat N)), (.int (2 : Int32)), (.ref b27)]))) (fun t ht => XS.bipush X31.here hx rfl (hb hby at_53) ht) ?_
  obtain ⟨_, _, ⟨T32, L32, k32, n32⟩, -, X32, ⟨Lc32, hQ32, l32, y32, z32⟩, st32⟩ := Jvm.LawKit.callS X31 hx (y := (⟨"com/example/version_parser/versionparser/DecimalDigitsValuePinLaw", "dig", "(JI)C"⟩ : MethodName)) hown (mvT hZ (hw _ (List.mem_of_getElem? (i := 4) rfl))) (mvT hZ (hw _ (List.mem_of_getElem? (i := 5) rfl))) (mvT hZ (hw _ (List.mem_of_getElem? (i := 6) rfl))) (mvT hZ (hw _ (List.mem_of_getElem? (i := 7) rfl))) (by decide) (backOf (W := 2) (own_m_dig l Z a0 hw [] ((Int64.ofNat N)) ((15 : Int32)) (15) h31 n0 (Nat.le_trans Z0 K31.1) ⟨rfl, by decide⟩) hZ (hw _ (List.mem_of_getElem? (i := 7) rfl)) (hw _ (List.mem_of_getElem? (i := 6) rfl)) (by decide) (by decide)) (g := (mkF m 55 #[.val (.long p1), .second, .val (.int p2), .val (.int p3), .val (.int p4), .val (.long (Int64.ofNat N)), .second, .val (.int tt), .val (.ref b27), .unset, .unset, .unset, .unset, .unset, .unset, .unset, .unset, .unset, .unset, .unset, .unset, .unset] [(.int (15 : Int32)), (.long (Int64.ofNat N)), (.int (2 : Int32)), (.ref b27)])) rfl (by rw [hml]; rfl) (argsL := [(.long (Int64.ofNat N)), (.int (15 : Int32))]) (rest := [(.int (2 : Int32)), (.ref b27)]) (lenOf own_pd2 rfl) rfl (by show 2 * 0 + _ ≤ _; exact Nat.le_of_eq rfl) (hb hby at_55) (fun _ _ => ⟨rfl, e31, (by decide : 3 + 1 ≤ _), (by decide : 58 + 19 ≤ _)⟩)
  dsimp only [Pt.U, Pt.locs, Pt.cells, Pt.slots] at X32 l32 y32 z32 st32 hQ32
  subst l32 y32 z32
  obtain ⟨rfl, Nq32, Kq32⟩ := hQ32
  have N32 := Fr.app N31 Nq32
  have f32_0 : Sta Z T32.heap "java/lang/String" "COMPACT_STRINGS" "Z" (.int cz) := own_sta_keep f31_0 Kq32 own_pl0
  have f32_1 : Sta Z T32.heap "jdk/internal/util/Preconditions" "SIOOBE_FORMATTER" "Ljava/util/function/BiFunction;" fm := own_sta_keep f31_1 Kq32 own_pl0
  have f32_2 : Arv Z T32.heap b27 k27 .char (20 : Int32) [(.int ((own_dg (Int64.ofNat N) (17 : Int32)).toUInt32.toUInt16.toUInt32.toInt32)), (.int ((own_dg (Int64.ofNat N) (16 : Int32)).toUInt32.toUInt16.toUInt32.toInt32)), (.int (0 : Int32)), (.int (0 : Int32)), (.int (0 : Int32)), (.int (0 : Int32)), (.int (0 : Int32)), (.int (0 : Int32)), (.int (0 : Int32)), (.int (0 : Int32)), (.int (0 : Int32)), (.int (0 : Int32)), (.int (0 : Int32)), (.int (0 : Int32)), (.int (0 : Int32)), (.int (0 : Int32)), (.int (0 : Int32)), (.int (0 : Int32)), (.int (0 : Int32)), (.int (0 : Int32))] (.int (0 : Int32)) := V31.keep Kq32 nin0
  have K32 : Keep h0 T32.heap [] := K31.trans Kq32 all0
  refine own_step (U' := (T32.setTop (mkF m 58 #[.val (.long p1), .second, .val (.int p2), .val (.int p3), .val (.int p4), .val (.long (Int64.ofNat N)), .second, .val (.int tt), .val (.ref b27), .unset, .unset, .unset, .unset, .unset, .unset, .unset, .unset, .unset, .unset, .unset, .unset, .unset] [(.int (own_dg (Int64.ofNat N) (15 : Int32))), (.int (2 : Int32)), (.ref b27)]))) (fun t ht => st32 _ ht) ?_
  obtain ⟨cl33, Ar33, q33, S33, N33_, H33, G33⟩ := (id f32_2)
  have hin33 : ¬ ((2 : Int32) < 0 ∨ cl33.slots.size ≤ ((2 : Int32)).toNatClampNeg) := inb_of S33 ⟨by decide, by decide⟩
  obtain ⟨T33, h33, X33, e33, W33, st33⟩ := stC X32 hx hZ rfl Ar33 (j := (2 : Int32)) hin33 (g := (mkF m 58 #[.val (.long p1), .second, .val (.int p2), .val (.int p3), .val (.int p4), .val (.long (Int64.ofNat N)), .second, .val (.int tt), .val (.ref b27), .unset, .unset, .unset, .unset, .unset, .unset, .unset, .unset, .unset, .unset, .unset, .unset, .unset] [(.int (own_dg (Int64.ofNat N) (15 : Int32))), (.int (2 : Int32)), (.ref b27)])) rfl rfl (hb hby at_58)
  have f33_0 : Sta Z h33 "java/lang/String" "COMPACT_STRINGS" "Z" (.int cz) := f32_0.wr W33
  have f33_1 : Sta Z h33 "jdk/internal/util/Preconditions" "SIOOBE_FORMATTER" "Ljava/util/function/BiFunction;" fm := f32_1.wr W33
  have V33 : Arv Z h33 b27 k27 .char (20 : Int32) [(.int ((own_dg (Int64.ofNat N) (17 : Int32)).toUInt32.toUInt16.toUInt32.toInt32)), (.int ((own_dg (Int64.ofNat N) (16 : Int32)).toUInt32.toUInt16.toUInt32.toInt32)), (.int ((own_dg (Int64.ofNat N) (15 : Int32)).toUInt32.toUInt16.toUInt32.toInt32)), (.int (0 : Int32)), (.int (0 : Int32)), (.int (0 : Int32)), (.int (0 : Int32)), (.int (0 : Int32)), (.int (0 : Int32)), (.int (0 : Int32)), (.int (0 : Int32)), (.int (0 : Int32)), (.int (0 : Int32)), (.int (0 : Int32)), (.int (0 : Int32)), (.int (0 : Int32)), (.int (0 : Int32)), (.int (0 : Int32)), (.int (0 : Int32)), (.int (0 : Int32))] (.int (0 : Int32)) := Arv.set Ar33 q33 S33 N33_ H33 G33 (fits_nar_char _) W33 2 rfl (Nat.le_of_ble_eq_true rfl)
  have N33 := Fr.snoc X33 N32 g_b27
  have K33 : Keep h0 h33 [] := K32.wr W33 (Or.inr sz_b27)
  refine own_step (U' := (T33.setTop (mkF m 59 #[.val (.long p1), .second, .val (.int p2), .val (.int p3), .val (.int p4), .val (.long (Int64.ofNat N)), .second, .val (.int tt), .val (.ref b27), .unset, .unset, .unset, .unset, .unset, .unset, .unset, .unset, .unset, .unset, .unset, .unset, .unset] []))) (fun t ht => st33 _ ht) ?_
  refine own_step (U' := (T33.setTop (mkF m 61 #[.val (.long p1), .second, .val (.int p2), .val (.int p3), .val (.int p4), .val (.long (Int64.ofNat N)), .second, .val (.int tt), .val (.ref b27), .unset, .unset, .unset, .unset, .unset, .unset, .unset, .unset, .unset, .unset, .unset, .unset, .unset] [(.ref b27)]))) (fun t ht => XS.aload X33.here hx rfl (hb hby at_59) rfl rfl ht) ?_
  refine own_step (U' := (T33.setTop (mkF m 62 #[.val (.long p1), .second, .val (.int p2), .val (.int p3), .val (.int p4), .val (.long (Int64.ofNat N)), .second, .val (.int tt), .val (.ref b27), .unset, .unset, .unset, .unset, .unset, .unset, .unset, .unset, .unset, .unset, .unset, .unset, .unset] [(.int (3 : Int32)), (.ref b27)]))) (fun t ht => XS.iconst X33.here hx rfl (hb hby at_61) ht) ?_
  refine own_step (U' := (T33.setTop (mkF m 64 #[.val (.long p1), .second, .val (.int p2), .val (.int p3), .val (.int p4), .val (.long (Int64.ofNat N)), .second, .val (.int tt), .val (.ref b27), .unset, .unset, .unset, .unset, .unset, .unset, .unset, .unset, .unset, .unset, .unset, .unset, .unset] [(.long (Int64.ofNat N)), (.int (3 : Int32)), (.ref b27)]))) (fun t ht => XT.lload X33.here hx rfl (hb hby at_62) rfl ht) ?_
  refine own_step (U' := (T33.setTop (mkF m 66 #[.val (.long p1), .second, .val (.int p2), .val (.int p3), .val (.int p4), .val (.long (Int64.ofNat N)), .second, .val (.int tt), .val (.ref b27), .unset, .unset, .unset, .unset, .unset, .unset, .unset, .unset, .unset, .unset, .unset, .unset, .unset] [(.int (14 : Int32)), (.long (Int64.ofNat N)), (.int (3 : Int32)), (.ref b27)]))) (fun t ht => XS.bipush X33.here hx rfl (hb hby at_64) ht) ?_
  obtain ⟨_, _, ⟨T34, L34, k34, n34⟩, -, X34, ⟨Lc34, hQ34, l34, y34, z34⟩, st34⟩ := Jvm.LawKit.callS X33 hx (y := (⟨"com/example/version_parser/versionparser/DecimalDigitsValuePinLaw", "dig", "(JI)C"⟩ : MethodName)) hown (mvT hZ (hw _ (List.mem_of_getElem? (i := 4) rfl))) (mvT hZ (hw _ (List.mem_of_getElem? (i := 5) rfl))) (mvT hZ (hw _ (List.mem_of_getElem? (i := 6) rfl))) (mvT hZ (hw _ (List.mem_of_getElem? (i := 7) rfl))) (by decide) (backOf (W := 2) (own_m_dig l Z a0 hw [] ((Int64.ofNat N)) ((14 : Int32)) (14) h33 n0 (Nat.le_trans Z0 K33.1) ⟨rfl, by decide⟩) hZ (hw _ (List.mem_of_getElem? (i := 7) rfl)) (hw _ (List.mem_of_getElem? (i := 6) rfl)) (by decide) (by decide)) (g := (mkF m 66 #[.val (.long p1), .second, .val (.int p2), .val (.int p3), .val (.int p4), .val (.long (Int64.ofNat N)), .second, .val (.int tt), .val (.ref b27), .unset, .unset, .unset, .unset, .unset, .unset, .unset, .unset, .unset, .unset, .unset, .unset, .unset] [(.int (14 : Int32)), (.long (Int64.ofNat N)), (.int (3 : Int32)), (.ref b27)])) rfl (by rw [hml]; rfl) (argsL := [(.long (Int64.ofNat N)), (.int (14 : Int32))]) (rest := [(.int (3 : Int32)), (.ref b27)]) (lenOf own_pd2 rfl) rfl (by show 2 * 0 + _ ≤ _; exact Nat.le_of_eq rfl) (hb hby at_66) (fun _ _ => ⟨rfl, e33, (by decide : 4 + 1 ≤ _), (by decide : 77 + 19 ≤ _)⟩)
  dsimp only [Pt.U, Pt.locs, Pt.cells, Pt.slots] at X34 l34 y34 z34 st34 hQ34
  subst l34 y34 z34
  obtain ⟨rfl, Nq34, Kq34⟩ := hQ34
  have N34 := Fr.app N33 Nq34
  have f34_0 : Sta Z T34.heap "java/lang/String" "COMPACT_STRINGS" "Z" (.int cz) := own_sta_keep f33_0 Kq34 own_pl0
  have f34_1 : Sta Z T34.heap "jdk/internal/util/Preconditions" "SIOOBE_FORMATTER" "Ljava/util/function/BiFunction;" fm := own_sta_keep f33_1 Kq34 own_pl0
  have f34_2 : Arv Z T34.heap b27 k27 .char (20 : Int32) [(.int ((own_dg (Int64.ofNat N) (17 : Int32)).toUInt32.toUInt16.toUInt32.toInt32)), (.int ((own_dg (Int64.ofNat N) (16 : Int32)).toUInt32.toUInt16.toUInt32.toInt32)), (.int ((own_dg (Int64.ofNat N) (15 : Int32)).toUInt32.toUInt16.toUInt32.toInt32)), (.int (0 : Int32)), (.int (0 : Int32)), (.int (0 : Int32)), (.int (0 : Int32)), (.int (0 : Int32)), (.int (0 : Int32)), (.int (0 : Int32)), (.int (0 : Int32)), (.int (0 : Int32)), (.int (0 : Int32)), (.int (0 : Int32)), (.int (0 : Int32)), (.int (0 : Int32)), (.int (0 : Int32)), (.int (0 : Int32)), (.int (0 : Int32)), (.int (0 : Int32))] (.int (0 : Int32)) := V33.keep Kq34 nin0
  have K34 : Keep h0 T34.heap [] := K33.trans Kq34 all0
  refine own_step (U' := (T34.setTop (mkF m 69 #[.val (.long p1), .second, .val (.int p2), .val (.int p3), .val (.int p4), .val (.long (Int64.ofNat N)), .second, .val (.int tt), .val (.ref b27), .unset, .unset, .unset, .unset, .unset, .unset, .unset, .unset, .unset, .unset, .unset, .unset, .unset] [(.int (own_dg (Int64.ofNat N) (14 : Int32))), (.int (3 : Int32)), (.ref b27)]))) (fun t ht => st34 _ ht) ?_
  obtain ⟨cl35, Ar35, q35, S35, N35_, H35, G35⟩ := (id f34_2)
  have hin35 : ¬ ((3 : Int32) < 0 ∨ cl35.slots.size ≤ ((3 : Int32)).toNatClampNeg) := inb_of S35 ⟨by decide, by decide⟩
  obtain ⟨T35, h35, X35, e35, W35, st35⟩ := stC X34 hx hZ rfl Ar35 (j := (3 : Int32)) hin35 (g := (mkF m 69 #[.val (.long p1), .second, .val (.int p2), .val (.int p3), .val (.int p4), .val (.long (Int64.ofNat N)), .second, .val (.int tt), .val (.ref b27), .unset, .unset, .unset, .unset, .unset, .unset, .unset, .unset, .unset, .unset, .unset, .unset, .unset] [(.int (own_dg (Int64.ofNat N) (14 : Int32))), (.int (3 : Int32)), (.ref b27)])) rfl rfl (hb hby at_69)
  have f35_0 : Sta Z h35 "java/lang/String" "COMPACT_STRINGS" "Z" (.int cz) := f34_0.wr W35
  have f35_1 : Sta Z h35 "jdk/internal/util/Preconditions" "SIOOBE_FORMATTER" "Ljava/util/function/BiFunction;" fm := f34_1.wr W35
  have V35 : Arv Z h35 b27 k27 .char (20 : Int32) [(.int ((own_dg (Int64.ofNat N) (17 : Int32)).toUInt32.toUInt16.toUInt32.toInt32)), (.int ((own_dg (Int64.ofNat N) (16 : Int32)).toUInt32.toUInt16.toUInt32.toInt32)), (.int ((own_dg (Int64.ofNat N) (15 : Int32)).toUInt32.toUInt16.toUInt32.toInt32)), (.int ((own_dg (Int64.ofNat N) (14 : Int32)).toUInt32.toUInt16.toUInt32.toInt32)), (.int (0 : Int32)), (.int (0 : Int32)), (.int (0 : Int32)), (.int (0 : Int32)), (.int (0 : Int32)), (.int (0 : Int32)), (.int (0 : Int32)), (.int (0 : Int32)), (.int (0 : Int32)), (.int (0 : Int32)), (.int (0 : Int32)), (.int (0 : Int32)), (.int (0 : Int32)), (.int (0 : Int32)), (.int (0 : Int32)), (.int (0 : Int32))] (.int (0 : Int32)) := Arv.set Ar35 q35 S35 N35_ H35 G35 (fits_nar_char _) W35 3 rfl (Nat.le_of_ble_eq_true rfl)
  have N35 := Fr.snoc X35 N34 g_b27
  have K35 : Keep h0 h35 [] := K34.wr W35 (Or.inr sz_b27)
  refine own_step (U' := (T35.setTop (mkF m 70 #[.val (.long p1), .second, .val (.int p2), .val (.int p3), .val (.int p4), .val (.long (Int64.ofNat N)), .second, .val (.int tt), .val (.ref b27), .unset, .unset, .unset, .unset, .unset, .unset, .unset, .unset, .unset, .unset, .unset, .unset, .unset] []))) (fun t ht => st35 _ ht) ?_
  refine own_step (U' := (T35.setTop (mkF m 72 #[.val (.long p1), .second, .val (.int p2), .val (.int p3), .val (.int p4), .val (.long (Int64.ofNat N)), .second, .val (.int tt), .val (.ref b27), .unset, .unset, .unset, .unset, .unset, .unset, .unset, .unset, .unset, .unset, .unset, .unset, .unset] [(.ref b27)]))) (fun t ht => XS.aload X35.here hx rfl (hb hby at_70) rfl rfl ht) ?_
  refine own_step (U' := (T35.setTop (mkF m 73 #[.val (.long p1), .second, .val (.int p2), .val (.int p3), .val (.int p4), .val (.long (Int64.ofNat N)), .second, .val (.int tt), .val (.ref b27), .unset, .unset, .unset, .unset, .unset, .unset, .unset, .unset, .unset, .unset, .unset, .unset, .unset] [(.int (4 : Int32)), (.ref b27)]))) (fun t ht => XS.iconst X35.here hx rfl (hb hby at_72) ht) ?_
  refine own_step (U' := (T35.setTop (mkF m 75 #[.val (.long p1), .second, .val (.int p2), .val (.int p3), .val (.int p4), .val (.long (Int64.ofNat N)), .second, .val (.int tt), .val (.ref b27), .unset, .unset, .unset, .unset, .unset, .unset, .unset, .unset, .unset, .unset, .unset, .unset, .unset] [(.long (Int64.ofNat N)), (.int (4 : Int32)), (.ref b27)]))) (fun t ht => XT.lload X35.here hx rfl (hb hby at_73) rfl ht) ?_
  refine own_step (U' := (T35.setTop (mkF m 77 #[.val (.long p1), .second, .val (.int p2), .val (.int p3), .val (.int p4), .val (.long (Int64.ofNat N)), .second, .val (.int tt), .val (.ref b27), .unset, .unset, .unset, .unset, .unset, .unset, .unset, .unset, .unset, .unset, .unset, .unset, .unset] [(.int (13 : Int32)), (.long (Int64.ofNat N)), (.int (4 : Int32)), (.ref b27)]))) (fun t ht => XS.bipush X35.here hx rfl (hb hby at_75) ht) ?_
  obtain ⟨Lo37, Xo37, No37⟩ : ∃ Lx, Stand p l e room_1 s m #[(.long p1), (.int p2), (.int p3), (.int p4)] below meth c T35 Lx 5 96 ∧ Fr n0 Lx := ⟨_, X35, N35⟩
  obtain ⟨_, _, ⟨T36, L36, k36, n36⟩, -, X36, ⟨Lc36, hQ36, l36, y36, z36⟩, st36⟩ := Jvm.LawKit.callS Xo37 hx (y := (⟨"com/example/version_parser/versionparser/DecimalDigitsValuePinLaw", "dig", "(JI)C"⟩ : MethodName)) hown (mvT hZ (hw _ (List.mem_of_getElem? (i := 4) rfl))) (mvT hZ (hw _ (List.mem_of_getElem? (i := 5) rfl))) (mvT hZ (hw _ (List.mem_of_getElem? (i := 6) rfl))) (mvT hZ (hw _ (List.mem_of_getElem? (i := 7) rfl))) (by decide) (backOf (W := 2) (own_m_dig l Z a0 hw [] ((Int64.ofNat N)) ((13 : Int32)) (13) h35 n0 (Nat.le_trans Z0 K35.1) ⟨rfl, by decide⟩) hZ (hw _ (List.mem_of_getElem? (i := 7) rfl)) (hw _ (List.mem_of_getElem? (i := 6) rfl)) (by decide) (by decide)) (g := (mkF m 77 #[.val (.long p1), .second, .val (.int p2), .val (.int p3), .val (.int p4), .val (.long (Int64.ofNat N)), .second, .val (.int tt), .val (.ref b27), .unset, .unset, .unset, .unset, .unset, .unset, .unset, .unset, .unset, .unset, .unset, .unset, .unset] [(.int (13 : Int32)), (.long (Int64.ofNat N)), (.int (4 : Int32)), (.ref b27)])) rfl (by rw [hml]; rfl) (argsL := [(.long (Int64.ofNat N)), (.int (13 : Int32))]) (rest := [(.int (4 : Int32)), (.ref b27)]) (lenOf own_pd2 rfl) rfl (by show 2 * 0 + _ ≤ _; exact Nat.le_of_eq rfl) (hb hby at_77) (fun _ _ => ⟨rfl, e35, (by decide : 5 + 1 ≤ _), (by decide : 96 + 19 ≤ _)⟩)
  dsimp only [Pt.U, Pt.locs, Pt.cells, Pt.slots] at X36 l36 y36 z36 st36 hQ36
  subst l36 y36 z36
  obtain ⟨rfl, Nq36, Kq36⟩ := hQ36
  have N36 := Fr.app No37 Nq36
  have f36_0 : Sta Z T36.heap "java/lang/String" "COMPACT_STRINGS" "Z" (.int cz) := own_sta_keep f35_0 Kq36 own_pl0
  have f36_1 : Sta Z T36.heap "jdk/internal/util/Preconditions" "SIOOBE_FORMATTER" "Ljava/util/function/BiFunction;" fm := own_sta_keep f35_1 Kq36 own_pl0
  have f36_2 : Arv Z T36.heap b27 k27 .char (20 : Int32) [(.int ((own_dg (Int64.ofNat N) (17 : Int32)).toUInt32.toUInt16.toUInt32.toInt32)), (.int ((own_dg (Int64.ofNat N) (16 : Int32)).toUInt32.toUInt16.toUInt32.toInt32)), (.int ((own_dg (Int64.ofNat N) (15 : Int32)).toUInt32.toUInt16.toUInt32.toInt32)), (.int ((own_dg (Int64.ofNat N) (14 : Int32)).toUInt32.toUInt16.toUInt32.toInt32)), (.int (0 : Int32)), (.int (0 : Int32)), (.int (0 : Int32)), (.int (0 : Int32)), (.int (0 : Int32)), (.int (0 : Int32)), (.int (0 : Int32)), (.int (0 : Int32)), (.int (0 : Int32)), (.int (0 : Int32)), (.int (0 : Int32)), (.int (0 : Int32)), (.int (0 : Int32)), (.int (0 : Int32)), (.int (0 : Int32)), (.int (0 : Int32))] (.int (0 : Int32)) := V35.keep Kq36 nin0
  have K36 : Keep h0 T36.heap [] := K35.trans Kq36 all0
  refine own_step (U' := (T36.setTop (mkF m 80 #[.val (.long p1), .second, .val (.int p2), .val (.int p3), .val (.int p4), .val (.long (Int64.ofNat N)), .second, .val (.int tt), .val (.ref b27), .unset, .unset, .unset, .unset, .unset, .unset, .unset, .unset, .unset, .unset, .unset, .unset, .unset] [(.int (own_dg (Int64.ofNat N) (13 : Int32))), (.int (4 : Int32)), (.ref b27)]))) (fun t ht => st36 _ ht) ?_
  obtain ⟨cl38, Ar38, q38, S38, N38_, H38, G38⟩ := (id f36_2)
  have hin38 : ¬ ((4 : Int32) < 0 ∨ cl38.slots.size ≤ ((4 : Int32)).toNatClampNeg) := inb_of S38 ⟨by decide, by decide⟩
  obtain ⟨T38, h38, X38, e38, W38, st38⟩ := stC X36 hx hZ rfl Ar38 (j := (4 : Int32)) hin38 (g := (mkF m 80 #[.val (.long p1), .second, .val (.int p2), .val (.int p3), .val (.int p4), .val (.long (Int64.ofNat N)), .second, .val (.int tt), .val (.ref b27), .unset, .unset, .unset, .unset, .unset, .unset, .unset, .unset, .unset, .unset, .unset, .unset, .unset] [(.int (own_dg (Int64.ofNat N) (13 : Int32))), (.int (4 : Int32)), (.ref b27)])) rfl rfl (hb hby at_80)
  have f38_0 : Sta Z h38 "java/lang/String" "COMPACT_STRINGS" "Z" (.int cz) := f36_0.wr W38
  have f38_1 : Sta Z h38 "jdk/internal/util/Preconditions" "SIOOBE_FORMATTER" "Ljava/util/function/BiFunction;" fm := f36_1.wr W38
  have V38 : Arv Z h38 b27 k27 .char (20 : Int32) [(.int ((own_dg (Int64.ofNat N) (17 : Int32)).toUInt32.toUInt16.toUInt32.toInt32)), (.int ((own_dg (Int64.ofNat N) (16 : Int32)).toUInt32.toUInt16.toUInt32.toInt32)), (.int ((own_dg (Int64.ofNat N) (15 : Int32)).toUInt32.toUInt16.toUInt32.toInt32)), (.int ((own_dg (Int64.ofNat N) (14 : Int32)).toUInt32.toUInt16.toUInt32.toInt32)), (.int ((own_dg (Int64.ofNat N) (13 : Int32)).toUInt32.toUInt16.toUInt32.toInt32)), (.int (0 : Int32)), (.int (0 : Int32)), (.int (0 : Int32)), (.int (0 : Int32)), (.int (0 : Int32)), (.int (0 : Int32)), (.int (0 : Int32)), (.int (0 : Int32)), (.int (0 : Int32)), (.int (0 : Int32)), (.int (0 : Int32)), (.int (0 : Int32)), (.int (0 : Int32)), (.int (0 : Int32)), (.int (0 : Int32))] (.int (0 : Int32)) := Arv.set Ar38 q38 S38 N38_ H38 G38 (fits_nar_char _) W38 4 rfl (Nat.le_of_ble_eq_true rfl)
  have N38 := Fr.snoc X38 N36 g_b27
  have K38 : Keep h0 h38 [] := K36.wr W38 (Or.inr sz_b27)
  refine own_step (U' := (T38.setTop (mkF m 81 #[.val (.long p1), .second, .val (.int p2), .val (.int p3), .val (.int p4), .val (.long (Int64.ofNat N)), .second, .val (.int tt), .val (.ref b27), .unset, .unset, .unset, .unset, .unset, .unset, .unset, .unset, .unset, .unset, .unset, .unset, .unset] []))) (fun t ht => st38 _ ht) ?_
  refine own_step (U' := (T38.setTop (mkF m 83 #[.val (.long p1), .second, .val (.int p2), .val (.int p3), .val (.int p4), .val (.long (Int64.ofNat N)), .second, .val (.int tt), .val (.ref b27), .unset, .unset, .unset, .unset, .unset, .unset, .unset, .unset, .unset, .unset, .unset, .unset, .unset] [(.ref b27)]))) (fun t ht => XS.aload X38.here hx rfl (hb hby at_81) rfl rfl ht) ?_
  refine own_step (U' := (T38.setTop (mkF m 84 #[.val (.long p1), .second, .val (.int p2), .val (.int p3), .val (.int p4), .val (.long (Int64.ofNat N)), .second, .val (.int tt), .val (.ref b27), .unset, .unset, .unset, .unset, .unset, .unset, .unset, .unset, .unset, .unset, .unset, .unset, .unset] [(.int (5 : Int32)), (.ref b27)]))) (fun t ht => XS.iconst X38.here hx rfl (hb hby at_83) ht) ?_
  refine own_step (U' := (T38.setTop (mkF m 86 #[.val (.long p1), .second, .val (.int p2), .val (.int p3), .val (.int p4), .val (.long (Int64.ofNat N)), .second, .val (.int tt), .val (.ref b27), .unset, .unset, .unset, .unset, .unset, .unset, .unset, .unset, .unset, .unset, .unset, .unset, .unset] [(.long (Int64.ofNat N)), (.int (5 : Int32)), (.ref b27)]))) (fun t ht => XT.lload X38.here hx rfl (hb hby at_84) rfl ht) ?_
  refine own_step (U' := (T38.setTop (mkF m 88 #[.val (.long p1), .second, .val (.int p2), .val (.int p3), .val (.int p4), .val (.long (Int64.ofNat N)), .second, .val (.int tt), .val (.ref b27), .unset, .unset, .unset, .unset, .unset, .unset, .unset, .unset, .unset, .unset, .unset, .unset, .unset] [(.int (12 : Int32)), (.long (Int64.ofNat N)), (.int (5 : Int32)), (.ref b27)]))) (fun t ht => XS.bipush X38.here hx rfl (hb hby at_86) ht) ?_
  obtain ⟨_, _, ⟨T39, L39, k39, n39⟩, -, X39, ⟨Lc39, hQ39, l39, y39, z39⟩, st39⟩ := Jvm.LawKit.callS X38 hx (y := (⟨"com/example/version_parser/versionparser/DecimalDigitsValuePinLaw", "dig", "(JI)C"⟩ : MethodName)) hown (mvT hZ (hw _ (List.mem_of_getElem? (i := 4) rfl))) (mvT hZ (hw _ (List.mem_of_getElem? (i := 5) rfl))) (mvT hZ (hw _ (List.mem_of_getElem? (i := 6) rfl))) (mvT hZ (hw _ (List.mem_of_getElem? (i := 7) rfl))) (by decide) (backOf (W := 2) (own_m_dig l Z a0 hw [] ((Int64.ofNat N)) ((12 : Int32)) (12) h38 n0 (Nat.le_trans Z0 K38.1) ⟨rfl, by decide⟩) hZ (hw _ (List.mem_of_getElem? (i := 7) rfl)) (hw _ (List.mem_of_getElem? (i := 6) rfl)) (by decide) (by decide)) (g := (mkF m 88 #[.val (.long p1), .second, .val (.int p2), .val (.int p3), .val (.int p4), .val (.long (Int64.ofNat N)), .second, .val (.int tt), .val (.ref b27), .unset, .unset, .unset, .unset, .unset, .unset, .unset, .unset, .unset, .unset, .unset, .unset, .unset] [(.int (12 : Int32)), (.long (Int64.ofNat N)), (.int (5 : Int32)), (.ref b27)])) rfl (by rw [hml]; rfl) (argsL := [(.long (Int64.ofNat N)), (.int (12 : Int32))]) (rest := [(.int (5 : Int32)), (.ref b27)]) (lenOf own_pd2 rfl) rfl (by show 2 * 0 + _ ≤ _; exact Nat.le_of_eq rfl) (hb hby at_88) (fun _ _ => ⟨rfl, e38, (by decide : 6 + 1 ≤ _), (by decide : 115 + 19 ≤ _)⟩)
  dsimp only [Pt.U, Pt.locs, Pt.cells, Pt.slots] at X39 l39 y39 z39 st39 hQ39
  subst l39 y39 z39
  obtain ⟨rfl, Nq39, Kq39⟩ := hQ39
  have N39 := Fr.app N38 Nq39
  have f39_0 : Sta Z T39.heap "java/lang/String" "COMPACT_STRINGS" "Z" (.int cz) := own_sta_keep f38_0 Kq39 own_pl0
  have f39_1 : Sta Z T39.heap "jdk/internal/util/Preconditions" "SIOOBE_FORMATTER" "Ljava/util/function/BiFunction;" fm := own_sta_keep f38_1 Kq39 own_pl0
  have f39_2 : Arv Z T39.heap b27 k27 .char (20 : Int32) [(.int ((own_dg (Int64.ofNat N) (17 : Int32)).toUInt32.toUInt16.toUInt32.toInt32)), (.int ((own_dg (Int64.ofNat N) (16 : Int32)).toUInt32.toUInt16.toUInt32.toInt32)), (.int ((own_dg (Int64.ofNat N) (15 : Int32)).toUInt32.toUInt16.toUInt32.toInt32)), (.int ((own_dg (Int64.ofNat N) (14 : Int32)).toUInt32.toUInt16.toUInt32.toInt32)), (.int ((own_dg (Int64.ofNat N) (13 : Int32)).toUInt32.toUInt16.toUInt32.toInt32)), (.int (0 : Int32)), (.int (0 : Int32)), (.int (0 : Int32)), (.int (0 : Int32)), (.int (0 : Int32)), (.int (0 : Int32)), (.int (0 : Int32)), (.int (0 : Int32)), (.int (0 : Int32)), (.int (0 : Int32)), (.int (0 : Int32)), (.int (0 : Int32)), (.int (0 : Int32)), (.int (0 : Int32)), (.int (0 : Int32))] (.int (0 : Int32)) := V38.keep Kq39 nin0
  have K39 : Keep h0 T39.heap [] := K38.trans Kq39 all0
  refine own_step (U' := (T39.setTop (mkF m 91 #[.val (.long p1), .second, .val (.int p2), .val (.int p3), .val (.int p4), .val (.long (Int64.ofNat N)), .second, .val (.int tt), .val (.ref b27), .unset, .unset, .unset, .unset, .unset, .unset, .unset, .unset, .unset, .unset, .unset, .unset, .unset] [(.int (own_dg (Int64.ofNat N) (12 : Int32))), (.int (5 : Int32)), (.ref b27)]))) (fun t ht => st39 _ ht) ?_
  obtain ⟨cl40, Ar40, q40, S40, N40_, H40, G40⟩ := (id f39_2)
  have hin40 : ¬ ((5 : Int32) < 0 ∨ cl40.slots.size ≤ ((5 : Int32)).toNatClampNeg) := inb_of S40 ⟨by decide, by decide⟩
  obtain ⟨T40, h40, X40, e40, W40, st40⟩ := stC X39 hx hZ rfl Ar40 (j := (5 : Int32)) hin40 (g := (mkF m 91 #[.val (.long p1), .second, .val (.int p2), .val (.int p3), .val (.int p4), .val (.long (Int64.ofNat N)), .second, .val (.int tt), .val (.ref b27), .unset, .unset, .unset, .unset, .unset, .unset, .unset, .unset, .unset, .unset, .unset, .unset, .unset] [(.int (own_dg (Int64.ofNat N) (12 : Int32))), (.int (5 : Int32)), (.ref b27)])) rfl rfl (hb hby at_91)
  have f40_0 : Sta Z h40 "java/lang/String" "COMPACT_STRINGS" "Z" (.int cz) := f39_0.wr W40
  have f40_1 : Sta Z h40 "jdk/internal/util/Preconditions" "SIOOBE_FORMATTER" "Ljava/util/function/BiFunction;" fm := f39_1.wr W40
  have V40 : Arv Z h40 b27 k27 .char (20 : Int32) [(.int ((own_dg (Int64.ofNat N) (17 : Int32)).toUInt32.toUInt16.toUInt32.toInt32)), (.int ((own_dg (Int64.ofNat N) (16 : Int32)).toUInt32.toUInt16.toUInt32.toInt32)), (.int ((own_dg (Int64.ofNat N) (15 : Int32)).toUInt32.toUInt16.toUInt32.toInt32)), (.int ((own_dg (Int64.ofNat N) (14 : Int32)).toUInt32.toUInt16.toUInt32.toInt32)), (.int ((own_dg (Int64.ofNat N) (13 : Int32)).toUInt32.toUInt16.toUInt32.toInt32)), (.int ((own_dg (Int64.ofNat N) (12 : Int32)).toUInt32.toUInt16.toUInt32.toInt32)), (.int (0 : Int32)), (.int (0 : Int32)), (.int (0 : Int32)), (.int (0 : Int32)), (.int (0 : Int32)), (.int (0 : Int32)), (.int (0 : Int32)), (.int (0 : Int32)), (.int (0 : Int32)), (.int (0 : Int32)), (.int (0 : Int32)), (.int (0 : Int32)), (.int (0 : Int32)), (.int (0 : Int32))] (.int (0 : Int32)) := Arv.set Ar40 q40 S40 N40_ H40 G40 (fits_nar_char _) W40 5 rfl (Nat.le_of_ble_eq_true rfl)
  have N40 := Fr.snoc X40 N39 g_b27
  have K40 : Keep h0 h40 [] := K39.wr W40 (Or.inr sz_b27)
  refine own_step (U' := (T40.setTop (mkF m 92 #[.val (.long p1), .second, .val (.int p2), .val (.int p3), .val (.int p4), .val (.long (Int64.ofNat N)), .second, .val (.int tt), .val (.ref b27), .unset, .unset, .unset, .unset, .unset, .unset, .unset, .unset, .unset, .unset, .unset, .unset, .unset] []))) (fun t ht => st40 _ ht) ?_
  refine own_step (U' := (T40.setTop (mkF m 94 #[.val (.long p1), .second, .val (.int p2), .val (.int p3), .val (.int p4), .val (.long (Int64.ofNat N)), .second, .val (.int tt), .val (.ref b27), .unset, .unset, .unset, .unset, .unset, .unset, .unset, .unset, .unset, .unset, .unset, .unset, .unset] [(.ref b27)]))) (fun t ht => XS.aload X40.here hx rfl (hb hby at_92) rfl rfl ht) ?_
  refine own_step (U' := (T40.setTop (mkF m 96 #[.val (.long p1), .second, .val (.int p2), .val (.int p3), .val (.int p4), .val (.long (Int64.ofNat N)), .second, .val (.int tt), .val (.ref b27), .unset, .unset, .unset, .unset, .unset, .unset, .unset, .unset, .unset, .unset, .unset, .unset, .unset] [(.int (6 : Int32)), (.ref b27)]))) (fun t ht => XS.bipush X40.here hx rfl (hb hby at_94) ht) ?_
  refine own_step (U' := (T40.setTop (mkF m 98 #[.val (.long p1), .second, .val (.int p2), .val (.int p3), .val (.int p4), .val (.long (Int64.ofNat N)), .second, .val (.int tt), .val (.ref b27), .unset, .unset, .unset, .unset, .unset, .unset, .unset, .unset, .unset, .unset, .unset, .unset, .unset] [(.long (Int64.ofNat N)), (.int (6 : Int32)), (.ref b27)]))) (fun t ht => XT.lload X40.here hx rfl (hb hby at_96) rfl ht) ?_
  refine own_step (U' := (T40.setTop (mkF m 100 #[.val (.long p1), .second, .val (.int p2), .val (.int p3), .val (.int p4), .val (.long (Int64.ofNat N)), .second, .val (.int tt), .val (.ref b27), .unset, .unset, .unset, .unset, .unset, .unset, .unset, .unset, .unset, .unset, .unset, .unset, .unset] [(.int (11 : Int32)), (.long (Int64.ofNat N)), (.int (6 : Int32)), (.ref b27)]))) (fun t ht => XS.bipush X40.here hx rfl (hb hby at_98) ht) ?_
  obtain ⟨_, _, ⟨T41, L41, k41, n41⟩, -, X41, ⟨Lc41, hQ41, l41, y41, z41⟩, st41⟩ := Jvm.LawKit.callS X40 hx (y := (⟨"com/example/version_parser/versionparser/DecimalDigitsValuePinLaw", "dig", "(JI)C"⟩ : MethodName)) hown (mvT hZ (hw _ (List.mem_of_getElem? (i := 4) rfl))) (mvT hZ (hw _ (List.mem_of_getElem? (i := 5) rfl))) (mvT hZ (hw _ (List.mem_of_getElem? (i := 6) rfl))) (mvT hZ (hw _ (List.mem_of_getElem? (i := 7) rfl))) (by decide) (backOf (W := 2) (own_m_dig l Z a0 hw [] ((Int64.ofNat N)) ((11 : Int32)) (11) h40 n0 (Nat.le_trans Z0 K40.1) ⟨rfl, by decide⟩) hZ (hw _ (List.mem_of_getElem? (i := 7) rfl)) (hw _ (List.mem_of_getElem? (i := 6) rfl)) (by decide) (by decide)) (g := (mkF m 100 #[.val (.long p1), .second, .val (.int p2), .val (.int p3), .val (.int p4), .val (.long (Int64.ofNat N)), .second, .val (.int tt), .val (.ref b27), .unset, .unset, .unset, .unset, .unset, .unset, .unset, .unset, .unset, .unset, .unset, .unset, .unset] [(.int (11 : Int32)), (.long (Int64.ofNat N)), (.int (6 : Int32)), (.ref b27)])) rfl (by rw [hml]; rfl) (argsL := [(.long (Int64.ofNat N)), (.int (11 : Int32))]) (rest := [(.int (6 : Int32)), (.ref b27)]) (lenOf own_pd2 rfl) rfl (by show 2 * 0 + _ ≤ _; exact Nat.le_of_eq rfl) (hb hby at_100) (fun _ _ => ⟨rfl, e40, (by decide : 7 + 1 ≤ _), (by decide : 134 + 19 ≤ _)⟩)
  dsimp only [Pt.U, Pt.locs, Pt.cells, Pt.slots] at X41 l41 y41 z41 st41 hQ41
  subst l41 y41 z41
  obtain ⟨rfl, Nq41, Kq41⟩ := hQ41
  have N41 := Fr.app N40 Nq41
  have f41_0 : Sta Z T41.heap "java/lang/String" "COMPACT_STRINGS" "Z" (.int cz) := own_sta_keep f40_0 Kq41 own_pl0
  have f41_1 : Sta Z T41.heap "jdk/internal/util/Preconditions" "SIOOBE_FORMATTER" "Ljava/util/function/BiFunction;" fm := own_sta_keep f40_1 Kq41 own_pl0
  have f41_2 : Arv Z T41.heap b27 k27 .char (20 : Int32) [(.int ((own_dg (Int64.ofNat N) (17 : Int32)).toUInt32.toUInt16.toUInt32.toInt32)), (.int ((own_dg (Int64.ofNat N) (16 : Int32)).toUInt32.toUInt16.toUInt32.toInt32)), (.int ((own_dg (Int64.ofNat N) (15 : Int32)).toUInt32.toUInt16.toUInt32.toInt32)), (.int ((own_dg (Int64.ofNat N) (14 : Int32)).toUInt32.toUInt16.toUInt32.toInt32)), (.int ((own_dg (Int64.ofNat N) (13 : Int32)).toUInt32.toUInt16.toUInt32.toInt32)), (.int ((own_dg (Int64.ofNat N) (12 : Int32)).toUInt32.toUInt16.toUInt32.toInt32)), (.int (0 : Int32)), (.int (0 : Int32)), (.int (0 : Int32)), (.int (0 : Int32)), (.int (0 : Int32)), (.int (0 : Int32)), (.int (0 : Int32)), (.int (0 : Int32)), (.int (0 : Int32)), (.int (0 : Int32)), (.int (0 : Int32)), (.int (0 : Int32)), (.int (0 : Int32)), (.int (0 : Int32))] (.int (0 : Int32)) := V40.keep Kq41 nin0
  have K41 : Keep h0 T41.heap [] := K40.trans Kq41 all0
  refine own_step (U' := (T41.setTop (mkF m 103 #[.val (.long p1), .second, .val (.int p2), .val (.int p3), .val (.int p4), .val (.long (Int64.ofNat N)), .second, .val (.int tt), .val (.ref b27), .unset, .unset, .unset, .unset, .unset, .unset, .unset, .unset, .unset, .unset, .unset, .unset, .unset] [(.int (own_dg (Int64.ofNat N) (11 : Int32))), (.int (6 : Int32)), (.ref b27)]))) (fun t ht => st41 _ ht) ?_
  obtain ⟨cl42, Ar42, q42, S42, N42_, H42, G42⟩ := (id f41_2)
  have hin42 : ¬ ((6 : Int32) < 0 ∨ cl42.slots.size ≤ ((6 : Int32)).toNatClampNeg) := inb_of S42 ⟨by decide, by decide⟩
  obtain ⟨T42, h42, X42, e42, W42, st42⟩ := stC X41 hx hZ rfl Ar42 (j := (6 : Int32)) hin42 (g := (mkF m 103 #[.val (.long p1), .second, .val (.int p2), .val (.int p3), .val (.int p4), .val (.long (Int64.ofNat N)), .second, .val (.int tt), .val (.ref b27), .unset, .unset, .unset, .unset, .unset, .unset, .unset, .unset, .unset, .unset, .unset, .unset, .unset] [(.int (own_dg (Int64.ofNat N) (11 : Int32))), (.int (6 : Int32)), (.ref b27)])) rfl rfl (hb hby at_103)
  have f42_0 : Sta Z h42 "java/lang/String" "COMPACT_STRINGS" "Z" (.int cz) := f41_0.wr W42
  have f42_1 : Sta Z h42 "jdk/internal/util/Preconditions" "SIOOBE_FORMATTER" "Ljava/util/function/BiFunction;" fm := f41_1.wr W42
  have V42 : Arv Z h42 b27 k27 .char (20 : Int32) [(.int ((own_dg (Int64.ofNat N) (17 : Int32)).toUInt32.toUInt16.toUInt32.toInt32)), (.int ((own_dg (Int64.ofNat N) (16 : Int32)).toUInt32.toUInt16.toUInt32.toInt32)), (.int ((own_dg (Int64.ofNat N) (15 : Int32)).toUInt32.toUInt16.toUInt32.toInt32)), (.int ((own_dg (Int64.ofNat N) (14 : Int32)).toUInt32.toUInt16.toUInt32.toInt32)), (.int ((own_dg (Int64.ofNat N) (13 : Int32)).toUInt32.toUInt16.toUInt32.toInt32)), (.int ((own_dg (Int64.ofNat N) (12 : Int32)).toUInt32.toUInt16.toUInt32.toInt32)), (.int ((own_dg (Int64.ofNat N) (11 : Int32)).toUInt32.toUInt16.toUInt32.toInt32)), (.int (0 : Int32)), (.int (0 : Int32)), (.int (0 : Int32)), (.int (0 : Int32)), (.int (0 : Int32)), (.int (0 : Int32)), (.int (0 : Int32)), (.int (0 : Int32)), (.int (0 : Int32)), (.int (0 : Int32)), (.int (0 : Int32)), (.int (0 : Int32)), (.int (0 : Int32))] (.int (0 : Int32)) := Arv.set Ar42 q42 S42 N42_ H42 G42 (fits_nar_char _) W42 6 rfl (Nat.le_of_ble_eq_true rfl)
  have N42 := Fr.snoc X42 N41 g_b27
  have K42 : Keep h0 h42 [] := K41.wr W42 (Or.inr sz_b27)
  refine own_step (U' := (T42.setTop (mkF m 104 #[.val (.long p1), .second, .val (.int p2), .val (.int p3), .val (.int p4), .val (.long (Int64.ofNat N)), .second, .val (.int tt), .val (.ref b27), .unset, .unset, .unset, .unset, .unset, .unset, .unset, .unset, .unset, .unset, .unset, .unset, .unset] []))) (fun t ht => st42 _ ht) ?_
  refine own_step (U' := (T42.setTop (mkF m 106 #[.val (.long p1), .second, .val (.int p2), .val (.int p3), .val (.int p4), .val (.long (Int64.ofNat N)), .second, .val (.int tt), .val (.ref b27), .unset, .unset, .unset, .unset, .unset, .unset, .unset, .unset, .unset, .unset, .unset, .unset, .unset] [(.ref b27)]))) (fun t ht => XS.aload X42.here hx rfl (hb hby at_104) rfl rfl ht) ?_
  refine own_step (U' := (T42.setTop (mkF m 108 #[.val (.long p1), .second, .val (.int p2), .val (.int p3), .val (.int p4), .val (.long (Int64.ofNat N)), .second, .val (.int tt), .val (.ref b27), .unset, .unset, .unset, .unset, .unset, .unset, .unset, .unset, .unset, .unset, .unset, .unset, .unset] [(.int (7 : Int32)), (.ref b27)]))) (fun t ht => XS.bipush X42.here hx rfl (hb hby at_106) ht) ?_
  refine own_step (U' := (T42.setTop (mkF m 110 #[.val (.long p1), .second, .val (.int p2), .val (.int p3), .val (.int p4), .val (.long (Int64.ofNat N)), .second, .val (.int tt), .val (.ref b27), .unset, .unset, .unset, .unset, .unset, .unset, .unset, .unset, .unset, .unset, .unset, .unset, .unset] [(.long (Int64.ofNat N)), (.int (7 : Int32)), (.ref b27)]))) (fun t ht => XT.lload X42.here hx rfl (hb hby at_108) rfl ht) ?_
  refine own_step (U' := (T42.setTop (mkF m 112 #[.val (.long p1), .second, .val (.int p2), .val (.int p3), .val (.int p4), .val (.long (Int64.ofNat N)), .second, .val (.int tt), .val (.ref b27), .unset, .unset, .unset, .unset, .unset, .unset, .unset, .unset, .unset, .unset, .unset, .unset, .unset] [(.int (10 : Int32)), (.long (Int64.ofNat N)), (.int (7 : Int32)), (.ref b27)]))) (fun t ht => XS.bipush X42.here hx rfl (hb hby at_110) ht) ?_
  obtain ⟨_, _, ⟨T43, L43, k43, n43⟩, -, X43, ⟨Lc43, hQ43, l43, y43, z43⟩, st43⟩ := Jvm.LawKit.callS X42 hx (y := (⟨"com/example/version_parser/versionparser/DecimalDigitsValuePinLaw", "dig", "(JI)C"⟩ : MethodName)) hown (mvT hZ (hw _ (List.mem_of_getElem? (i := 4) rfl))) (mvT hZ (hw _ (List.mem_of_getElem? (i := 5) rfl))) (mvT hZ (hw _ (List.mem_of_getElem? (i := 6) rfl))) (mvT hZ (hw _ (List.mem_of_getElem? (i := 7) rfl))) (by decide) (backOf (W := 2) (own_m_dig l Z a0 hw [] ((Int64.ofNat N)) ((10 : Int32)) (10) h42 n0 (Nat.le_trans Z0 K42.1) ⟨rfl, by decide⟩) hZ (hw _ (List.mem_of_getElem? (i := 7) rfl)) (hw _ (List.mem_of_getElem? (i := 6) rfl)) (by decide) (by decide)) (g := (mkF m 112 #[.val (.long p1), .second, .val (.int p2), .val (.int p3), .val (.int p4), .val (.long (Int64.ofNat N)), .second, .val (.int tt), .val (.ref b27), .unset, .unset, .unset, .unset, .unset, .unset, .unset, .unset, .unset, .unset, .unset, .unset, .unset] [(.int (10 : Int32)), (.long (Int64.ofNat N)), (.int (7 : Int32)), (.ref b27)])) rfl (by rw [hml]; rfl) (argsL := [(.long (Int64.ofNat N)), (.int (10 : Int32))]) (rest := [(.int (7 : Int32)), (.ref b27)]) (lenOf own_pd2 rfl) rfl (by show 2 * 0 + _ ≤ _; exact Nat.le_of_eq rfl) (hb hby at_112) (fun _ _ => ⟨rfl, e42, (by decide : 8 + 1 ≤ _), (by decide : 153 + 19 ≤ _)⟩)
  dsimp only [Pt.U, Pt.locs, Pt.cells, Pt.slots] at X43 l43 y43 z43 st43 hQ43
  subst l43 y43 z43
  obtain ⟨rfl, Nq43, Kq43⟩ := hQ43
  have N43 := Fr.app N42 Nq43
  have f43_0 : Sta Z T43.heap "java/lang/String" "COMPACT_STRINGS" "Z" (.int cz) := own_sta_keep f42_0 Kq43 own_pl0
  have f43_1 : Sta Z T43.heap "jdk/internal/util/Preconditions" "SIOOBE_FORMATTER" "Ljava/util/function/BiFunction;" fm := own_sta_keep f42_1 Kq43 own_pl0
  have f43_2 : Arv Z T43.heap b27 k27 .char (20 : Int32) [(.int ((own_dg (Int64.ofNat N) (17 : Int32)).toUInt32.toUInt16.toUInt32.toInt32)), (.int ((own_dg (Int64.ofNat N) (16 : Int32)).toUInt32.toUInt16.toUInt32.toInt32)), (.int ((own_dg (Int64.ofNat N) (15 : Int32)).toUInt32.toUInt16.toUInt32.toInt32)), (.int ((own_dg (Int64.ofNat N) (14 : Int32)).toUInt32.toUInt16.toUInt32.toInt32)), (.int ((own_dg (Int64.ofNat N) (13 : Int32)).toUInt32.toUInt16.toUInt32.toInt32)), (.int ((own_dg (Int64.ofNat N) (12 : Int32)).toUInt32.toUInt16.toUInt32.toInt32)), (.int ((own_dg (Int64.ofNat N) (11 : Int32)).toUInt32.toUInt16.toUInt32.toInt32)), (.int (0 : Int32)), (.int (0 : Int32)), (.int (0 : Int32)), (.int (0 : Int32)), (.int (0 : Int32)), (.int (0 : Int32)), (.int (0 : Int32)), (.int (0 : Int32)), (.int (0 : Int32)), (.int (0 : Int32)), (.int (0 : Int32)), (.int (0 : Int32)), (.int (0 : Int32))] (.int (0 : Int32)) := V42.keep Kq43 nin0
  have K43 : Keep h0 T43.heap [] := K42.trans Kq43 all0
  refine own_step (U' := (T43.setTop (mkF m 115 #[.val (.long p1), .second, .val (.int p2), .val (.int p3), .val (.int p4), .val (.long (Int64.ofNat N)), .second, .val (.int tt), .val (.ref b27), .unset, .unset, .unset, .unset, .unset, .unset, .unset, .unset, .unset, .unset, .unset, .unset, .unset] [(.int (own_dg (Int64.ofNat N) (10 : Int32))), (.int (7 : Int32)), (.ref b27)]))) (fun t ht => st43 _ ht) ?_
  obtain ⟨cl44, Ar44, q44, S44, N44_, H44, G44⟩ := (id f43_2)
  have hin44 : ¬ ((7 : Int32) < 0 ∨ cl44.slots.size ≤ ((7 : Int32)).toNatClampNeg) := inb_of S44 ⟨by decide, by decide⟩
  obtain ⟨T44, h44, X44, e44, W44, st44⟩ := stC X43 hx hZ rfl Ar44 (j := (7 : Int32)) hin44 (g := (mkF m 115 #[.val (.long p1), .second, .val (.int p2), .val (.int p3), .val (.int p4), .val (.long (Int64.ofNat N)), .second, .val (.int tt), .val (.ref b27), .unset, .unset, .unset, .unset, .unset, .unset, .unset, .unset, .unset, .unset, .unset, .unset, .unset] [(.int (own_dg (Int64.ofNat N) (10 : Int32))), (.int (7 : Int32)), (.ref b27)])) rfl rfl (hb hby at_115)
  have f44_0 : Sta Z h44 "java/lang/String" "COMPACT_STRINGS" "Z" (.int cz) := f43_0.wr W44
  have f44_1 : Sta Z h44 "jdk/internal/util/Preconditions" "SIOOBE_FORMATTER" "Ljava/util/function/BiFunction;" fm := f43_1.wr W44
  have V44 : Arv Z h44 b27 k27 .char (20 : Int32) [(.int ((own_dg (Int64.ofNat N) (17 : Int32)).toUInt32.toUInt16.toUInt32.toInt32)), (.int ((own_dg (Int64.ofNat N) (16 : Int32)).toUInt32.toUInt16.toUInt32.toInt32)), (.int ((own_dg (Int64.ofNat N) (15 : Int32)).toUInt32.toUInt16.toUInt32.toInt32)), (.int ((own_dg (Int64.ofNat N) (14 : Int32)).toUInt32.toUInt16.toUInt32.toInt32)), (.int ((own_dg (Int64.ofNat N) (13 : Int32)).toUInt32.toUInt16.toUInt32.toInt32)), (.int ((own_dg (Int64.ofNat N) (12 : Int32)).toUInt32.toUInt16.toUInt32.toInt32)), (.int ((own_dg (Int64.ofNat N) (11 : Int32)).toUInt32.toUInt16.toUInt32.toInt32)), (.int ((own_dg (Int64.ofNat N) (10 : Int32)).toUInt32.toUInt16.toUInt32.toInt32)), (.int (0 : Int32)), (.int (0 : Int32)), (.int (0 : Int32)), (.int (0 : Int32)), (.int (0 : Int32)), (.int (0 : Int32)), (.int (0 : Int32)), (.int (0 : Int32)), (.int (0 : Int32)), (.int (0 : Int32)), (.int (0 : Int32)), (.int (0 : Int32))] (.int (0 : Int32)) := Arv.set Ar44 q44 S44 N44_ H44 G44 (fits_nar_char _) W44 7 rfl (Nat.le_of_ble_eq_true rfl)
  have N44 := Fr.snoc X44 N43 g_b27
  have K44 : Keep h0 h44 [] := K43.wr W44 (Or.inr sz_b27)
  refine own_step (U' := (T44.setTop (mkF m 116 #[.val (.long p1), .second, .val (.int p2), .val (.int p3), .val (.int p4), .val (.long (Int64.ofNat N)), .second, .val (.int tt), .val (.ref b27), .unset, .unset, .unset, .unset, .unset, .unset, .unset, .unset, .unset, .unset, .unset, .unset, .unset] []))) (fun t ht => st44 _ ht) ?_
  refine own_step (U' := (T44.setTop (mkF m 118 #[.val (.long p1), .second, .val (.int p2), .val (.int p3), .val (.int p4), .val (.long (Int64.ofNat N)), .second, .val (.int tt), .val (.ref b27), .unset, .unset, .unset, .unset, .unset, .unset, .unset, .unset, .unset, .unset, .unset, .unset, .unset] [(.ref b27)]))) (fun t ht => XS.aload X44.here hx rfl (hb hby at_116) rfl rfl ht) ?_
  refine own_step (U' := (T44.setTop (mkF m 120 #[.val (.long p1), .second, .val (.int p2), .val (.int p3), .val (.int p4), .val (.long (Int64.ofNat N)), .second, .val (.int tt), .val (.ref b27), .unset, .unset, .unset, .unset, .unset, .unset, .unset, .unset, .unset, .unset, .unset, .unset, .unset] [(.int (8 : Int32)), (.ref b27)]))) (fun t ht => XS.bipush X44.here hx rfl (hb hby at_118) ht) ?_
  refine own_step (U' := (T44.setTop (mkF m 122 #[.val (.long p1), .second, .val (.int p2), .val (.int p3), .val (.int p4), .val (.long (Int64.ofNat N)), .second, .val (.int tt), .val (.ref b27), .unset, .unset, .unset, .unset, .unset, .unset, .unset, .unset, .unset, .unset, .unset, .unset, .unset] [(.long (Int64.ofNat N)), (.int (8 : Int32)), (.ref b27)]))) (fun t ht => XT.lload X44.here hx rfl (hb hby at_120) rfl ht) ?_
  refine own_step (U' := (T44.setTop (mkF m 124 #[.val (.long p1), .second, .val (.int p2), .val (.int p3), .val (.int p4), .val (.long (Int64.ofNat N)), .second, .val (.int tt), .val (.ref b27), .unset, .unset, .unset, .unset, .unset, .unset, .unset, .unset, .unset, .unset, .unset, .unset, .unset] [(.int (9 : Int32)), (.long (Int64.ofNat N)), (.int (8 : Int32)), (.ref b27)]))) (fun t ht => XS.bipush X44.here hx rfl (hb hby at_122) ht) ?_
  obtain ⟨Lo46, Xo46, No46⟩ : ∃ Lx, Stand p l e room_1 s m #[(.long p1), (.int p2), (.int p3), (.int p4)] below meth c T44 Lx 9 172 ∧ Fr n0 Lx := ⟨_, X44, N44⟩
  obtain ⟨_, _, ⟨T45, L45, k45, n45⟩, -, X45, ⟨Lc45, hQ45, l45, y45, z45⟩, st45⟩ := Jvm.LawKit.callS Xo46 hx (y := (⟨"com/example/version_parser/versionparser/DecimalDigitsValuePinLaw", "dig", "(JI)C"⟩ : MethodName)) hown (mvT hZ (hw _ (List.mem_of_getElem? (i := 4) rfl))) (mvT hZ (hw _ (List.mem_of_getElem? (i := 5) rfl))) (mvT hZ (hw _ (List.mem_of_getElem? (i := 6) rfl))) (mvT hZ (hw _ (List.mem_of_getElem? (i := 7) rfl))) (by decide) (backOf (W := 2) (own_m_dig l Z a0 hw [] ((Int64.ofNat N)) ((9 : Int32)) (9) h44 n0 (Nat.le_trans Z0 K44.1) ⟨rfl, by decide⟩) hZ (hw _ (List.mem_of_getElem? (i := 7) rfl)) (hw _ (List.mem_of_getElem? (i := 6) rfl)) (by decide) (by decide)) (g := (mkF m 124 #[.val (.long p1), .second, .val (.int p2), .val (.int p3), .val (.int p4), .val (.long (Int64.ofNat N)), .second, .val (.int tt), .val (.ref b27), .unset, .unset, .unset, .unset, .unset, .unset, .unset, .unset, .unset, .unset, .unset, .unset, .unset] [(.int (9 : Int32)), (.long (Int64.ofNat N)), (.int (8 : Int32)), (.ref b27)])) rfl (by rw [hml]; rfl) (argsL := [(.long (Int64.ofNat N)), (.int (9 : Int32))]) (rest := [(.int (8 : Int32)), (.ref b27)]) (lenOf own_pd2 rfl) rfl (by show 2 * 0 + _ ≤ _; exact Nat.le_of_eq rfl) (hb hby at_124) (fun _ _ => ⟨rfl, e44, (by decide : 9 + 1 ≤ _), (by decide : 172 + 19 ≤ _)⟩)
  dsimp only [Pt.U, Pt.locs, Pt.cells, Pt.slots] at X45 l45 y45 z45 st45 hQ45
  subst l45 y45 z45
  obtain ⟨rfl, Nq45, Kq45⟩ := hQ45
  have N45 := Fr.app No46 Nq45
  have f45_0 : Sta Z T45.heap "java/lang/String" "COMPACT_STRINGS" "Z" (.int cz) := own_sta_keep f44_0 Kq45 own_pl0
  have f45_1 : Sta Z T45.heap "jdk/internal/util/Preconditions" "SIOOBE_FORMATTER" "Ljava/util/function/BiFunction;" fm := own_sta_keep f44_1 Kq45 own_pl0
  have f45_2 : Arv Z T45.heap b27 k27 .char (20 : Int32) [(.int ((own_dg (Int64.ofNat N) (17 : Int32)).toUInt32.toUInt16.toUInt32.toInt32)), (.int ((own_dg (Int64.ofNat N) (16 : Int32)).toUInt32.toUInt16.toUInt32.toInt32)), (.int ((own_dg (Int64.ofNat N) (15 : Int32)).toUInt32.toUInt16.toUInt32.toInt32)), (.int ((own_dg (Int64.ofNat N) (14 : Int32)).toUInt32.toUInt16.toUInt32.toInt32)), (.int ((own_dg (Int64.ofNat N) (13 : Int32)).toUInt32.toUInt16.toUInt32.toInt32)), (.int ((own_dg (Int64.ofNat N) (12 : Int32)).toUInt32.toUInt16.toUInt32.toInt32)), (.int ((own_dg (Int64.ofNat N) (11 : Int32)).toUInt32.toUInt16.toUInt32.toInt32)), (.int ((own_dg (Int64.ofNat N) (10 : Int32)).toUInt32.toUInt16.toUInt32.toInt32)), (.int (0 : Int32)), (.int (0 : Int32)), (.int (0 : Int32)), (.int (0 : Int32)), (.int (0 : Int32)), (.int (0 : Int32)), (.int (0 : Int32)), (.int (0 : Int32)), (.int (0 : Int32)), (.int (0 : Int32)), (.int (0 : Int32)), (.int (0 : Int32))] (.int (0 : Int32)) := V44.keep Kq45 nin0
  have K45 : Keep h0 T45.heap [] := K44.trans Kq45 all0
  refine own_step (U' := (T45.setTop (mkF m 127 #[.val (.long p1), .second, .val (.int p2), .val (.int p3), .val (.int p4), .val (.long (Int64.ofNat N)), .second, .val (.int tt), .val (.ref b27), .unset, .unset, .unset, .unset, .unset, .unset, .unset, .unset, .unset, .unset, .unset, .unset, .unset] [(.int (own_dg (Int64.ofNat N) (9 : Int32))), (.int (8 : Int32)), (.ref b27)]))) (fun t ht => st45 _ ht) ?_
  obtain ⟨cl47, Ar47, q47, S47, N47_, H47, G47⟩ := (id f45_2)
  have hin47 : ¬ ((8 : Int32) < 0 ∨ cl47.slots.size ≤ ((8 : Int32)).toNatClampNeg) := inb_of S47 ⟨by decide, by decide⟩
  obtain ⟨T47, h47, X47, e47, W47, st47⟩ := stC X45 hx hZ rfl Ar47 (j := (8 : Int32)) hin47 (g := (mkF m 127 #[.val (.long p1), .second, .val (.int p2), .val (.int p3), .val (.int p4), .val (.long (Int64.ofNat N)), .second, .val (.int tt), .val (.ref b27), .unset, .unset, .unset, .unset, .unset, .unset, .unset, .unset, .unset, .unset, .unset, .unset, .unset] [(.int (own_dg (Int64.ofNat N) (9 : Int32))), (.int (8 : Int32)), (.ref b27)])) rfl rfl (hb hby at_127)
  have f47_0 : Sta Z h47 "java/lang/String" "COMPACT_STRINGS" "Z" (.int cz) := f45_0.wr W47
  have f47_1 : Sta Z h47 "jdk/internal/util/Preconditions" "SIOOBE_FORMATTER" "Ljava/util/function/BiFunction;" fm := f45_1.wr W47
  have V47 : Arv Z h47 b27 k27 .char (20 : Int32) [(.int ((own_dg (Int64.ofNat N) (17 : Int32)).toUInt32.toUInt16.toUInt32.toInt32)), (.int ((own_dg (Int64.ofNat N) (16 : Int32)).toUInt32.toUInt16.toUInt32.toInt32)), (.int ((own_dg (Int64.ofNat N) (15 : Int32)).toUInt32.toUInt16.toUInt32.toInt32)), (.int ((own_dg (Int64.ofNat N) (14 : Int32)).toUInt32.toUInt16.toUInt32.toInt32)), (.int ((own_dg (Int64.ofNat N) (13 : Int32)).toUInt32.toUInt16.toUInt32.toInt32)), (.int ((own_dg (Int64.ofNat N) (12 : Int32)).toUInt32.toUInt16.toUInt32.toInt32)), (.int ((own_dg (Int64.ofNat N) (11 : Int32)).toUInt32.toUInt16.toUInt32.toInt32)), (.int ((own_dg (Int64.ofNat N) (10 : Int32)).toUInt32.toUInt16.toUInt32.toInt32)), (.int ((own_dg (Int64.ofNat N) (9 : Int32)).toUInt32.toUInt16.toUInt32.toInt32)), (.int (0 : Int32)), (.int (0 : Int32)), (.int (0 : Int32)), (.int (0 : Int32)), (.int (0 : Int32)), (.int (0 : Int32)), (.int (0 : Int32)), (.int (0 : Int32)), (.int (0 : Int32)), (.int (0 : Int32)), (.int (0 : Int32))] (.int (0 : Int32)) := Arv.set Ar47 q47 S47 N47_ H47 G47 (fits_nar_char _) W47 8 rfl (Nat.le_of_ble_eq_true rfl)
  have N47 := Fr.snoc X47 N45 g_b27
  have K47 : Keep h0 h47 [] := K45.wr W47 (Or.inr sz_b27)
  refine own_step (U' := (T47.setTop (mkF m 128 #[.val (.long p1), .second, .val (.int p2), .val (.int p3), .val (.int p4), .val (.long (Int64.ofNat N)), .second, .val (.int tt), .val (.ref b27), .unset, .unset, .unset, .unset, .unset, .unset, .unset, .unset, .unset, .unset, .unset, .unset, .unset] []))) (fun t ht => st47 _ ht) ?_
  refine own_step (U' := (T47.setTop (mkF m 130 #[.val (.long p1), .second, .val (.int p2), .val (.int p3), .val (.int p4), .val (.long (Int64.ofNat N)), .second, .val (.int tt), .val (.ref b27), .unset, .unset, .unset, .unset, .unset, .unset, .unset, .unset, .unset, .unset, .unset, .unset, .unset] [(.ref b27)]))) (fun t ht => XS.aload X47.here hx rfl (hb hby at_128) rfl rfl ht) ?_
  refine own_step (U' := (T47.setTop (mkF m 132 #[.val (.long p1), .second, .val (.int p2), .val (.int p3), .val (.int p4), .val (.long (Int64.ofNat N)), .second, .val (.int tt), .val (.ref b27), .unset, .unset, .unset, .unset, .unset, .unset, .unset, .unset, .unset, .unset, .unset, .unset, .unset] [(.int (9 : Int32)), (.ref b27)]))) (fun t ht => XS.bipush X47.here hx rfl (hb hby at_130) ht) ?_
  refine own_step (U' := (T47.setTop (mkF m 134 #[.val (.long p1), .second, .val (.int p2), .val (.int p3), .val (.int p4), .val (.long (Int64.ofNat N)), .second, .val (.int tt), .val (.ref b27), .unset, .unset, .unset, .unset, .unset, .unset, .unset, .unset, .unset, .unset, .unset, .unset, .unset] [(.long (Int64.ofNat N)), (.int (9 : Int32)), (.ref b27)]))) (fun t ht => XT.lload X47.here hx rfl (hb hby at_132) rfl ht) ?_
  refine own_step (U' := (T47.setTop (mkF m 136 #[.val (.long p1), .second, .val (.int p2), .val (.int p3), .val (.int p4), .val (.long (Int64.ofNat N)), .second, .val (.int tt), .val (.ref b27), .unset, .unset, .unset, .unset, .unset, .unset, .unset, .unset, .unset, .unset, .unset, .unset, .unset] [(.int (8 : Int32)), (.long (Int64.ofNat N)), (.int (9 : Int32)), (.ref b27)]))) (fun t ht => XS.bipush X47.here hx rfl (hb hby at_134) ht) ?_
  obtain ⟨_, _, ⟨T48, L48, k48, n48⟩, -, X48, ⟨Lc48, hQ48, l48, y48, z48⟩, st48⟩ := Jvm.LawKit.callS X47 hx (y := (⟨"com/example/version_parser/versionparser/DecimalDigitsValuePinLaw", "dig", "(JI)C"⟩ : MethodName)) hown (mvT hZ (hw _ (List.mem_of_getElem? (i := 4) rfl))) (mvT hZ (hw _ (List.mem_of_getElem? (i := 5) rfl))) (mvT hZ (hw _ (List.mem_of_getElem? (i := 6) rfl))) (mvT hZ (hw _ (List.mem_of_getElem? (i := 7) rfl))) (by decide) (backOf (W := 2) (own_m_dig l Z a0 hw [] ((Int64.ofNat N)) ((8 : Int32)) (8) h47 n0 (Nat.le_trans Z0 K47.1) ⟨rfl, by decide⟩) hZ (hw _ (List.mem_of_getElem? (i := 7) rfl)) (hw _ (List.mem_of_getElem? (i := 6) rfl)) (by decide) (by decide)) (g := (mkF m 136 #[.val (.long p1), .second, .val (.int p2), .val (.int p3), .val (.int p4), .val (.long (Int64.ofNat N)), .second, .val (.int tt), .val (.ref b27), .unset, .unset, .unset, .unset, .unset, .unset, .unset, .unset, .unset, .unset, .unset, .unset, .unset] [(.int (8 : Int32)), (.long (Int64.ofNat N)), (.int (9 : Int32)), (.ref b27)])) rfl (by rw [hml]; rfl) (argsL := [(.long (Int64.ofNat N)), (.int (8 : Int32))]) (rest := [(.int (9 : Int32)), (.ref b27)]) (lenOf own_pd2 rfl) rfl (by show 2 * 0 + _ ≤ _; exact Nat.le_of_eq rfl) (hb hby at_136) (fun _ _ => ⟨rfl, e47, (by decide : 10 + 1 ≤ _), (by decide : 191 + 19 ≤ _)⟩)
  dsimp only [Pt.U, Pt.locs, Pt.cells, Pt.slots] at X48 l48 y48 z48 st48 hQ48
  subst l48 y48 z48
  obtain ⟨rfl, Nq48, Kq48⟩ := hQ48
  have N48 := Fr.app N47 Nq48
  have f48_0 : Sta Z T48.heap "java/lang/String" "COMPACT_STRINGS" "Z" (.int cz) := own_sta_keep f47_0 Kq48 own_pl0
  have f48_1 : Sta Z T48.heap "jdk/internal/util/Preconditions" "SIOOBE_FORMATTER" "Ljava/util/function/BiFunction;" fm := own_sta_keep f47_1 Kq48 own_pl0
  have f48_2 : Arv Z T48.heap b27 k27 .char (20 : Int32) [(.int ((own_dg (Int64.ofNat N) (17 : Int32)).toUInt32.toUInt16.toUInt32.toInt32)), (.int ((own_dg (Int64.ofNat N) (16 : Int32)).toUInt32.toUInt16.toUInt32.toInt32)), (.int ((own_dg (Int64.ofNat N) (15 : Int32)).toUInt32.toUInt16.toUInt32.toInt32)), (.int ((own_dg (Int64.ofNat N) (14 : Int32)).toUInt32.toUInt16.toUInt32.toInt32)), (.int ((own_dg (Int64.ofNat N) (13 : Int32)).toUInt32.toUInt16.toUInt32.toInt32)), (.int ((own_dg (Int64.ofNat N) (12 : Int32)).toUInt32.toUInt16.toUInt32.toInt32)), (.int ((own_dg (Int64.ofNat N) (11 : Int32)).toUInt32.toUInt16.toUInt32.toInt32)), (.int ((own_dg (Int64.ofNat N) (10 : Int32)).toUInt32.toUInt16.toUInt32.toInt32)), (.int ((own_dg (Int64.ofNat N) (9 : Int32)).toUInt32.toUInt16.toUInt32.toInt32)), (.int (0 : Int32)), (.int (0 : Int32)), (.int (0 : Int32)), (.int (0 : Int32)), (.int (0 : Int32)), (.int (0 : Int32)), (.int (0 : Int32)), (.int (0 : Int32)), (.int (0 : Int32)), (.int (0 : Int32)), (.int (0 : Int32))] (.int (0 : Int32)) := V47.keep Kq48 nin0
  have K48 : Keep h0 T48.heap [] := K47.trans Kq48 all0
  refine own_step (U' := (T48.setTop (mkF m 139 #[.val (.long p1), .second, .val (.int p2), .val (.int p3), .val (.int p4), .val (.long (Int64.ofNat N)), .second, .val (.int tt), .val (.ref b27), .unset, .unset, .unset, .unset, .unset, .unset, .unset, .unset, .unset, .unset, .unset, .unset, .unset] [(.int (own_dg (Int64.ofNat N) (8 : Int32))), (.int (9 : Int32)), (.ref b27)]))) (fun t ht => st48 _ ht) ?_
  obtain ⟨cl49, Ar49, q49, S49, N49_, H49, G49⟩ := (id f48_2)
  have hin49 : ¬ ((9 : Int32) < 0 ∨ cl49.slots.size ≤ ((9 : Int32)).toNatClampNeg) := inb_of S49 ⟨by decide, by decide⟩
  obtain ⟨T49, h49, X49, e49, W49, st49⟩ := stC X48 hx hZ rfl Ar49 (j := (9 : Int32)) hin49 (g := (mkF m 139 #[.val (.long p1), .second, .val (.int p2), .val (.int p3), .val (.int p4), .val (.long (Int64.ofNat N)), .second, .val (.int tt), .val (.ref b27), .unset, .unset, .unset, .unset, .unset, .unset, .unset, .unset, .unset, .unset, .unset, .unset, .unset] [(.int (own_dg (Int64.ofNat N) (8 : Int32))), (.int (9 : Int32)), (.ref b27)])) rfl rfl (hb hby at_139)
  have f49_0 : Sta Z h49 "java/lang/String" "COMPACT_STRINGS" "Z" (.int cz) := f48_0.wr W49
  have f49_1 : Sta Z h49 "jdk/internal/util/Preconditions" "SIOOBE_FORMATTER" "Ljava/util/function/BiFunction;" fm := f48_1.wr W49
  have V49 : Arv Z h49 b27 k27 .char (20 : Int32) [(.int ((own_dg (Int64.ofNat N) (17 : Int32)).toUInt32.toUInt16.toUInt32.toInt32)), (.int ((own_dg (Int64.ofNat N) (16 : Int32)).toUInt32.toUInt16.toUInt32.toInt32)), (.int ((own_dg (Int64.ofNat N) (15 : Int32)).toUInt32.toUInt16.toUInt32.toInt32)), (.int ((own_dg (Int64.ofNat N) (14 : Int32)).toUInt32.toUInt16.toUInt32.toInt32)), (.int ((own_dg (Int64.ofNat N) (13 : Int32)).toUInt32.toUInt16.toUInt32.toInt32)), (.int ((own_dg (Int64.ofNat N) (12 : Int32)).toUInt32.toUInt16.toUInt32.toInt32)), (.int ((own_dg (Int64.ofNat N) (11 : Int32)).toUInt32.toUInt16.toUInt32.toInt32)), (.int ((own_dg (Int64.ofNat N) (10 : Int32)).toUInt32.toUInt16.toUInt32.toInt32)), (.int ((own_dg (Int64.ofNat N) (9 : Int32)).toUInt32.toUInt16.toUInt32.toInt32)), (.int ((own_dg (Int64.ofNat N) (8 : Int32)).toUInt32.toUInt16.toUInt32.toInt32)), (.int (0 : Int32)), (.int (0 : Int32)), (.int (0 : Int32)), (.int (0 : Int32)), (.int (0 : Int32)), (.int (0 : Int32)), (.int (0 : Int32)), (.int (0 : Int32)), (.int (0 : Int32)), (.int (0 : Int32))] (.int (0 : Int32)) := Arv.set Ar49 q49 S49 N49_ H49 G49 (fits_nar_char _) W49 9 rfl (Nat.le_of_ble_eq_true rfl)
  have N49 := Fr.snoc X49 N48 g_b27
  have K49 : Keep h0 h49 [] := K48.wr W49 (Or.inr sz_b27)
  refine own_step (U' := (T49.setTop (mkF m 140 #[.val (.long p1), .second, .val (.int p2), .val (.int p3), .val (.int p4), .val (.long (Int64.ofNat N)), .second, .val (.int tt), .val (.ref b27), .unset, .unset, .unset, .unset, .unset, .unset, .unset, .unset, .unset, .unset, .unset, .unset, .unset] []))) (fun t ht => st49 _ ht) ?_
  refine own_step (U' := (T49.setTop (mkF m 142 #[.val (.long p1), .second, .val (.int p2), .val (.int p3), .val (.int p4), .val (.long (Int64.ofNat N)), .second, .val (.int tt), .val (.ref b27), .unset, .unset, .unset, .unset, .unset, .unset, .unset, .unset, .unset, .unset, .unset, .unset, .unset] [(.ref b27)]))) (fun t ht => XS.aload X49.here hx rfl (hb hby at_140) rfl rfl ht) ?_
  refine own_step (U' := (T49.setTop (mkF m 144 #[.val (.long p1), .second, .val (.int p2), .val (.int p3), .val (.int p4), .val (.long (Int64.ofNat N)), .second, .val (.int tt), .val (.ref b27), .unset, .unset, .unset, .unset, .unset, .unset, .unset, .unset, .unset, .unset, .unset, .unset, .unset] [(.int (10 : Int32)), (.ref b27)]))) (fun t ht => XS.bipush X49.here hx rfl (hb hby at_142) ht) ?_
  refine own_step (U' := (T49.setTop (mkF m 146 #[.val (.long p1), .second, .val (.int p2), .val (.int p3), .val (.int p4), .val (.long (Int64.ofNat N)), .second, .val (.int tt), .val (.ref b27), .unset, .unset, .unset, .unset, .unset, .unset, .unset, .unset, .unset, .unset, .unset, .unset, .unset] [(.long (Int64.ofNat N)), (.int (10 : Int32)), (.ref b27)]))) (fun t ht => XT.lload X49.here hx rfl (hb hby at_144) rfl ht) ?_
  refine own_step (U' := (T49.setTop (mkF m 148 #[.val (.long p1), .second, .val (.int p2), .val (.int p3), .val (.int p4), .val (.long (Int64.ofNat N)), .second, .val (.int tt), .val (.ref b27), .unset, .unset, .unset, .unset, .unset, .unset, .unset, .unset, .unset, .unset, .unset, .unset, .unset] [(.int (7 : Int32)), (.long (Int64.ofNat N)), (.int (10 : Int32)), (.ref b27)]))) (fun t ht => XS.bipush X49.here hx rfl (hb hby at_146) ht) ?_
  obtain ⟨_, _, ⟨T50, L50, k50, n50⟩, -, X50, ⟨Lc50, hQ50, l50, y50, z50⟩, st50⟩ := Jvm.LawKit.callS X49 hx (y := (⟨"com/example/version_parser/versionparser/DecimalDigitsValuePinLaw", "dig", "(JI)C"⟩ : MethodName)) hown (mvT hZ (hw _ (List.mem_of_getElem? (i := 4) rfl))) (mvT hZ (hw _ (List.mem_of_getElem? (i := 5) rfl))) (mvT hZ (hw _ (List.mem_of_getElem? (i := 6) rfl))) (mvT hZ (hw _ (List.mem_of_getElem? (i := 7) rfl))) (by decide) (backOf (W := 2) (own_m_dig l Z a0 hw [] ((Int64.ofNat N)) ((7 : Int32)) (7) h49 n0 (Nat.le_trans Z0 K49.1) ⟨rfl, by decide⟩) hZ (hw _ (List.mem_of_getElem? (i := 7) rfl)) (hw _ (List.mem_of_getElem? (i := 6) rfl)) (by decide) (by decide)) (g := (mkF m 148 #[.val (.long p1), .second, .val (.int p2), .val (.int p3), .val (.int p4), .val (.long (Int64.ofNat N)), .second, .val (.int tt), .val (.ref b27), .unset, .unset, .unset, .unset, .unset, .unset, .unset, .unset, .unset, .unset, .unset, .unset, .unset] [(.int (7 : Int32)), (.long (Int64.ofNat N)), (.int (10 : Int32)), (.ref b27)])) rfl (by rw [hml]; rfl) (argsL := [(.long (Int64.ofNat N)), (.int (7 : Int32))]) (rest := [(.int (10 : Int32)), (.ref b27)]) (lenOf own_pd2 rfl) rfl (by show 2 * 0 + _ ≤ _; exact Nat.le_of_eq rfl) (hb hby at_148) (fun _ _ => ⟨rfl, e49, (by decide : 11 + 1 ≤ _), (by decide : 210 + 19 ≤ _)⟩)
  dsimp only [Pt.U, Pt.locs, Pt.cells, Pt.slots] at X50 l50 y50 z50 st50 hQ50
  subst l50 y50 z50
  obtain ⟨rfl, Nq50, Kq50⟩ := hQ50
  have N50 := Fr.app N49 Nq50
  have f50_0 : Sta Z T50.heap "java/lang/String" "COMPACT_STRINGS" "Z" (.int cz) := own_sta_keep f49_0 Kq50 own_pl0
  have f50_1 : Sta Z T50.heap "jdk/internal/util/Preconditions" "SIOOBE_FORMATTER" "Ljava/util/function/BiFunction;" fm := own_sta_keep f49_1 Kq50 own_pl0
  have f50_2 : Arv Z T50.heap b27 k27 .char (20 : Int32) [(.int ((own_dg (Int64.ofNat N) (17 : Int32)).toUInt32.toUInt16.toUInt32.toInt32)), (.int ((own_dg (Int64.ofNat N) (16 : Int32)).toUInt32.toUInt16.toUInt32.toInt32)), (.int ((own_dg (Int64.ofNat N) (15 : Int32)).toUInt32.toUInt16.toUInt32.toInt32)), (.int ((own_dg (Int64.ofNat N) (14 : Int32)).toUInt32.toUInt16.toUInt32.toInt32)), (.int ((own_dg (Int64.ofNat N) (13 : Int32)).toUInt32.toUInt16.toUInt32.toInt32)), (.int ((own_dg (Int64.ofNat N) (12 : Int32)).toUInt32.toUInt16.toUInt32.toInt32)), (.int ((own_dg (Int64.ofNat N) (11 : Int32)).toUInt32.toUInt16.toUInt32.toInt32)), (.int ((own_dg (Int64.ofNat N) (10 : Int32)).toUInt32.toUInt16.toUInt32.toInt32)), (.int ((own_dg (Int64.ofNat N) (9 : Int32)).toUInt32.toUInt16.toUInt32.toInt32)), (.int ((own_dg (Int64.ofNat N) (8 : Int32)).toUInt32.toUInt16.toUInt32.toInt32)), (.int (0 : Int32)), (.int (0 : Int32)), (.int (0 : Int32)), (.int (0 : Int32)), (.int (0 : Int32)), (.int (0 : Int32)), (.int (0 : Int32)), (.int (0 : Int32)), (.int (0 : Int32)), (.int (0 : Int32))] (.int (0 : Int32)) := V49.keep Kq50 nin0
  have K50 : Keep h0 T50.heap [] := K49.trans Kq50 all0
  refine own_step (U' := (T50.setTop (mkF m 151 #[.val (.long p1), .second, .val (.int p2), .val (.int p3), .val (.int p4), .val (.long (Int64.ofNat N)), .second, .val (.int tt), .val (.ref b27), .unset, .unset, .unset, .unset, .unset, .unset, .unset, .unset, .unset, .unset, .unset, .unset, .unset] [(.int (own_dg (Int64.ofNat N) (7 : Int32))), (.int (10 : Int32)), (.ref b27)]))) (fun t ht => st50 _ ht) ?_
  obtain ⟨cl51, Ar51, q51, S51, N51_, H51, G51⟩ := (id f50_2)
  have hin51 : ¬ ((10 : Int32) < 0 ∨ cl51.slots.size ≤ ((10 : Int32)).toNatClampNeg) := inb_of S51 ⟨by decide, by decide⟩
  obtain ⟨T51, h51, X51, e51, W51, st51⟩ := stC X50 hx hZ rfl Ar51 (j := (10 : Int32)) hin51 (g := (mkF m 151 #[.val (.long p1), .second, .val (.int p2), .val (.int p3), .val (.int p4), .val (.long (Int64.ofNat N)), .second, .val (.int tt), .val (.ref b27), .unset, .unset, .unset, .unset, .unset, .unset, .unset, .unset, .unset, .unset, .unset, .unset, .unset] [(.int (own_dg (Int64.ofNat N) (7 : Int32))), (.int (10 : Int32)), (.ref b27)])) rfl rfl (hb hby at_151)
  have f51_0 : Sta Z h51 "java/lang/String" "COMPACT_STRINGS" "Z" (.int cz) := f50_0.wr W51
  have f51_1 : Sta Z h51 "jdk/internal/util/Preconditions" "SIOOBE_FORMATTER" "Ljava/util/function/BiFunction;" fm := f50_1.wr W51
  have V51 : Arv Z h51 b27 k27 .char (20 : Int32) [(.int ((own_dg (Int64.ofNat N) (17 : Int32)).toUInt32.toUInt16.toUInt32.toInt32)), (.int ((own_dg (Int64.ofNat N) (16 : Int32)).toUInt32.toUInt16.toUInt32.toInt32)), (.int ((own_dg (Int64.ofNat N) (15 : Int32)).toUInt32.toUInt16.toUInt32.toInt32)), (.int ((own_dg (Int64.ofNat N) (14 : Int32)).toUInt32.toUInt16.toUInt32.toInt32)), (.int ((own_dg (Int64.ofNat N) (13 : Int32)).toUInt32.toUInt16.toUInt32.toInt32)), (.int ((own_dg (Int64.ofNat N) (12 : Int32)).toUInt32.toUInt16.toUInt32.toInt32)), (.int ((own_dg (Int64.ofNat N) (11 : Int32)).toUInt32.toUInt16.toUInt32.toInt32)), (.int ((own_dg (Int64.ofNat N) (10 : Int32)).toUInt32.toUInt16.toUInt32.toInt32)), (.int ((own_dg (Int64.ofNat N) (9 : Int32)).toUInt32.toUInt16.toUInt32.toInt32)), (.int ((own_dg (Int64.ofNat N) (8 : Int32)).toUInt32.toUInt16.toUInt32.toInt32)), (.int ((own_dg (Int64.ofNat N) (7 : Int32)).toUInt32.toUInt16.toUInt32.toInt32)), (.int (0 : Int32)), (.int (0 : Int32)), (.int (0 : Int32)), (.int (0 : Int32)), (.int (0 : Int32)), (.int (0 : Int32)), (.int (0 : Int32)), (.int (0 : Int32)), (.int (0 : Int32))] (.int (0 : Int32)) := Arv.set Ar51 q51 S51 N51_ H51 G51 (fits_nar_char _) W51 10 rfl (Nat.le_of_ble_eq_true rfl)
  have N51 := Fr.snoc X51 N50 g_b27
  have K51 : Keep h0 h51 [] := K50.wr W51 (Or.inr sz_b27)
  refine own_step (U' := (T51.setTop (mkF m 152 #[.val (.long p1), .second, .val (.int p2), .val (.int p3), .val (.int p4), .val (.long (Int64.ofNat N)), .second, .val (.int tt), .val (.ref b27), .unset, .unset, .unset, .unset, .unset, .unset, .unset, .unset, .unset, .unset, .unset, .unset, .unset] []))) (fun t ht => st51 _ ht) ?_
  refine own_step (U' := (T51.setTop (mkF m 154 #[.val (.long p1), .second, .val (.int p2), .val (.int p3), .val (.int p4), .val (.long (Int64.ofNat N)), .second, .val (.int tt), .val (.ref b27), .unset, .unset, .unset, .unset, .unset, .unset, .unset, .unset, .unset, .unset, .unset, .unset, .unset] [(.ref b27)]))) (fun t ht => XS.aload X51.here hx rfl (hb hby at_152) rfl rfl ht) ?_
  refine own_step (U' := (T51.setTop (mkF m 156 #[.val (.long p1), .second, .val (.int p2), .val (.int p3), .val (.int p4), .val (.long (Int64.ofNat N)), .second, .val (.int tt), .val (.ref b27), .unset, .unset, .unset, .unset, .unset, .unset, .unset, .unset, .unset, .unset, .unset, .unset, .unset] [(.int (11 : Int32)), (.ref b27)]))) (fun t ht => XS.bipush X51.here hx rfl (hb hby at_154) ht) ?_
  refine own_step (U' := (T51.setTop (mkF m 158 #[.val (.long p1), .second, .val (.int p2), .val (.int p3), .val (.int p4), .val (.long (Int64.ofNat N)), .second, .val (.int tt), .val (.ref b27), .unset, .unset, .unset, .unset, .unset, .unset, .unset, .unset, .unset, .unset, .unset, .unset, .unset] [(.long (Int64.ofNat N)), (.int (11 : Int32)), (.ref b27)]))) (fun t ht => XT.lload X51.here hx rfl (hb hby at_156) rfl ht) ?_
  refine own_step (U' := (T51.setTop (mkF m 160 #[.val (.long p1), .second, .val (.int p2), .val (.int p3), .val (.int p4), .val (.long (Int64.ofNat N)), .second, .val (.int tt), .val (.ref b27), .unset, .unset, .unset, .unset, .unset, .unset, .unset, .unset, .unset, .unset, .unset, .unset, .unset] [(.int (6 : Int32)), (.long (Int64.ofNat N)), (.int (11 : Int32)), (.ref b27)]))) (fun t ht => XS.bipush X51.here hx rfl (hb hby at_158) ht) ?_
  obtain ⟨_, _, ⟨T52, L52, k52, n52⟩, -, X52, ⟨Lc52, hQ52, l52, y52, z52⟩, st52⟩ := Jvm.LawKit.callS X51 hx (y := (⟨"com/example/version_parser/versionparser/DecimalDigitsValuePinLaw", "dig", "(JI)C"⟩ : MethodName)) hown (mvT hZ (hw _ (List.mem_of_getElem? (i := 4) rfl))) (mvT hZ (hw _ (List.mem_of_getElem? (i := 5) rfl))) (mvT hZ (hw _ (List.mem_of_getElem? (i := 6) rfl))) (mvT hZ (hw _ (List.mem_of_getElem? (i := 7) rfl))) (by decide) (backOf (W := 2) (own_m_dig l Z a0 hw [] ((Int64.ofNat N)) ((6 : Int32)) (6) h51 n0 (Nat.le_trans Z0 K51.1) ⟨rfl, by decide⟩) hZ (hw _ (List.mem_of_getElem? (i := 7) rfl)) (hw _ (List.mem_of_getElem? (i := 6) rfl)) (by decide) (by decide)) (g := (mkF m 160 #[.val (.long p1), .second, .val (.int p2), .val (.int p3), .val (.int p4), .val (.long (Int64.ofNat N)), .second, .val (.int tt), .val (.ref b27), .unset, .unset, .unset, .unset, .unset, .unset, .unset, .unset, .unset, .unset, .unset, .unset, .unset] [(.int (6 : Int32)), (.long (Int64.ofNat N)), (.int (11 : Int32)), (.ref b27)])) rfl (by rw [hml]; rfl) (argsL := [(.long (Int64.ofNat N)), (.int (6 : Int32))]) (rest := [(.int (11 : Int32)), (.ref b27)]) (lenOf own_pd2 rfl) rfl (by show 2 * 0 + _ ≤ _; exact Nat.le_of_eq rfl) (hb hby at_160) (fun _ _ => ⟨rfl, e51, (by decide : 12 + 1 ≤ _), (by decide : 229 + 19 ≤ _)⟩)
  dsimp only [Pt.U, Pt.locs, Pt.cells, Pt.slots] at X52 l52 y52 z52 st52 hQ52
  subst l52 y52 z52
  obtain ⟨rfl, Nq52, Kq52⟩ := hQ52
  have N52 := Fr.app N51 Nq52
  have f52_0 : Sta Z T52.heap "java/lang/String" "COMPACT_STRINGS" "Z" (.int cz) := own_sta_keep f51_0 Kq52 own_pl0
  have f52_1 : Sta Z T52.heap "jdk/internal/util/Preconditions" "SIOOBE_FORMATTER" "Ljava/util/function/BiFunction;" fm := own_sta_keep f51_1 Kq52 own_pl0
  have f52_2 : Arv Z T52.heap b27 k27 .char (20 : Int32) [(.int ((own_dg (Int64.ofNat N) (17 : Int32)).toUInt32.toUInt16.toUInt32.toInt32)), (.int ((own_dg (Int64.ofNat N) (16 : Int32)).toUInt32.toUInt16.toUInt32.toInt32)), (.int ((own_dg (Int64.ofNat N) (15 : Int32)).toUInt32.toUInt16.toUInt32.toInt32)), (.int ((own_dg (Int64.ofNat N) (14 : Int32)).toUInt32.toUInt16.toUInt32.toInt32)), (.int ((own_dg (Int64.ofNat N) (13 : Int32)).toUInt32.toUInt16.toUInt32.toInt32)), (.int ((own_dg (Int64.ofNat N) (12 : Int32)).toUInt32.toUInt16.toUInt32.toInt32)), (.int ((own_dg (Int64.ofNat N) (11 : Int32)).toUInt32.toUInt16.toUInt32.toInt32)), (.int ((own_dg (Int64.ofNat N) (10 : Int32)).toUInt32.toUInt16.toUInt32.toInt32)), (.int ((own_dg (Int64.ofNat N) (9 : Int32)).toUInt32.toUInt16.toUInt32.toInt32)), (.int ((own_dg (Int64.ofNat N) (8 : Int32)).toUInt32.toUInt16.toUInt32.toInt32)), (.int ((own_dg (Int64.ofNat N) (7 : Int32)).toUInt32.toUInt16.toUInt32.toInt32)), (.int (0 : Int32)), (.int (0 : Int32)), (.int (0 : Int32)), (.int (0 : Int32)), (.int (0 : Int32)), (.int (0 : Int32)), (.int (0 : Int32)), (.int (0 : Int32)), (.int (0 : Int32))] (.int (0 : Int32)) := V51.keep Kq52 nin0
  have K52 : Keep h0 T52.heap [] := K51.trans Kq52 all0
  refine own_step (U' := (T52.setTop (mkF m 163 #[.val (.long p1), .second, .val (.int p2), .val (.int p3), .val (.int p4), .val (.long (Int64.ofNat N)), .second, .val (.int tt), .val (.ref b27), .unset, .unset, .unset, .unset, .unset, .unset, .unset, .unset, .unset, .unset, .unset, .unset, .unset] [(.int (own_dg (Int64.ofNat N) (6 : Int32))), (.int (11 : Int32)), (.ref b27)]))) (fun t ht => st52 _ ht) ?_
  obtain ⟨cl53, Ar53, q53, S53, N53_, H53, G53⟩ := (id f52_2)
  have hin53 : ¬ ((11 : Int32) < 0 ∨ cl53.slots.size ≤ ((11 : Int32)).toNatClampNeg) := inb_of S53 ⟨by decide, by decide⟩
  obtain ⟨T53, h53, X53, e53, W53, st53⟩ := stC X52 hx hZ rfl Ar53 (j := (11 : Int32)) hin53 (g := (mkF m 163 #[.val (.long p1), .second, .val (.int p2), .val (.int p3), .val (.int p4), .val (.long (Int64.ofNat N)), .second, .val (.int tt), .val (.ref b27), .unset, .unset, .unset, .unset, .unset, .unset, .unset, .unset, .unset, .unset, .unset, .unset, .unset] [(.int (own_dg (Int64.ofNat N) (6 : Int32))), (.int (11 : Int32)), (.ref b27)])) rfl rfl (hb hby at_163)
  have f53_0 : Sta Z h53 "java/lang/String" "COMPACT_STRINGS" "Z" (.int cz) := f52_0.wr W53
  have f53_1 : Sta Z h53 "jdk/internal/util/Preconditions" "SIOOBE_FORMATTER" "Ljava/util/function/BiFunction;" fm := f52_1.wr W53
  have V53 : Arv Z h53 b27 k27 .char (20 : Int32) [(.int ((own_dg (Int64.ofNat N) (17 : Int32)).toUInt32.toUInt16.toUInt32.toInt32)), (.int ((own_dg (Int64.ofNat N) (16 : Int32)).toUInt32.toUInt16.toUInt32.toInt32)), (.int ((own_dg (Int64.ofNat N) (15 : Int32)).toUInt32.toUInt16.toUInt32.toInt32)), (.int ((own_dg (Int64.ofNat N) (14 : Int32)).toUInt32.toUInt16.toUInt32.toInt32)), (.int ((own_dg (Int64.ofNat N) (13 : Int32)).toUInt32.toUInt16.toUInt32.toInt32)), (.int ((own_dg (Int64.ofNat N) (12 : Int32)).toUInt32.toUInt16.toUInt32.toInt32)), (.int ((own_dg (Int64.ofNat N) (11 : Int32)).toUInt32.toUInt16.toUInt32.toInt32)), (.int ((own_dg (Int64.ofNat N) (10 : Int32)).toUInt32.toUInt16.toUInt32.toInt32)), (.int ((own_dg (Int64.ofNat N) (9 : Int32)).toUInt32.toUInt16.toUInt32.toInt32)), (.int ((own_dg (Int64.ofNat N) (8 : Int32)).toUInt32.toUInt16.toUInt32.toInt32)), (.int ((own_dg (Int64.ofNat N) (7 : Int32)).toUInt32.toUInt16.toUInt32.toInt32)), (.int ((own_dg (Int64.ofNat N) (6 : Int32)).toUInt32.toUInt16.toUInt32.toInt32)), (.int (0 : Int32)), (.int (0 : Int32)), (.int (0 : Int32)), (.int (0 : Int32)), (.int (0 : Int32)), (.int (0 : Int32)), (.int (0 : Int32)), (.int (0 : Int32))] (.int (0 : Int32)) := Arv.set Ar53 q53 S53 N53_ H53 G53 (fits_nar_char _) W53 11 rfl (Nat.le_of_ble_eq_true rfl)
  have N53 := Fr.snoc X53 N52 g_b27
  have K53 : Keep h0 h53 [] := K52.wr W53 (Or.inr sz_b27)
  refine own_step (U' := (T53.setTop (mkF m 164 #[.val (.long p1), .second, .val (.int p2), .val (.int p3), .val (.int p4), .val (.long (Int64.ofNat N)), .second, .val (.int tt), .val (.ref b27), .unset, .unset, .unset, .unset, .unset, .unset, .unset, .unset, .unset, .unset, .unset, .unset, .unset] []))) (fun t ht => st53 _ ht) ?_
  refine own_step (U' := (T53.setTop (mkF m 166 #[.val (.long p1), .second, .val (.int p2), .val (.int p3), .val (.int p4), .val (.long (Int64.ofNat N)), .second, .val (.int tt), .val (.ref b27), .unset, .unset, .unset, .unset, .unset, .unset, .unset, .unset, .unset, .unset, .unset, .unset, .unset] [(.ref b27)]))) (fun t ht => XS.aload X53.here hx rfl (hb hby at_164) rfl rfl ht) ?_
  refine own_step (U' := (T53.setTop (mkF m 168 #[.val (.long p1), .second, .val (.int p2), .val (.int p3), .val (.int p4), .val (.long (Int64.ofNat N)), .second, .val (.int tt), .val (.ref b27), .unset, .unset, .unset, .unset, .unset, .unset, .unset, .unset, .unset, .unset, .unset, .unset, .unset] [(.int (12 : Int32)), (.ref b27)]))) (fun t ht => XS.bipush X53.here hx rfl (hb hby at_166) ht) ?_
  refine own_step (U' := (T53.setTop (mkF m 170 #[.val (.long p1), .second, .val (.int p2), .val (.int p3), .val (.int p4), .val (.long (Int64.ofNat N)), .second, .val (.int tt), .val (.ref b27), .unset, .unset, .unset, .unset, .unset, .unset, .unset, .unset, .unset, .unset, .unset, .unset, .unset] [(.long (Int64.ofNat N)), (.int (12 : Int32)), (.ref b27)]))) (fun t ht => XT.lload X53.here hx rfl (hb hby at_168) rfl ht) ?_
  refine own_step (U' := (T53.setTop (mkF m 171 #[.val (.long p1), .second, .val (.int p2), .val (.int p3), .val (.int p4), .val (.long (Int64.ofNat N)), .second, .val (.int tt), .val (.ref b27), .unset, .unset, .unset, .unset, .unset, .unset, .unset, .unset, .unset, .unset, .unset, .unset, .unset] [(.int (5 : Int32)), (.long (Int64.ofNat N)), (.int (12 : Int32)), (.ref b27)]))) (fun t ht => XS.iconst X53.here hx rfl (hb hby at_170) ht) ?_
  obtain ⟨Lo55, Xo55, No55⟩ : ∃ Lx, Stand p l e room_1 s m #[(.long p1), (.int p2), (.int p3), (.int p4)] below meth c T53 Lx 13 248 ∧ Fr n0 Lx := ⟨_, X53, N53⟩
  obtain ⟨_, _, ⟨T54, L54, k54, n54⟩, -, X54, ⟨Lc54, hQ54, l54, y54, z54⟩, st54⟩ := Jvm.LawKit.callS Xo55 hx (y := (⟨"com/example/version_parser/versionparser/DecimalDigitsValuePinLaw", "dig", "(JI)C"⟩ : MethodName)) hown (mvT hZ (hw _ (List.mem_of_getElem? (i := 4) rfl))) (mvT hZ (hw _ (List.mem_of_getElem? (i := 5) rfl))) (mvT hZ (hw _ (List.mem_of_getElem? (i := 6) rfl))) (mvT hZ (hw _ (List.mem_of_getElem? (i := 7) rfl))) (by decide) (backOf (W := 2) (own_m_dig l Z a0 hw [] ((Int64.ofNat N)) ((5 : Int32)) (5) h53 n0 (Nat.le_trans Z0 K53.1) ⟨rfl, by decide⟩) hZ (hw _ (List.mem_of_getElem? (i := 7) rfl)) (hw _ (List.mem_of_getElem? (i := 6) rfl)) (by decide) (by decide)) (g := (mkF m 171 #[.val (.long p1), .second, .val (.int p2), .val (.int p3), .val (.int p4), .val (.long (Int64.ofNat N)), .second, .val (.int tt), .val (.ref b27), .unset, .unset, .unset, .unset, .unset, .unset, .unset, .unset, .unset, .unset, .unset, .unset, .unset] [(.int (5 : Int32)), (.long (Int64.ofNat N)), (.int (12 : Int32)), (.ref b27)])) rfl (by rw [hml]; rfl) (argsL := [(.long (Int64.ofNat N)), (.int (5 : Int32))]) (rest := [(.int (12 : Int32)), (.ref b27)]) (lenOf own_pd2 rfl) rfl (by show 2 * 0 + _ ≤ _; exact Nat.le_of_eq rfl) (hb hby at_171) (fun _ _ => ⟨rfl, e53, (by decide : 13 + 1 ≤ _), (by decide : 248 + 19 ≤ _)⟩)
  dsimp only [Pt.U, Pt.locs, Pt.cells, Pt.slots] at X54 l54 y54 z54 st54 hQ54
  subst l54 y54 z54
  obtain ⟨rfl, Nq54, Kq54⟩ := hQ54
  have N54 := Fr.app No55 Nq54
  have f54_0 : Sta Z T54.heap "java/lang/String" "COMPACT_STRINGS" "Z" (.int cz) := own_sta_keep f53_0 Kq54 own_pl0
  have f54_1 : Sta Z T54.heap "jdk/internal/util/Preconditions" "SIOOBE_FORMATTER" "Ljava/util/function/BiFunction;" fm := own_sta_keep f53_1 Kq54 own_pl0
  have f54_2 : Arv Z T54.heap b27 k27 .char (20 : Int32) [(.int ((own_dg (Int64.ofNat N) (17 : Int32)).toUInt32.toUInt16.toUInt32.toInt32)), (.int ((own_dg (Int64.ofNat N) (16 : Int32)).toUInt32.toUInt16.toUInt32.toInt32)), (.int ((own_dg (Int64.ofNat N) (15 : Int32)).toUInt32.toUInt16.toUInt32.toInt32)), (.int ((own_dg (Int64.ofNat N) (14 : Int32)).toUInt32.toUInt16.toUInt32.toInt32)), (.int ((own_dg (Int64.ofNat N) (13 : Int32)).toUInt32.toUInt16.toUInt32.toInt32)), (.int ((own_dg (Int64.ofNat N) (12 : Int32)).toUInt32.toUInt16.toUInt32.toInt32)), (.int ((own_dg (Int64.ofNat N) (11 : Int32)).toUInt32.toUInt16.toUInt32.toInt32)), (.int ((own_dg (Int64.ofNat N) (10 : Int32)).toUInt32.toUInt16.toUInt32.toInt32)), (.int ((own_dg (Int64.ofNat N) (9 : Int32)).toUInt32.toUInt16.toUInt32.toInt32)), (.int ((own_dg (Int64.ofNat N) (8 : Int32)).toUInt32.toUInt16.toUInt32.toInt32)), (.int ((own_dg (Int64.ofNat N) (7 : Int32)).toUInt32.toUInt16.toUInt32.toInt32)), (.int ((own_dg (Int64.ofNat N) (6 : Int32)).toUInt32.toUInt16.toUInt32.toInt32)), (.int (0 : Int32)), (.int (0 : Int32)), (.int (0 : Int32)), (.int (0 : Int32)), (.int (0 : Int32)), (.int (0 : Int32)), (.int (0 : Int32)), (.int (0 : Int32))] (.int (0 : Int32)) := V53.keep Kq54 nin0
  have K54 : Keep h0 T54.heap [] := K53.trans Kq54 all0
  refine own_step (U' := (T54.setTop (mkF m 174 #[.val (.long p1), .second, .val (.int p2), .val (.int p3), .val (.int p4), .val (.long (Int64.ofNat N)), .second, .val (.int tt), .val (.ref b27), .unset, .unset, .unset, .unset, .unset, .unset, .unset, .unset, .unset, .unset, .unset, .unset, .unset] [(.int (own_dg (Int64.ofNat N) (5 : Int32))), (.int (12 : Int32)), (.ref b27)]))) (fun t ht => st54 _ ht) ?_
  obtain ⟨cl56, Ar56, q56, S56, N56_, H56, G56⟩ := (id f54_2)
  have hin56 : ¬ ((12 : Int32) < 0 ∨ cl56.slots.size ≤ ((12 : Int32)).toNatClampNeg) := inb_of S56 ⟨by decide, by decide⟩
  obtain ⟨T56, h56, X56, e56, W56, st56⟩ := stC X54 hx hZ rfl Ar56 (j := (12 : Int32)) hin56 (g := (mkF m 174 #[.val (.long p1), .second, .val (.int p2), .val (.int p3), .val (.int p4), .val (.long (Int64.ofNat N)), .second, .val (.int tt), .val (.ref b27), .unset, .unset, .unset, .unset, .unset, .unset, .unset, .unset, .unset, .unset, .unset, .unset, .unset] [(.int (own_dg (Int64.ofNat N) (5 : Int32))), (.int (12 : Int32)), (.ref b27)])) rfl rfl (hb hby at_174)
  have f56_0 : Sta Z h56 "java/lang/String" "COMPACT_STRINGS" "Z" (.int cz) := f54_0.wr W56
  have f56_1 : Sta Z h56 "jdk/internal/util/Preconditions" "SIOOBE_FORMATTER" "Ljava/util/function/BiFunction;" fm := f54_1.wr W56
  have V56 : Arv Z h56 b27 k27 .char (20 : Int32) [(.int ((own_dg (Int64.ofNat N) (17 : Int32)).toUInt32.toUInt16.toUInt32.toInt32)), (.int ((own_dg (Int64.ofNat N) (16 : Int32)).toUInt32.toUInt16.toUInt32.toInt32)), (.int ((own_dg (Int64.ofNat N) (15 : Int32)).toUInt32.toUInt16.toUInt32.toInt32)), (.int ((own_dg (Int64.ofNat N) (14 : Int32)).toUInt32.toUInt16.toUInt32.toInt32)), (.int ((own_dg (Int64.ofNat N) (13 : Int32)).toUInt32.toUInt16.toUInt32.toInt32)), (.int ((own_dg (Int64.ofNat N) (12 : Int32)).toUInt32.toUInt16.toUInt32.toInt32)), (.int ((own_dg (Int64.ofNat N) (11 : Int32)).toUInt32.toUInt16.toUInt32.toInt32)), (.int ((own_dg (Int64.ofNat N) (10 : Int32)).toUInt32.toUInt16.toUInt32.toInt32)), (.int ((own_dg (Int64.ofNat N) (9 : Int32)).toUInt32.toUInt16.toUInt32.toInt32)), (.int ((own_dg (Int64.ofNat N) (8 : Int32)).toUInt32.toUInt16.toUInt32.toInt32)), (.int ((own_dg (Int64.ofNat N) (7 : Int32)).toUInt32.toUInt16.toUInt32.toInt32)), (.int ((own_dg (Int64.ofNat N) (6 : Int32)).toUInt32.toUInt16.toUInt32.toInt32)), (.int ((own_dg (Int64.ofNat N) (5 : Int32)).toUInt32.toUInt16.toUInt32.toInt32)), (.int (0 : Int32)), (.int (0 : Int32)), (.int (0 : Int32)), (.int (0 : Int32)), (.int (0 : Int32)), (.int (0 : Int32)), (.int (0 : Int32))] (.int (0 : Int32)) := Arv.set Ar56 q56 S56 N56_ H56 G56 (fits_nar_char _) W56 12 rfl (Nat.le_of_ble_eq_true rfl)
  have N56 := Fr.snoc X56 N54 g_b27
  have K56 : Keep h0 h56 [] := K54.wr W56 (Or.inr sz_b27)
  refine own_step (U' := (T56.setTop (mkF m 175 #[.val (.long p1), .second, .val (.int p2), .val (.int p3), .val (.int p4), .val (.long (Int64.ofNat N)), .second, .val (.int tt), .val (.ref b27), .unset, .unset, .unset, .unset, .unset, .unset, .unset, .unset, .unset, .unset, .unset, .unset, .unset] []))) (fun t ht => st56 _ ht) ?_
  refine own_step (U' := (T56.setTop (mkF m 177 #[.val (.long p1), .second, .val (.int p2), .val (.int p3), .val (.int p4), .val (.long (Int64.ofNat N)), .second, .val (.int tt), .val (.ref b27), .unset, .unset, .unset, .unset, .unset, .unset, .unset, .unset, .unset, .unset, .unset, .unset, .unset] [(.ref b27)]))) (fun t ht => XS.aload X56.here hx rfl (hb hby at_175) rfl rfl ht) ?_
  refine own_step (U' := (T56.setTop (mkF m 179 #[.val (.long p1), .second, .val (.int p2), .val (.int p3), .val (.int p4), .val (.long (Int64.ofNat N)), .second, .val (.int tt), .val (.ref b27), .unset, .unset, .unset, .unset, .unset, .unset, .unset, .unset, .unset, .unset, .unset, .unset, .unset] [(.int (13 : Int32)), (.ref b27)]))) (fun t ht => XS.bipush X56.here hx rfl (hb hby at_177) ht) ?_
  refine own_step (U' := (T56.setTop (mkF m 181 #[.val (.long p1), .second, .val (.int p2), .val (.int p3), .val (.int p4), .val (.long (Int64.ofNat N)), .second, .val (.int tt), .val (.ref b27), .unset, .unset, .unset, .unset, .unset, .unset, .unset, .unset, .unset, .unset, .unset, .unset, .unset] [(.long (Int64.ofNat N)), (.int (13 : Int32)), (.ref b27)]))) (fun t ht => XT.lload X56.here hx rfl (hb hby at_179) rfl ht) ?_
  refine own_step (U' := (T56.setTop (mkF m 182 #[.val (.long p1), .second, .val (.int p2), .val (.int p3), .val (.int p4), .val (.long (Int64.ofNat N)), .second, .val (.int tt), .val (.ref b27), .unset, .unset, .unset, .unset, .unset, .unset, .unset, .unset, .unset, .unset, .unset, .unset, .unset] [(.int (4 : Int32)), (.long (Int64.ofNat N)), (.int (13 : Int32)), (.ref b27)]))) (fun t ht => XS.iconst X56.here hx rfl (hb hby at_181) ht) ?_
  obtain ⟨_, _, ⟨T57, L57, k57, n57⟩, -, X57, ⟨Lc57, hQ57, l57, y57, z57⟩, st57⟩ := Jvm.LawKit.callS X56 hx (y := (⟨"com/example/version_parser/versionparser/DecimalDigitsValuePinLaw", "dig", "(JI)C"⟩ : MethodName)) hown (mvT hZ (hw _ (List.mem_of_getElem? (i := 4) rfl))) (mvT hZ (hw _ (List.mem_of_getElem? (i := 5) rfl))) (mvT hZ (hw _ (List.mem_of_getElem? (i := 6) rfl))) (mvT hZ (hw _ (List.mem_of_getElem? (i := 7) rfl))) (by decide) (backOf (W := 2) (own_m_dig l Z a0 hw [] ((Int64.ofNat N)) ((4 : Int32)) (4) h56 n0 (Nat.le_trans Z0 K56.1) ⟨rfl, by decide⟩) hZ (hw _ (List.mem_of_getElem? (i := 7) rfl)) (hw _ (List.mem_of_getElem? (i := 6) rfl)) (by decide) (by decide)) (g := (mkF m 182 #[.val (.long p1), .second, .val (.int p2), .val (.int p3), .val (.int p4), .val (.long (Int64.ofNat N)), .second, .val (.int tt), .val (.ref b27), .unset, .unset, .unset, .unset, .unset, .unset, .unset, .unset, .unset, .unset, .unset, .unset, .unset] [(.int (4 : Int32)), (.long (Int64.ofNat N)), (.int (13 : Int32)), (.ref b27)])) rfl (by rw [hml]; rfl) (argsL := [(.long (Int64.ofNat N)), (.int (4 : Int32))]) (rest := [(.int (13 : Int32)), (.ref b27)]) (lenOf own_pd2 rfl) rfl (by show 2 * 0 + _ ≤ _; exact Nat.le_of_eq rfl) (hb hby at_182) (fun _ _ => ⟨rfl, e56, (by decide : 14 + 1 ≤ _), (by decide : 267 + 19 ≤ _)⟩)
  dsimp only [Pt.U, Pt.locs, Pt.cells, Pt.slots] at X57 l57 y57 z57 st57 hQ57
  subst l57 y57 z57
  obtain ⟨rfl, Nq57, Kq57⟩ := hQ57
  have N57 := Fr.app N56 Nq57
  have f57_0 : Sta Z T57.heap "java/lang/String" "COMPACT_STRINGS" "Z" (.int cz) := own_sta_keep f56_0 Kq57 own_pl0
  have f57_1 : Sta Z T57.heap "jdk/internal/util/Preconditions" "SIOOBE_FORMATTER" "Ljava/util/function/BiFunction;" fm := own_sta_keep f56_1 Kq57 own_pl0
  have f57_2 : Arv Z T57.heap b27 k27 .char (20 : Int32) [(.int ((own_dg (Int64.ofNat N) (17 : Int32)).toUInt32.toUInt16.toUInt32.toInt32)), (.int ((own_dg (Int64.ofNat N) (16 : Int32)).toUInt32.toUInt16.toUInt32.toInt32)), (.int ((own_dg (Int64.ofNat N) (15 : Int32)).toUInt32.toUInt16.toUInt32.toInt32)), (.int ((own_dg (Int64.ofNat N) (14 : Int32)).toUInt32.toUInt16.toUInt32.toInt32)), (.int ((own_dg (Int64.ofNat N) (13 : Int32)).toUInt32.toUInt16.toUInt32.toInt32)), (.int ((own_dg (Int64.ofNat N) (12 : Int32)).toUInt32.toUInt16.toUInt32.toInt32)), (.int ((own_dg (Int64.ofNat N) (11 : Int32)).toUInt32.toUInt16.toUInt32.toInt32)), (.int ((own_dg (Int64.ofNat N) (10 : Int32)).toUInt32.toUInt16.toUInt32.toInt32)), (.int ((own_dg (Int64.ofNat N) (9 : Int32)).toUInt32.toUInt16.toUInt32.toInt32)), (.int ((own_dg (Int64.ofNat N) (8 : Int32)).toUInt32.toUInt16.toUInt32.toInt32)), (.int ((own_dg (Int64.ofNat N) (7 : Int32)).toUInt32.toUInt16.toUInt32.toInt32)), (.int ((own_dg (Int64.ofNat N) (6 : Int32)).toUInt32.toUInt16.toUInt32.toInt32)), (.int ((own_dg (Int64.ofNat N) (5 : Int32)).toUInt32.toUInt16.toUInt32.toInt32)), (.int (0 : Int32)), (.int (0 : Int32)), (.int (0 : Int32)), (.int (0 : Int32)), (.int (0 : Int32)), (.int (0 : Int32)), (.int (0 : Int32))] (.int (0 : Int32)) := V56.keep Kq57 nin0
  have K57 : Keep h0 T57.heap [] := K56.trans Kq57 all0
  refine own_step (U' := (T57.setTop (mkF m 185 #[.val (.long p1), .second, .val (.int p2), .val (.int p3), .val (.int p4), .val (.long (Int64.ofNat N)), .second, .val (.int tt), .val (.ref b27), .unset, .unset, .unset, .unset, .unset, .unset, .unset, .unset, .unset, .unset, .unset, .unset, .unset] [(.int (own_dg (Int64.ofNat N) (4 : Int32))), (.int (13 : Int32)), (.ref b27)]))) (fun t ht => st57 _ ht) ?_
  obtain ⟨cl58, Ar58, q58, S58, N58_, H58, G58⟩ := (id f57_2)
  have hin58 : ¬ ((13 : Int32) < 0 ∨ cl58.slots.size ≤ ((13 : Int32)).toNatClampNeg) := inb_of S58 ⟨by decide, by decide⟩
  obtain ⟨T58, h58, X58, e58, W58, st58⟩ := stC X57 hx hZ rfl Ar58 (j := (13 : Int32)) hin58 (g := (mkF m 185 #[.val (.long p1), .second, .val (.int p2), .val (.int p3), .val (.int p4), .val (.long (Int64.ofNat N)), .second, .val (.int tt), .val (.ref b27), .unset, .unset, .unset, .unset, .unset, .unset, .unset, .unset, .unset, .unset, .unset, .unset, .unset] [(.int (own_dg (Int64.ofNat N) (4 : Int32))), (.int (13 : Int32)), (.ref b27)])) rfl rfl (hb hby at_185)
  have f58_0 : Sta Z h58 "java/lang/String" "COMPACT_STRINGS" "Z" (.int cz) := f57_0.wr W58
  have f58_1 : Sta Z h58 "jdk/internal/util/Preconditions" "SIOOBE_FORMATTER" "Ljava/util/function/BiFunction;" fm := f57_1.wr W58
  have V58 : Arv Z h58 b27 k27 .char (20 : Int32) [(.int ((own_dg (Int64.ofNat N) (17 : Int32)).toUInt32.toUInt16.toUInt32.toInt32)), (.int ((own_dg (Int64.ofNat N) (16 : Int32)).toUInt32.toUInt16.toUInt32.toInt32)), (.int ((own_dg (Int64.ofNat N) (15 : Int32)).toUInt32.toUInt16.toUInt32.toInt32)), (.int ((own_dg (Int64.ofNat N) (14 : Int32)).toUInt32.toUInt16.toUInt32.toInt32)), (.int ((own_dg (Int64.ofNat N) (13 : Int32)).toUInt32.toUInt16.toUInt32.toInt32)), (.int ((own_dg (Int64.ofNat N) (12 : Int32)).toUInt32.toUInt16.toUInt32.toInt32)), (.int ((own_dg (Int64.ofNat N) (11 : Int32)).toUInt32.toUInt16.toUInt32.toInt32)), (.int ((own_dg (Int64.ofNat N) (10 : Int32)).toUInt32.toUInt16.toUInt32.toInt32)), (.int ((own_dg (Int64.ofNat N) (9 : Int32)).toUInt32.toUInt16.toUInt32.toInt32)), (.int ((own_dg (Int64.ofNat N) (8 : Int32)).toUInt32.toUInt16.toUInt32.toInt32)), (.int ((own_dg (Int64.ofNat N) (7 : Int32)).toUInt32.toUInt16.toUInt32.toInt32)), (.int ((own_dg (Int64.ofNat N) (6 : Int32)).toUInt32.toUInt16.toUInt32.toInt32)), (.int ((own_dg (Int64.ofNat N) (5 : Int32)).toUInt32.toUInt16.toUInt32.toInt32)), (.int ((own_dg (Int64.ofNat N) (4 : Int32)).toUInt32.toUInt16.toUInt32.toInt32)), (.int (0 : Int32)), (.int (0 : Int32)), (.int (0 : Int32)), (.int (0 : Int32)), (.int (0 : Int32)), (.int (0 : Int32))] (.int (0 : Int32)) := Arv.set Ar58 q58 S58 N58_ H58 G58 (fits_nar_char _) W58 13 rfl (Nat.le_of_ble_eq_true rfl)
  have N58 := Fr.snoc X58 N57 g_b27
  have K58 : Keep h0 h58 [] := K57.wr W58 (Or.inr sz_b27)
  refine own_step (U' := (T58.setTop (mkF m 186 #[.val (.long p1), .second, .val (.int p2), .val (.int p3), .val (.int p4), .val (.long (Int64.ofNat N)), .second, .val (.int tt), .val (.ref b27), .unset, .unset, .unset, .unset, .unset, .unset, .unset, .unset, .unset, .unset, .unset, .unset, .unset] []))) (fun t ht => st58 _ ht) ?_
  refine own_step (U' := (T58.setTop (mkF m 188 #[.val (.long p1), .second, .val (.int p2), .val (.int p3), .val (.int p4), .val (.long (Int64.ofNat N)), .second, .val (.int tt), .val (.ref b27), .unset, .unset, .unset, .unset, .unset, .unset, .unset, .unset, .unset, .unset, .unset, .unset, .unset] [(.ref b27)]))) (fun t ht => XS.aload X58.here hx rfl (hb hby at_186) rfl rfl ht) ?_
  refine own_step (U' := (T58.setTop (mkF m 190 #[.val (.long p1), .second, .val (.int p2), .val (.int p3), .val (.int p4), .val (.long (Int64.ofNat N)), .second, .val (.int tt), .val (.ref b27), .unset, .unset, .unset, .unset, .unset, .unset, .unset, .unset, .unset, .unset, .unset, .unset, .unset] [(.int (14 : Int32)), (.ref b27)]))) (fun t ht => XS.bipush X58.here hx rfl (hb hby at_188) ht) ?_
  refine own_step (U' := (T58.setTop (mkF m 192 #[.val (.long p1), .second, .val (.int p2), .val (.int p3), .val (.int p4), .val (.long (Int64.ofNat N)), .second, .val (.int tt), .val (.ref b27), .unset, .unset, .unset, .unset, .unset, .unset, .unset, .unset, .unset, .unset, .unset, .unset, .unset] [(.long (Int64.ofNat N)), (.int (14 : Int32)), (.ref b27)]))) (fun t ht => XT.lload X58.here hx rfl (hb hby at_190) rfl ht) ?_
  refine own_step (U' := (T58.setTop (mkF m 193 #[.val (.long p1), .second, .val (.int p2), .val (.int p3), .val (.int p4), .val (.long (Int64.ofNat N)), .second, .val (.int tt), .val (.ref b27), .unset, .unset, .unset, .unset, .unset, .unset, .unset, .unset, .unset, .unset, .unset, .unset, .unset] [(.int (3 : Int32)), (.long (Int64.ofNat N)), (.int (14 : Int32)), (.ref b27)]))) (fun t ht => XS.iconst X58.here hx rfl (hb hby at_192) ht) ?_
  obtain ⟨_, _, ⟨T59, L59, k59, n59⟩, -, X59, ⟨Lc59, hQ59, l59, y59, z59⟩, st59⟩ := Jvm.LawKit.callS X58 hx (y := (⟨"com/example/version_parser/versionparser/DecimalDigitsValuePinLaw", "dig", "(JI)C"⟩ : MethodName)) hown (mvT hZ (hw _ (List.mem_of_getElem? (i := 4) rfl))) (mvT hZ (hw _ (List.mem_of_getElem? (i := 5) rfl))) (mvT hZ (hw _ (List.mem_of_getElem? (i := 6) rfl))) (mvT hZ (hw _ (List.mem_of_getElem? (i := 7) rfl))) (by decide) (backOf (W := 2) (own_m_dig l Z a0 hw [] ((Int64.ofNat N)) ((3 : Int32)) (3) h58 n0 (Nat.le_trans Z0 K58.1) ⟨rfl, by decide⟩) hZ (hw _ (List.mem_of_getElem? (i := 7) rfl)) (hw _ (List.mem_of_getElem? (i := 6) rfl)) (by decide) (by decide)) (g := (mkF m 193 #[.val (.long p1), .second, .val (.int p2), .val (.int p3), .val (.int p4), .val (.long (Int64.ofNat N)), .second, .val (.int tt), .val (.ref b27), .unset, .unset, .unset, .unset, .unset, .unset, .unset, .unset, .unset, .unset, .unset, .unset, .unset] [(.int (3 : Int32)), (.long (Int64.ofNat N)), (.int (14 : Int32)), (.ref b27)])) rfl (by rw [hml]; rfl) (argsL := [(.long (Int64.ofNat N)), (.int (3 : Int32))]) (rest := [(.int (14 : Int32)), (.ref b27)]) (lenOf own_pd2 rfl) rfl (by show 2 * 0 + _ ≤ _; exact Nat.le_of_eq rfl) (hb hby at_193) (fun _ _ => ⟨rfl, e58, (by decide : 15 + 1 ≤ _), (by decide : 286 + 19 ≤ _)⟩)
  dsimp only [Pt.U, Pt.locs, Pt.cells, Pt.slots] at X59 l59 y59 z59 st59 hQ59
  subst l59 y59 z59
  obtain ⟨rfl, Nq59, Kq59⟩ := hQ59
  have N59 := Fr.app N58 Nq59
  have f59_0 : Sta Z T59.heap "java/lang/String" "COMPACT_STRINGS" "Z" (.int cz) := own_sta_keep f58_0 Kq59 own_pl0
  have f59_1 : Sta Z T59.heap "jdk/internal/util/Preconditions" "SIOOBE_FORMATTER" "Ljava/util/function/BiFunction;" fm := own_sta_keep f58_1 Kq59 own_pl0
  have f59_2 : Arv Z T59.heap b27 k27 .char (20 : Int32) [(.int ((own_dg (Int64.ofNat N) (17 : Int32)).toUInt32.toUInt16.toUInt32.toInt32)), (.int ((own_dg (Int64.ofNat N) (16 : Int32)).toUInt32.toUInt16.toUInt32.toInt32)), (.int ((own_dg (Int64.ofNat N) (15 : Int32)).toUInt32.toUInt16.toUInt32.toInt32)), (.int ((own_dg (Int64.ofNat N) (14 : Int32)).toUInt32.toUInt16.toUInt32.toInt32)), (.int ((own_dg (Int64.ofNat N) (13 : Int32)).toUInt32.toUInt16.toUInt32.toInt32)), (.int ((own_dg (Int64.ofNat N) (12 : Int32)).toUInt32.toUInt16.toUInt32.toInt32)), (.int ((own_dg (Int64.ofNat N) (11 : Int32)).toUInt32.toUInt16.toUInt32.toInt32)), (.int ((own_dg (Int64.ofNat N) (10 : Int32)).toUInt32.toUInt16.toUInt32.toInt32)), (.int ((own_dg (Int64.ofNat N) (9 : Int32)).toUInt32.toUInt16.toUInt32.toInt32)), (.int ((own_dg (Int64.ofNat N) (8 : Int32)).toUInt32.toUInt16.toUInt32.toInt32)), (.int ((own_dg (Int64.ofNat N) (7 : Int32)).toUInt32.toUInt16.toUInt32.toInt32)), (.int ((own_dg (Int64.ofNat N) (6 : Int32)).toUInt32.toUInt16.toUInt32.toInt32)), (.int ((own_dg (Int64.ofNat N) (5 : Int32)).toUInt32.toUInt16.toUInt32.toInt32)), (.int ((own_dg (Int64.ofNat N) (4 : Int32)).toUInt32.toUInt16.toUInt32.toInt32)), (.int (0 : Int32)), (.int (0 : Int32)), (.int (0 : Int32)), (.int (0 : Int32)), (.int (0 : Int32)), (.int (0 : Int32))] (.int (0 : Int32)) := V58.keep Kq59 nin0
  have K59 : Keep h0 T59.heap [] := K58.trans Kq59 all0
  refine own_step (U' := (T59.setTop (mkF m 196 #[.val (.long p1), .second, .val (.int p2), .val (.int p3), .val (.int p4), .val (.long (Int64.ofNat N)), .second, .val (.int tt), .val (.ref b27), .unset, .unset, .unset, .unset, .unset, .unset, .unset, .unset, .unset, .unset, .unset, .unset, .unset] [(.int (own_dg (Int64.ofNat N) (3 : Int32))), (.int (14 : Int32)), (.ref b27)]))) (fun t ht => st59 _ ht) ?_
  obtain ⟨cl60, Ar60, q60, S60, N60_, H60, G60⟩ := (id f59_2)
  have hin60 : ¬ ((14 : Int32) < 0 ∨ cl60.slots.size ≤ ((14 : Int32)).toNatClampNeg) := inb_of S60 ⟨by decide, by decide⟩
  obtain ⟨T60, h60, X60, e60, W60, st60⟩ := stC X59 hx hZ rfl Ar60 (j := (14 : Int32)) hin60 (g := (mkF m 196 #[.val (.long p1), .second, .val (.int p2), .val (.int p3), .val (.int p4), .val (.long (Int64.ofNat N)), .second, .val (.int tt), .val (.ref b27), .unset, .unset, .unset, .unset, .unset, .unset, .unset, .unset, .unset, .unset, .unset, .unset, .unset] [(.int (own_dg (Int64.ofNat N) (3 : Int32))), (.int (14 : Int32)), (.ref b27)])) rfl rfl (hb hby at_196)
  have f60_0 : Sta Z h60 "java/lang/String" "COMPACT_STRINGS" "Z" (.int cz) := f59_0.wr W60
  have f60_1 : Sta Z h60 "jdk/internal/util/Preconditions" "SIOOBE_FORMATTER" "Ljava/util/function/BiFunction;" fm := f59_1.wr W60
  have V60 : Arv Z h60 b27 k27 .char (20 : Int32) [(.int ((own_dg (Int64.ofNat N) (17 : Int32)).toUInt32.toUInt16.toUInt32.toInt32)), (.int ((own_dg (Int64.ofNat N) (16 : Int32)).toUInt32.toUInt16.toUInt32.toInt32)), (.int ((own_dg (Int64.ofNat N) (15 : Int32)).toUInt32.toUInt16.toUInt32.toInt32)), (.int ((own_dg (Int64.ofNat N) (14 : Int32)).toUInt32.toUInt16.toUInt32.toInt32)), (.int ((own_dg (Int64.ofNat N) (13 : Int32)).toUInt32.toUInt16.toUInt32.toInt32)), (.int ((own_dg (Int64.ofNat N) (12 : Int32)).toUInt32.toUInt16.toUInt32.toInt32)), (.int ((own_dg (Int64.ofNat N) (11 : Int32)).toUInt32.toUInt16.toUInt32.toInt32)), (.int ((own_dg (Int64.ofNat N) (10 : Int32)).toUInt32.toUInt16.toUInt32.toInt32)), (.int ((own_dg (Int64.ofNat N) (9 : Int32)).toUInt32.toUInt16.toUInt32.toInt32)), (.int ((own_dg (Int64.ofNat N) (8 : Int32)).toUInt32.toUInt16.toUInt32.toInt32)), (.int ((own_dg (Int64.ofNat N) (7 : Int32)).toUInt32.toUInt16.toUInt32.toInt32)), (.int ((own_dg (Int64.ofNat N) (6 : Int32)).toUInt32.toUInt16.toUInt32.toInt32)), (.int ((own_dg (Int64.ofNat N) (5 : Int32)).toUInt32.toUInt16.toUInt32.toInt32)), (.int ((own_dg (Int64.ofNat N) (4 : Int32)).toUInt32.toUInt16.toUInt32.toInt32)), (.int ((own_dg (Int64.ofNat N) (3 : Int32)).toUInt32.toUInt16.toUInt32.toInt32)), (.int (0 : Int32)), (.int (0 : Int32)), (.int (0 : Int32)), (.int (0 : Int32)), (.int (0 : Int32))] (.int (0 : Int32)) := Arv.set Ar60 q60 S60 N60_ H60 G60 (fits_nar_char _) W60 14 rfl (Nat.le_of_ble_eq_true rfl)
  have N60 := Fr.snoc X60 N59 g_b27
  have K60 : Keep h0 h60 [] := K59.wr W60 (Or.inr sz_b27)
  refine own_step (U' := (T60.setTop (mkF m 197 #[.val (.long p1), .second, .val (.int p2), .val (.int p3), .val (.int p4), .val (.long (Int64.ofNat N)), .second, .val (.int tt), .val (.ref b27), .unset, .unset, .unset, .unset, .unset, .unset, .unset, .unset, .unset, .unset, .unset, .unset, .unset] []))) (fun t ht => st60 _ ht) ?_
  refine own_step (U' := (T60.setTop (mkF m 199 #[.val (.long p1), .second, .val (.int p2), .val (.int p3), .val (.int p4), .val (.long (Int64.ofNat N)), .second, .val (.int tt), .val (.ref b27), .unset, .unset, .unset, .unset, .unset, .unset, .unset, .unset, .unset, .unset, .unset, .unset, .unset] [(.ref b27)]))) (fun t ht => XS.aload X60.here hx rfl (hb hby at_197) rfl rfl ht) ?_
  refine own_step (U' := (T60.setTop (mkF m 201 #[.val (.long p1), .second, .val (.int p2), .val (.int p3), .val (.int p4), .val (.long (Int64.ofNat N)), .second, .val (.int tt), .val (.ref b27), .unset, .unset, .unset, .unset, .unset, .unset, .unset, .unset, .unset, .unset, .unset, .unset, .unset] [(.int (15 : Int32)), (.ref b27)]))) (fun t ht => XS.bipush X60.here hx rfl (hb hby at_199) ht) ?_
  refine own_step (U' := (T60.setTop (mkF m 203 #[.val (.long p1), .second, .val (.int p2), .val (.int p3), .val (.int p4), .val (.long (Int64.ofNat N)), .second, .val (.int tt), .val (.ref b27), .unset, .unset, .unset, .unset, .unset, .unset, .unset, .unset, .unset, .unset, .unset, .unset, .unset] [(.long (Int64.ofNat N)), (.int (15 : Int32)), (.ref b27)]))) (fun t ht => XT.lload X60.here hx rfl (hb hby at_201) rfl ht) ?_
  refine own_step (U' := (T60.setTop (mkF m 204 #[.val (.long p1), .second, .val (.int p2), .val (.int p3), .val (.int p4), .val (.long (Int64.ofNat N)), .second, .val (.int tt), .val (.ref b27), .unset, .unset, .unset, .unset, .unset, .unset, .unset, .unset, .unset, .unset, .unset, .unset, .unset] [(.int (2 : Int32)), (.long (Int64.ofNat N)), (.int (15 : Int32)), (.ref b27)]))) (fun t ht => XS.iconst X60.here hx rfl (hb hby at_203) ht) ?_
  obtain ⟨_, _, ⟨T61, L61, k61, n61⟩, -, X61, ⟨Lc61, hQ61, l61, y61, z61⟩, st61⟩ := Jvm.LawKit.callS X60 hx (y := (⟨"com/example/version_parser/versionparser/DecimalDigitsValuePinLaw", "dig", "(JI)C"⟩ : MethodName)) hown (mvT hZ (hw _ (List.mem_of_getElem? (i := 4) rfl))) (mvT hZ (hw _ (List.mem_of_getElem? (i := 5) rfl))) (mvT hZ (hw _ (List.mem_of_getElem? (i := 6) rfl))) (mvT hZ (hw _ (List.mem_of_getElem? (i := 7) rfl))) (by decide) (backOf (W := 2) (own_m_dig l Z a0 hw [] ((Int64.ofNat N)) ((2 : Int32)) (2) h60 n0 (Nat.le_trans Z0 K60.1) ⟨rfl, by decide⟩) hZ (hw _ (List.mem_of_getElem? (i := 7) rfl)) (hw _ (List.mem_of_getElem? (i := 6) rfl)) (by decide) (by decide)) (g := (mkF m 204 #[.val (.long p1), .second, .val (.int p2), .val (.int p3), .val (.int p4), .val (.long (Int64.ofNat N)), .second, .val (.int tt), .val (.ref b27), .unset, .unset, .unset, .unset, .unset, .unset, .unset, .unset, .unset, .unset, .unset, .unset, .unset] [(.int (2 : Int32)), (.long (Int64.ofNat N)), (.int (15 : Int32)), (.ref b27)])) rfl (by rw [hml]; rfl) (argsL := [(.long (Int64.ofNat N)), (.int (2 : Int32))]) (rest := [(.int (15 : Int32)), (.ref b27)]) (lenOf own_pd2 rfl) rfl (by show 2 * 0 + _ ≤ _; exact Nat.le_of_eq rfl) (hb hby at_204) (fun _ _ => ⟨rfl, e60, (by decide : 16 + 1 ≤ _), (by decide : 305 + 19 ≤ _)⟩)
  dsimp only [Pt.U, Pt.locs, Pt.cells, Pt.slots] at X61 l61 y61 z61 st61 hQ61
  subst l61 y61 z61
  obtain ⟨rfl, Nq61, Kq61⟩ := hQ61
  have N61 := Fr.app N60 Nq61
  have f61_0 : Sta Z T61.heap "java/lang/String" "COMPACT_STRINGS" "Z" (.int cz) := own_sta_keep f60_0 Kq61 own_pl0
  have f61_1 : Sta Z T61.heap "jdk/internal/util/Preconditions" "SIOOBE_FORMATTER" "Ljava/util/function/BiFunction;" fm := own_sta_keep f60_1 Kq61 own_pl0
  have f61_2 : Arv Z T61.heap b27 k27 .char (20 : Int32) [(.int ((own_dg (Int64.ofNat N) (17 : Int32)).toUInt32.toUInt16.toUInt32.toInt32)), (.int ((own_dg (Int64.ofNat N) (16 : Int32)).toUInt32.toUInt16.toUInt32.toInt32)), (.int ((own_dg (Int64.ofNat N) (15 : Int32)).toUInt32.toUInt16.toUInt32.toInt32)), (.int ((own_dg (Int64.ofNat N) (14 : Int32)).toUInt32.toUInt16.toUInt32.toInt32)), (.int ((own_dg (Int64.ofNat N) (13 : Int32)).toUInt32.toUInt16.toUInt32.toInt32)), (.int ((own_dg (Int64.ofNat N) (12 : Int32)).toUInt32.toUInt16.toUInt32.toInt32)), (.int ((own_dg (Int64.ofNat N) (11 : Int32)).toUInt32.toUInt16.toUInt32.toInt32)), (.int ((own_dg (Int64.ofNat N) (10 : Int32)).toUInt32.toUInt16.toUInt32.toInt32)), (.int ((own_dg (Int64.ofNat N) (9 : Int32)).toUInt32.toUInt16.toUInt32.toInt32)), (.int ((own_dg (Int64.ofNat N) (8 : Int32)).toUInt32.toUInt16.toUInt32.toInt32)), (.int ((own_dg (Int64.ofNat N) (7 : Int32)).toUInt32.toUInt16.toUInt32.toInt32)), (.int ((own_dg (Int64.ofNat N) (6 : Int32)).toUInt32.toUInt16.toUInt32.toInt32)), (.int ((own_dg (Int64.ofNat N) (5 : Int32)).toUInt32.toUInt16.toUInt32.toInt32)), (.int ((own_dg (Int64.ofNat N) (4 : Int32)).toUInt32.toUInt16.toUInt32.toInt32)), (.int ((own_dg (Int64.ofNat N) (3 : Int32)).toUInt32.toUInt16.toUInt32.toInt32)), (.int (0 : Int32)), (.int (0 : Int32)), (.int (0 : Int32)), (.int (0 : Int32)), (.int (0 : Int32))] (.int (0 : Int32)) := V60.keep Kq61 nin0
  have K61 : Keep h0 T61.heap [] := K60.trans Kq61 all0
  refine own_step (U' := (T61.setTop (mkF m 207 #[.val (.long p1), .second, .val (.int p2), .val (.int p3), .val (.int p4), .val (.long (Int64.ofNat N)), .second, .val (.int tt), .val (.ref b27), .unset, .unset, .unset, .unset, .unset, .unset, .unset, .unset, .unset, .unset, .unset, .unset, .unset] [(.int (own_dg (Int64.ofNat N) (2 : Int32))), (.int (15 : Int32)), (.ref b27)]))) (fun t ht => st61 _ ht) ?_
  obtain ⟨cl62, Ar62, q62, S62, N62_, H62, G62⟩ := (id f61_2)
  have hin62 : ¬ ((15 : Int32) < 0 ∨ cl62.slots.size ≤ ((15 : Int32)).toNatClampNeg) := inb_of S62 ⟨by decide, by decide⟩
  obtain ⟨T62, h62, X62, e62, W62, st62⟩ := stC X61 hx hZ rfl Ar62 (j := (15 : Int32)) hin62 (g := (mkF m 207 #[.val (.long p1), .second, .val (.int p2), .val (.int p3), .val (.int p4), .val (.long (Int64.ofNat N)), .second, .val (.int tt), .val (.ref b27), .unset, .unset, .unset, .unset, .unset, .unset, .unset, .unset, .unset, .unset, .unset, .unset, .unset] [(.int (own_dg (Int64.ofNat N) (2 : Int32))), (.int (15 : Int32)), (.ref b27)])) rfl rfl (hb hby at_207)
  have f62_0 : Sta Z h62 "java/lang/String" "COMPACT_STRINGS" "Z" (.int cz) := f61_0.wr W62
  have f62_1 : Sta Z h62 "jdk/internal/util/Preconditions" "SIOOBE_FORMATTER" "Ljava/util/function/BiFunction;" fm := f61_1.wr W62
  have V62 : Arv Z h62 b27 k27 .char (20 : Int32) [(.int ((own_dg (Int64.ofNat N) (17 : Int32)).toUInt32.toUInt16.toUInt32.toInt32)), (.int ((own_dg (Int64.ofNat N) (16 : Int32)).toUInt32.toUInt16.toUInt32.toInt32)), (.int ((own_dg (Int64.ofNat N) (15 : Int32)).toUInt32.toUInt16.toUInt32.toInt32)), (.int ((own_dg (Int64.ofNat N) (14 : Int32)).toUInt32.toUInt16.toUInt32.toInt32)), (.int ((own_dg (Int64.ofNat N) (13 : Int32)).toUInt32.toUInt16.toUInt32.toInt32)), (.int ((own_dg (Int64.ofNat N) (12 : Int32)).toUInt32.toUInt16.toUInt32.toInt32)), (.int ((own_dg (Int64.ofNat N) (11 : Int32)).toUInt32.toUInt16.toUInt32.toInt32)), (.int ((own_dg (Int64.ofNat N) (10 : Int32)).toUInt32.toUInt16.toUInt32.toInt32)), (.int ((own_dg (Int64.ofNat N) (9 : Int32)).toUInt32.toUInt16.toUInt32.toInt32)), (.int ((own_dg (Int64.ofNat N) (8 : Int32)).toUInt32.toUInt16.toUInt32.toInt32)), (.int ((own_dg (Int64.ofNat N) (7 : Int32)).toUInt32.toUInt16.toUInt32.toInt32)), (.int ((own_dg (Int64.ofNat N) (6 : Int32)).toUInt32.toUInt16.toUInt32.toInt32)), (.int ((own_dg (Int64.ofNat N) (5 : Int32)).toUInt32.toUInt16.toUInt32.toInt32)), (.int ((own_dg (Int64.ofNat N) (4 : Int32)).toUInt32.toUInt16.toUInt32.toInt32)), (.int ((own_dg (Int64.ofNat N) (3 : Int32)).toUInt32.toUInt16.toUInt32.toInt32)), (.int ((own_dg (Int64.ofNat N) (2 : Int32)).toUInt32.toUInt16.toUInt32.toInt32)), (.int (0 : Int32)), (.int (0 : Int32)), (.int (0 : Int32)), (.int (0 : Int32))] (.int (0 : Int32)) := Arv.set Ar62 q62 S62 N62_ H62 G62 (fits_nar_char _) W62 15 rfl (Nat.le_of_ble_eq_true rfl)
  have N62 := Fr.snoc X62 N61 g_b27
  have K62 : Keep h0 h62 [] := K61.wr W62 (Or.inr sz_b27)
  refine own_step (U' := (T62.setTop (mkF m 208 #[.val (.long p1), .second, .val (.int p2), .val (.int p3), .val (.int p4), .val (.long (Int64.ofNat N)), .second, .val (.int tt), .val (.ref b27), .unset, .unset, .unset, .unset, .unset, .unset, .unset, .unset, .unset, .unset, .unset, .unset, .unset] []))) (fun t ht => st62 _ ht) ?_
  refine own_step (U' := (T62.setTop (mkF m 210 #[.val (.long p1), .second, .val (.int p2), .val (.int p3), .val (.int p4), .val (.long (Int64.ofNat N)), .second, .val (.int tt), .val (.ref b27), .unset, .unset, .unset, .unset, .unset, .unset, .unset, .unset, .unset, .unset, .unset, .unset, .unset] [(.ref b27)]))) (fun t ht => XS.aload X62.here hx rfl (hb hby at_208) rfl rfl ht) ?_
  refine own_step (U' := (T62.setTop (mkF m 212 #[.val (.long p1), .second, .val (.int p2), .val (.int p3), .val (.int p4), .val (.long (Int64.ofNat N)), .second, .val (.int tt), .val (.ref b27), .unset, .unset, .unset, .unset, .unset, .unset, .unset, .unset, .unset, .unset, .unset, .unset, .unset] [(.int (16 : Int32)), (.ref b27)]))) (fun t ht => XS.bipush X62.here hx rfl (hb hby at_210) ht) ?_
  refine own_step (U' := (T62.setTop (mkF m 214 #[.val (.long p1), .second, .val (.int p2), .val (.int p3), .val (.int p4), .val (.long (Int64.ofNat N)), .second, .val (.int tt), .val (.ref b27), .unset, .unset, .unset, .unset, .unset, .unset, .unset, .unset, .unset, .unset, .unset, .unset, .unset] [(.long (Int64.ofNat N)), (.int (16 : Int32)), (.ref b27)]))) (fun t ht => XT.lload X62.here hx rfl (hb hby at_212) rfl ht) ?_
  refine own_step (U' := (T62.setTop (mkF m 215 #[.val (.long p1), .second, .val (.int p2), .val (.int p3), .val (.int p4), .val (.long (Int64.ofNat N)), .second, .val (.int tt), .val (.ref b27), .unset, .unset, .unset, .unset, .unset, .unset, .unset, .unset, .unset, .unset, .unset, .unset, .unset] [(.int (1 : Int32)), (.long (Int64.ofNat N)), (.int (16 : Int32)), (.ref b27)]))) (fun t ht => XS.iconst X62.here hx rfl (hb hby at_214) ht) ?_
  obtain ⟨Lo64, Xo64, No64⟩ : ∃ Lx, Stand p l e room_1 s m #[(.long p1), (.int p2), (.int p3), (.int p4)] below meth c T62 Lx 17 324 ∧ Fr n0 Lx := ⟨_, X62, N62⟩
  obtain ⟨_, _, ⟨T63, L63, k63, n63⟩, -, X63, ⟨Lc63, hQ63, l63, y63, z63⟩, st63⟩ := Jvm.LawKit.callS Xo64 hx (y := (⟨"com/example/version_parser/versionparser/DecimalDigitsValuePinLaw", "dig", "(JI)C"⟩ : MethodName)) hown (mvT hZ (hw _ (List.mem_of_getElem? (i := 4) rfl))) (mvT hZ (hw _ (List.mem_of_getElem? (i := 5) rfl))) (mvT hZ (hw _ (List.mem_of_getElem? (i := 6) rfl))) (mvT hZ (hw _ (List.mem_of_getElem? (i := 7) rfl))) (by decide) (backOf (W := 2) (own_m_dig l Z a0 hw [] ((Int64.ofNat N)) ((1 : Int32)) (1) h62 n0 (Nat.le_trans Z0 K62.1) ⟨rfl, by decide⟩) hZ (hw _ (List.mem_of_getElem? (i := 7) rfl)) (hw _ (List.mem_of_getElem? (i := 6) rfl)) (by decide) (by decide)) (g := (mkF m 215 #[.val (.long p1), .second, .val (.int p2), .val (.int p3), .val (.int p4), .val (.long (Int64.ofNat N)), .second, .val (.int tt), .val (.ref b27), .unset, .unset, .unset, .unset, .unset, .unset, .unset, .unset, .unset, .unset, .unset, .unset, .unset] [(.int (1 : Int32)), (.long (Int64.ofNat N)), (.int (16 : Int32)), (.ref b27)])) rfl (by rw [hml]; rfl) (argsL := [(.long (Int64.ofNat N)), (.int (1 : Int32))]) (rest := [(.int (16 : Int32)), (.ref b27)]) (lenOf own_pd2 rfl) rfl (by show 2 * 0 + _ ≤ _; exact Nat.le_of_eq rfl) (hb hby at_215) (fun _ _ => ⟨rfl, e62, (by decide : 17 + 1 ≤ _), (by decide : 324 + 19 ≤ _)⟩)
  dsimp only [Pt.U, Pt.locs, Pt.cells, Pt.slots] at X63 l63 y63 z63 st63 hQ63
  subst l63 y63 z63
  obtain ⟨rfl, Nq63, Kq63⟩ := hQ63
  have N63 := Fr.app No64 Nq63
  have f63_0 : Sta Z T63.heap "java/lang/String" "COMPACT_STRINGS" "Z" (.int cz) := own_sta_keep f62_0 Kq63 own_pl0
  have f63_1 : Sta Z T63.heap "jdk/internal/util/Preconditions" "SIOOBE_FORMATTER" "Ljava/util/function/BiFunction;" fm := own_sta_keep f62_1 Kq63 own_pl0
  have f63_2 : Arv Z T63.heap b27 k27 .char (20 : Int32) [(.int ((own_dg (Int64.ofNat N) (17 : Int32)).toUInt32.toUInt16.toUInt32.toInt32)), (.int ((own_dg (Int64.ofNat N) (16 : Int32)).toUInt32.toUInt16.toUInt32.toInt32)), (.int ((own_dg (Int64.ofNat N) (15 : Int32)).toUInt32.toUInt16.toUInt32.toInt32)), (.int ((own_dg (Int64.ofNat N) (14 : Int32)).toUInt32.toUInt16.toUInt32.toInt32)), (.int ((own_dg (Int64.ofNat N) (13 : Int32)).toUInt32.toUInt16.toUInt32.toInt32)), (.int ((own_dg (Int64.ofNat N) (12 : Int32)).toUInt32.toUInt16.toUInt32.toInt32)), (.int ((own_dg (Int64.ofNat N) (11 : Int32)).toUInt32.toUInt16.toUInt32.toInt32)), (.int ((own_dg (Int64.ofNat N) (10 : Int32)).toUInt32.toUInt16.toUInt32.toInt32)), (.int ((own_dg (Int64.ofNat N) (9 : Int32)).toUInt32.toUInt16.toUInt32.toInt32)), (.int ((own_dg (Int64.ofNat N) (8 : Int32)).toUInt32.toUInt16.toUInt32.toInt32)), (.int ((own_dg (Int64.ofNat N) (7 : Int32)).toUInt32.toUInt16.toUInt32.toInt32)), (.int ((own_dg (Int64.ofNat N) (6 : Int32)).toUInt32.toUInt16.toUInt32.toInt32)), (.int ((own_dg (Int64.ofNat N) (5 : Int32)).toUInt32.toUInt16.toUInt32.toInt32)), (.int ((own_dg (Int64.ofNat N) (4 : Int32)).toUInt32.toUInt16.toUInt32.toInt32)), (.int ((own_dg (Int64.ofNat N) (3 : Int32)).toUInt32.toUInt16.toUInt32.toInt32)), (.int ((own_dg (Int64.ofNat N) (2 : Int32)).toUInt32.toUInt16.toUInt32.toInt32)), (.int (0 : Int32)), (.int (0 : Int32)), (.int (0 : Int32)), (.int (0 : Int32))] (.int (0 : Int32)) := V62.keep Kq63 nin0
  have K63 : Keep h0 T63.heap [] := K62.trans Kq63 all0
  refine own_step (U' := (T63.setTop (mkF m 218 #[.val (.long p1), .second, .val (.int p2), .val (.int p3), .val (.int p4), .val (.long (Int64.ofNat N)), .second, .val (.int tt), .val (.ref b27), .unset, .unset, .unset, .unset, .unset, .unset, .unset, .unset, .unset, .unset, .unset, .unset, .unset] [(.int (own_dg (Int64.ofNat N) (1 : Int32))), (.int (16 : Int32)), (.ref b27)]))) (fun t ht => st63 _ ht) ?_
  obtain ⟨cl65, Ar65, q65, S65, N65_, H65, G65⟩ := (id f63_2)
  have hin65 : ¬ ((16 : Int32) < 0 ∨ cl65.slots.size ≤ ((16 : Int32)).toNatClampNeg) := inb_of S65 ⟨by decide, by decide⟩
  obtain ⟨T65, h65, X65, e65, W65, st65⟩ := stC X63 hx hZ rfl Ar65 (j := (16 : Int32)) hin65 (g := (mkF m 218 #[.val (.long p1), .second, .val (.int p2), .val (.int p3), .val (.int p4), .val (.long (Int64.ofNat N)), .second, .val (.int tt), .val (.ref b27), .unset, .unset, .unset, .unset, .unset, .unset, .unset, .unset, .unset, .unset, .unset, .unset, .unset] [(.int (own_dg (Int64.ofNat N) (1 : Int32))), (.int (16 : Int32)), (.ref b27)])) rfl rfl (hb hby at_218)
  have f65_0 : Sta Z h65 "java/lang/String" "COMPACT_STRINGS" "Z" (.int cz) := f63_0.wr W65
  have f65_1 : Sta Z h65 "jdk/internal/util/Preconditions" "SIOOBE_FORMATTER" "Ljava/util/function/BiFunction;" fm := f63_1.wr W65
  have V65 : Arv Z h65 b27 k27 .char (20 : Int32) [(.int ((own_dg (Int64.ofNat N) (17 : Int32)).toUInt32.toUInt16.toUInt32.toInt32)), (.int ((own_dg (Int64.ofNat N) (16 : Int32)).toUInt32.toUInt16.toUInt32.toInt32)), (.int ((own_dg (Int64.ofNat N) (15 : Int32)).toUInt32.toUInt16.toUInt32.toInt32)), (.int ((own_dg (Int64.ofNat N) (14 : Int32)).toUInt32.toUInt16.toUInt32.toInt32)), (.int ((own_dg (Int64.ofNat N) (13 : Int32)).toUInt32.toUInt16.toUInt32.toInt32)), (.int ((own_dg (Int64.ofNat N) (12 : Int32)).toUInt32.toUInt16.toUInt32.toInt32)), (.int ((own_dg (Int64.ofNat N) (11 : Int32)).toUInt32.toUInt16.toUInt32.toInt32)), (.int ((own_dg (Int64.ofNat N) (10 : Int32)).toUInt32.toUInt16.toUInt32.toInt32)), (.int ((own_dg (Int64.ofNat N) (9 : Int32)).toUInt32.toUInt16.toUInt32.toInt32)), (.int ((own_dg (Int64.ofNat N) (8 : Int32)).toUInt32.toUInt16.toUInt32.toInt32)), (.int ((own_dg (Int64.ofNat N) (7 : Int32)).toUInt32.toUInt16.toUInt32.toInt32)), (.int ((own_dg (Int64.ofNat N) (6 : Int32)).toUInt32.toUInt16.toUInt32.toInt32)), (.int ((own_dg (Int64.ofNat N) (5 : Int32)).toUInt32.toUInt16.toUInt32.toInt32)), (.int ((own_dg (Int64.ofNat N) (4 : Int32)).toUInt32.toUInt16.toUInt32.toInt32)), (.int ((own_dg (Int64.ofNat N) (3 : Int32)).toUInt32.toUInt16.toUInt32.toInt32)), (.int ((own_dg (Int64.ofNat N) (2 : Int32)).toUInt32.toUInt16.toUInt32.toInt32)), (.int ((own_dg (Int64.ofNat N) (1 : Int32)).toUInt32.toUInt16.toUInt32.toInt32)), (.int (0 : Int32)), (.int (0 : Int32)), (.int (0 : Int32))] (.int (0 : Int32)) := Arv.set Ar65 q65 S65 N65_ H65 G65 (fits_nar_char _) W65 16 rfl (Nat.le_of_ble_eq_true rfl)
  have N65 := Fr.snoc X65 N63 g_b27
  have K65 : Keep h0 h65 [] := K63.wr W65 (Or.inr sz_b27)
  refine own_step (U' := (T65.setTop (mkF m 219 #[.val (.long p1), .second, .val (.int p2), .val (.int p3), .val (.int p4), .val (.long (Int64.ofNat N)), .second, .val (.int tt), .val (.ref b27), .unset, .unset, .unset, .unset, .unset, .unset, .unset, .unset, .unset, .unset, .unset, .unset, .unset] []))) (fun t ht => st65 _ ht) ?_
  refine own_step (U' := (T65.setTop (mkF m 221 #[.val (.long p1), .second, .val (.int p2), .val (.int p3), .val (.int p4), .val (.long (Int64.ofNat N)), .second, .val (.int tt), .val (.ref b27), .unset, .unset, .unset, .unset, .unset, .unset, .unset, .unset, .unset, .unset, .unset, .unset, .unset] [(.ref b27)]))) (fun t ht => XS.aload X65.here hx rfl (hb hby at_219) rfl rfl ht) ?_
  refine own_step (U' := (T65.setTop (mkF m 223 #[.val (.long p1), .second, .val (.int p2), .val (.int p3), .val (.int p4), .val (.long (Int64.ofNat N)), .second, .val (.int tt), .val (.ref b27), .unset, .unset, .unset, .unset, .unset, .unset, .unset, .unset, .unset, .unset, .unset, .unset, .unset] [(.int (17 : Int32)), (.ref b27)]))) (fun t ht => XS.bipush X65.here hx rfl (hb hby at_221) ht) ?_
  refine own_step (U' := (T65.setTop (mkF m 225 #[.val (.long p1), .second, .val (.int p2), .val (.int p3), .val (.int p4), .val (.long (Int64.ofNat N)), .second, .val (.int tt), .val (.ref b27), .unset, .unset, .unset, .unset, .unset, .unset, .unset, .unset, .unset, .unset, .unset, .unset, .unset] [(.long (Int64.ofNat N)), (.int (17 : Int32)), (.ref b27)]))) (fun t ht => XT.lload X65.here hx rfl (hb hby at_223) rfl ht) ?_
  refine own_step (U' := (T65.setTop (mkF m 226 #[.val (.long p1), .second, .val (.int p2), .val (.int p3), .val (.int p4), .val (.long (Int64.ofNat N)), .second, .val (.int tt), .val (.ref b27), .unset, .unset, .unset, .unset, .unset, .unset, .unset, .unset, .unset, .unset, .unset, .unset, .unset] [(.int (0 : Int32)), (.long (Int64.ofNat N)), (.int (17 : Int32)), (.ref b27)]))) (fun t ht => XS.iconst X65.here hx rfl (hb hby at_225) ht) ?_
  obtain ⟨_, _, ⟨T66, L66, k66, n66⟩, -, X66, ⟨Lc66, hQ66, l66, y66, z66⟩, st66⟩ := Jvm.LawKit.callS X65 hx (y := (⟨"com/example/version_parser/versionparser/DecimalDigitsValuePinLaw", "dig", "(JI)C"⟩ : MethodName)) hown (mvT hZ (hw _ (List.mem_of_getElem? (i := 4) rfl))) (mvT hZ (hw _ (List.mem_of_getElem? (i := 5) rfl))) (mvT hZ (hw _ (List.mem_of_getElem? (i := 6) rfl))) (mvT hZ (hw _ (List.mem_of_getElem? (i := 7) rfl))) (by decide) (backOf (W := 2) (own_m_dig l Z a0 hw [] ((Int64.ofNat N)) ((0 : Int32)) (0) h65 n0 (Nat.le_trans Z0 K65.1) ⟨rfl, by decide⟩) hZ (hw _ (List.mem_of_getElem? (i := 7) rfl)) (hw _ (List.mem_of_getElem? (i := 6) rfl)) (by decide) (by decide)) (g := (mkF m 226 #[.val (.long p1), .second, .val (.int p2), .val (.int p3), .val (.int p4), .val (.long (Int64.ofNat N)), .second, .val (.int tt), .val (.ref b27), .unset, .unset, .unset, .unset, .unset, .unset, .unset, .unset, .unset, .unset, .unset, .unset, .unset] [(.int (0 : Int32)), (.long (Int64.ofNat N)), (.int (17 : Int32)), (.ref b27)])) rfl (by rw [hml]; rfl) (argsL := [(.long (Int64.ofNat N)), (.int (0 : Int32))]) (rest := [(.int (17 : Int32)), (.ref b27)]) (lenOf own_pd2 rfl) rfl (by show 2 * 0 + _ ≤ _; exact Nat.le_of_eq rfl) (hb hby at_226) (fun _ _ => ⟨rfl, e65, (by decide : 18 + 1 ≤ _), (by decide : 343 + 19 ≤ _)⟩)
  dsimp only [Pt.U, Pt.locs, Pt.cells, Pt.slots] at X66 l66 y66 z66 st66 hQ66
  subst l66 y66 z66
  obtain ⟨rfl, Nq66, Kq66⟩ := hQ66
  have N66 := Fr.app N65 Nq66
  have f66_0 : Sta Z T66.heap "java/lang/String" "COMPACT_STRINGS" "Z" (.int cz) := own_sta_keep f65_0 Kq66 own_pl0
  have f66_1 : Sta Z T66.heap "jdk/internal/util/Preconditions" "SIOOBE_FORMATTER" "Ljava/util/function/BiFunction;" fm := own_sta_keep f65_1 Kq66 own_pl0
  have f66_2 : Arv Z T66.heap b27 k27 .char (20 : Int32) [(.int ((own_dg (Int64.ofNat N) (17 : Int32)).toUInt32.toUInt16.toUInt32.toInt32)), (.int ((own_dg (Int64.ofNat N) (16 : Int32)).toUInt32.toUInt16.toUInt32.toInt32)), (.int ((own_dg (Int64.ofNat N) (15 : Int32)).toUInt32.toUInt16.toUInt32.toInt32)), (.int ((own_dg (Int64.ofNat N) (14 : Int32)).toUInt32.toUInt16.toUInt32.toInt32)), (.int ((own_dg (Int64.ofNat N) (13 : Int32)).toUInt32.toUInt16.toUInt32.toInt32)), (.int ((own_dg (Int64.ofNat N) (12 : Int32)).toUInt32.toUInt16.toUInt32.toInt32)), (.int ((own_dg (Int64.ofNat N) (11 : Int32)).toUInt32.toUInt16.toUInt32.toInt32)), (.int ((own_dg (Int64.ofNat N) (10 : Int32)).toUInt32.toUInt16.toUInt32.toInt32)), (.int ((own_dg (Int64.ofNat N) (9 : Int32)).toUInt32.toUInt16.toUInt32.toInt32)), (.int ((own_dg (Int64.ofNat N) (8 : Int32)).toUInt32.toUInt16.toUInt32.toInt32)), (.int ((own_dg (Int64.ofNat N) (7 : Int32)).toUInt32.toUInt16.toUInt32.toInt32)), (.int ((own_dg (Int64.ofNat N) (6 : Int32)).toUInt32.toUInt16.toUInt32.toInt32)), (.int ((own_dg (Int64.ofNat N) (5 : Int32)).toUInt32.toUInt16.toUInt32.toInt32)), (.int ((own_dg (Int64.ofNat N) (4 : Int32)).toUInt32.toUInt16.toUInt32.toInt32)), (.int ((own_dg (Int64.ofNat N) (3 : Int32)).toUInt32.toUInt16.toUInt32.toInt32)), (.int ((own_dg (Int64.ofNat N) (2 : Int32)).toUInt32.toUInt16.toUInt32.toInt32)), (.int ((own_dg (Int64.ofNat N) (1 : Int32)).toUInt32.toUInt16.toUInt32.toInt32)), (.int (0 : Int32)), (.int (0 : Int32)), (.int (0 : Int32))] (.int (0 : Int32)) := V65.keep Kq66 nin0
  have K66 : Keep h0 T66.heap [] := K65.trans Kq66 all0
  refine own_step (U' := (T66.setTop (mkF m 229 #[.val (.long p1), .second, .val (.int p2), .val (.int p3), .val (.int p4), .val (.long (Int64.ofNat N)), .second, .val (.int tt), .val (.ref b27), .unset, .unset, .unset, .unset, .unset, .unset, .unset, .unset, .unset, .unset, .unset, .unset, .unset] [(.int (own_dg (Int64.ofNat N) (0 : Int32))), (.int (17 : Int32)), (.ref b27)]))) (fun t ht => st66 _ ht) ?_
  obtain ⟨cl67, Ar67, q67, S67, N67_, H67, G67⟩ := (id f66_2)
  have hin67 : ¬ ((17 : Int32) < 0 ∨ cl67.slots.size ≤ ((17 : Int32)).toNatClampNeg) := inb_of S67 ⟨by decide, by decide⟩
  obtain ⟨T67, h67, X67, e67, W67, st67⟩ := stC X66 hx hZ rfl Ar67 (j := (17 : Int32)) hin67 (g := (mkF m 229 #[.val (.long p1), .second, .val (.int p2), .val (.int p3), .val (.int p4), .val (.long (Int64.ofNat N)), .second, .val (.int tt), .val (.ref b27), .unset, .unset, .unset, .unset, .unset, .unset, .unset, .unset, .unset, .unset, .unset, .unset, .unset] [(.int (own_dg (Int64.ofNat N) (0 : Int32))), (.int (17 : Int32)), (.ref b27)])) rfl rfl (hb hby at_229)
  have f67_0 : Sta Z h67 "java/lang/String" "COMPACT_STRINGS" "Z" (.int cz) := f66_0.wr W67
  have f67_1 : Sta Z h67 "jdk/internal/util/Preconditions" "SIOOBE_FORMATTER" "Ljava/util/function/BiFunction;" fm := f66_1.wr W67
  have V67 : Arv Z h67 b27 k27 .char (20 : Int32) [(.int ((own_dg (Int64.ofNat N) (17 : Int32)).toUInt32.toUInt16.toUInt32.toInt32)), (.int ((own_dg (Int64.ofNat N) (16 : Int32)).toUInt32.toUInt16.toUInt32.toInt32)), (.int ((own_dg (Int64.ofNat N) (15 : Int32)).toUInt32.toUInt16.toUInt32.toInt32)), (.int ((own_dg (Int64.ofNat N) (14 : Int32)).toUInt32.toUInt16.toUInt32.toInt32)), (.int ((own_dg (Int64.ofNat N) (13 : Int32)).toUInt32.toUInt16.toUInt32.toInt32)), (.int ((own_dg (Int64.ofNat N) (12 : Int32)).toUInt32.toUInt16.toUInt32.toInt32)), (.int ((own_dg (Int64.ofNat N) (11 : Int32)).toUInt32.toUInt16.toUInt32.toInt32)), (.int ((own_dg (Int64.ofNat N) (10 : Int32)).toUInt32.toUInt16.toUInt32.toInt32)), (.int ((own_dg (Int64.ofNat N) (9 : Int32)).toUInt32.toUInt16.toUInt32.toInt32)), (.int ((own_dg (Int64.ofNat N) (8 : Int32)).toUInt32.toUInt16.toUInt32.toInt32)), (.int ((own_dg (Int64.ofNat N) (7 : Int32)).toUInt32.toUInt16.toUInt32.toInt32)), (.int ((own_dg (Int64.ofNat N) (6 : Int32)).toUInt32.toUInt16.toUInt32.toInt32)), (.int ((own_dg (Int64.ofNat N) (5 : Int32)).toUInt32.toUInt16.toUInt32.toInt32)), (.int ((own_dg (Int64.ofNat N) (4 : Int32)).toUInt32.toUInt16.toUInt32.toInt32)), (.int ((own_dg (Int64.ofNat N) (3 : Int32)).toUInt32.toUInt16.toUInt32.toInt32)), (.int ((own_dg (Int64.ofNat N) (2 : Int32)).toUInt32.toUInt16.toUInt32.toInt32)), (.int ((own_dg (Int64.ofNat N) (1 : Int32)).toUInt32.toUInt16.toUInt32.toInt32)), (.int ((own_dg (Int64.ofNat N) (0 : Int32)).toUInt32.toUInt16.toUInt32.toInt32)), (.int (0 : Int32)), (.int (0 : Int32))] (.int (0 : Int32)) := Arv.set Ar67 q67 S67 N67_ H67 G67 (fits_nar_char _) W67 17 rfl (Nat.le_of_ble_eq_true rfl)
  have N67 := Fr.snoc X67 N66 g_b27
  have K67 : Keep h0 h67 [] := K66.wr W67 (Or.inr sz_b27)
  refine own_step (U' := (T67.setTop (mkF m 230 #[.val (.long p1), .second, .val (.int p2), .val (.int p3), .val (.int p4), .val (.long (Int64.ofNat N)), .second, .val (.int tt), .val (.ref b27), .unset, .unset, .unset, .unset, .unset, .unset, .unset, .unset, .unset, .unset, .unset, .unset, .unset] []))) (fun t ht => st67 _ ht) ?_
  refine own_step (U' := (T67.setTop (mkF m 232 #[.val (.long p1), .second, .val (.int p2), .val (.int p3), .val (.int p4), .val (.long (Int64.ofNat N)), .second, .val (.int tt), .val (.ref b27), .unset, .unset, .unset, .unset, .unset, .unset, .unset, .unset, .unset, .unset, .unset, .unset, .unset] [(.ref b27)]))) (fun t ht => XS.aload X67.here hx rfl (hb hby at_230) rfl rfl ht) ?_
  refine own_step (U' := (T67.setTop (mkF m 234 #[.val (.long p1), .second, .val (.int p2), .val (.int p3), .val (.int p4), .val (.long (Int64.ofNat N)), .second, .val (.int tt), .val (.ref b27), .unset, .unset, .unset, .unset, .unset, .unset, .unset, .unset, .unset, .unset, .unset, .unset, .unset] [(.int (18 : Int32)), (.ref b27)]))) (fun t ht => XS.bipush X67.here hx rfl (hb hby at_232) ht) ?_
  refine own_step (U' := (T67.setTop (mkF m 236 #[.val (.long p1), .second, .val (.int p2), .val (.int p3), .val (.int p4), .val (.long (Int64.ofNat N)), .second, .val (.int tt), .val (.ref b27), .unset, .unset, .unset, .unset, .unset, .unset, .unset, .unset, .unset, .unset, .unset, .unset, .unset] [(.int (48 : Int32)), (.int (18 : Int32)), (.ref b27)]))) (fun t ht => XS.bipush X67.here hx rfl (hb hby at_234) ht) ?_
  refine own_step (U' := (T67.setTop (mkF m 238 #[.val (.long p1), .second, .val (.int p2), .val (.int p3), .val (.int p4), .val (.long (Int64.ofNat N)), .second, .val (.int tt), .val (.ref b27), .unset, .unset, .unset, .unset, .unset, .unset, .unset, .unset, .unset, .unset, .unset, .unset, .unset] [(.int tt), (.int (48 : Int32)), (.int (18 : Int32)), (.ref b27)]))) (fun t ht => XS.iload X67.here hx rfl (hb hby at_236) rfl ht) ?_
  refine own_step (U' := (T67.setTop (mkF m 240 #[.val (.long p1), .second, .val (.int p2), .val (.int p3), .val (.int p4), .val (.long (Int64.ofNat N)), .second, .val (.int tt), .val (.ref b27), .unset, .unset, .unset, .unset, .unset, .unset, .unset, .unset, .unset, .unset, .unset, .unset, .unset] [(.int (10 : Int32)), (.int tt), (.int (48 : Int32)), (.int (18 : Int32)), (.ref b27)]))) (fun t ht => XS.bipush X67.here hx rfl (hb hby at_238) ht) ?_
  refine own_step (U' := (T67.setTop (mkF m 241 #[.val (.long p1), .second, .val (.int p2), .val (.int p3), .val (.int p4), .val (.long (Int64.ofNat N)), .second, .val (.int tt), .val (.ref b27), .unset, .unset, .unset, .unset, .unset, .unset, .unset, .unset, .unset, .unset, .unset, .unset, .unset] [(.int (tt / (10 : Int32))), (.int (48 : Int32)), (.int (18 : Int32)), (.ref b27)]))) (fun t ht => XS.idiv X67.here hx rfl (hb hby at_240) rfl (by decide) ht) ?_
  refine own_step (U' := (T67.setTop (mkF m 242 #[.val (.long p1), .second, .val (.int p2), .val (.int p3), .val (.int p4), .val (.long (Int64.ofNat N)), .second, .val (.int tt), .val (.ref b27), .unset, .unset, .unset, .unset, .unset, .unset, .unset, .unset, .unset, .unset, .unset, .unset, .unset] [(.int ((48 : Int32) + (tt / (10 : Int32)))), (.int (18 : Int32)), (.ref b27)]))) (fun t ht => XS.iadd X67.here hx rfl (hb hby at_241) rfl ht) ?_
  refine own_step (U' := (T67.setTop (mkF m 243 #[.val (.long p1), .second, .val (.int p2), .val (.int p3), .val (.int p4), .val (.long (Int64.ofNat N)), .second, .val (.int tt), .val (.ref b27), .unset, .unset, .unset, .unset, .unset, .unset, .unset, .unset, .unset, .unset, .unset, .unset, .unset] [(.int (((48 : Int32) + (tt / (10 : Int32))).toUInt32.toUInt16.toUInt32.toInt32)), (.int (18 : Int32)), (.ref b27)]))) (fun t ht => XT.i2c X67.here hx rfl (hb hby at_242) rfl ht) ?_
  obtain ⟨cl68, Ar68, q68, S68, N68_, H68, G68⟩ := (id V67)
  have hin68 : ¬ ((18 : Int32) < 0 ∨ cl68.slots.size ≤ ((18 : Int32)).toNatClampNeg) := inb_of S68 ⟨by decide, by decide⟩
  obtain ⟨T68, h68, X68, e68, W68, st68⟩ := stC X67 hx hZ e67 Ar68 (j := (18 : Int32)) hin68 (g := (mkF m 243 #[.val (.long p1), .second, .val (.int p2), .val (.int p3), .val (.int p4), .val (.long (Int64.ofNat N)), .second, .val (.int tt), .val (.ref b27), .unset, .unset, .unset, .unset, .unset, .unset, .unset, .unset, .unset, .unset, .unset, .unset, .unset] [(.int (((48 : Int32) + (tt / (10 : Int32))).toUInt32.toUInt16.toUInt32.toInt32)), (.int (18 : Int32)), (.ref b27)])) rfl rfl (hb hby at_243)
  have f68_0 : Sta Z h68 "java/lang/String" "COMPACT_STRINGS" "Z" (.int cz) := f67_0.wr W68
  have f68_1 : Sta Z h68 "jdk/internal/util/Preconditions" "SIOOBE_FORMATTER" "Ljava/util/function/BiFunction;" fm := f67_1.wr W68
  have V68 : Arv Z h68 b27 k27 .char (20 : Int32) [(.int ((own_dg (Int64.ofNat N) (17 : Int32)).toUInt32.toUInt16.toUInt32.toInt32)), (.int ((own_dg (Int64.ofNat N) (16 : Int32)).toUInt32.toUInt16.toUInt32.toInt32)), (.int ((own_dg (Int64.ofNat N) (15 : Int32)).toUInt32.toUInt16.toUInt32.toInt32)), (.int ((own_dg (Int64.ofNat N) (14 : Int32)).toUInt32.toUInt16.toUInt32.toInt32)), (.int ((own_dg (Int64.ofNat N) (13 : Int32)).toUInt32.toUInt16.toUInt32.toInt32)), (.int ((own_dg (Int64.ofNat N) (12 : Int32)).toUInt32.toUInt16.toUInt32.toInt32)), (.int ((own_dg (Int64.ofNat N) (11 : Int32)).toUInt32.toUInt16.toUInt32.toInt32)), (.int ((own_dg (Int64.ofNat N) (10 : Int32)).toUInt32.toUInt16.toUInt32.toInt32)), (.int ((own_dg (Int64.ofNat N) (9 : Int32)).toUInt32.toUInt16.toUInt32.toInt32)), (.int ((own_dg (Int64.ofNat N) (8 : Int32)).toUInt32.toUInt16.toUInt32.toInt32)), (.int ((own_dg (Int64.ofNat N) (7 : Int32)).toUInt32.toUInt16.toUInt32.toInt32)), (.int ((own_dg (Int64.ofNat N) (6 : Int32)).toUInt32.toUInt16.toUInt32.toInt32)), (.int ((own_dg (Int64.ofNat N) (5 : Int32)).toUInt32.toUInt16.toUInt32.toInt32)), (.int ((own_dg (Int64.ofNat N) (4 : Int32)).toUInt32.toUInt16.toUInt32.toInt32)), (.int ((own_dg (Int64.ofNat N) (3 : Int32)).toUInt32.toUInt16.toUInt32.toInt32)), (.int ((own_dg (Int64.ofNat N) (2 : Int32)).toUInt32.toUInt16.toUInt32.toInt32)), (.int ((own_dg (Int64.ofNat N) (1 : Int32)).toUInt32.toUInt16.toUInt32.toInt32)), (.int ((own_dg (Int64.ofNat N) (0 : Int32)).toUInt32.toUInt16.toUInt32.toInt32)), (.int ((((48 : Int32) + (tt / (10 : Int32))).toUInt32.toUInt16.toUInt32.toInt32).toUInt32.toUInt16.toUInt32.toInt32)), (.int (0 : Int32))] (.int (0 : Int32)) := Arv.set Ar68 q68 S68 N68_ H68 G68 (fits_nar_char _) W68 18 rfl (Nat.le_of_ble_eq_true rfl)
  have N68 := Fr.snoc X68 N67 g_b27
  have K68 : Keep h0 h68 [] := K67.wr W68 (Or.inr sz_b27)
  refine own_step (U' := (T68.setTop (mkF m 244 #[.val (.long p1), .second, .val (.int p2), .val (.int p3), .val (.int p4), .val (.long (Int64.ofNat N)), .second, .val (.int tt), .val (.ref b27), .unset, .unset, .unset, .unset, .unset, .unset, .unset, .unset, .unset, .unset, .unset, .unset, .unset] []))) (fun t ht => st68 _ ht) ?_
  refine own_step (U' := (T68.setTop (mkF m 246 #[.val (.long p1), .second, .val (.int p2), .val (.int p3), .val (.int p4), .val (.long (Int64.ofNat N)), .second, .val (.int tt), .val (.ref b27), .unset, .unset, .unset, .unset, .unset, .unset, .unset, .unset, .unset, .unset, .unset, .unset, .unset] [(.ref b27)]))) (fun t ht => XS.aload X68.here hx rfl (hb hby at_244) rfl rfl ht) ?_
  refine own_step (U' := (T68.setTop (mkF m 248 #[.val (.long p1), .second, .val (.int p2), .val (.int p3), .val (.int p4), .val (.long (Int64.ofNat N)), .second, .val (.int tt), .val (.ref b27), .unset, .unset, .unset, .unset, .unset, .unset, .unset, .unset, .unset, .unset, .unset, .unset, .unset] [(.int (19 : Int32)), (.ref b27)]))) (fun t ht => XS.bipush X68.here hx rfl (hb hby at_246) ht) ?_
  refine own_step (U' := (T68.setTop (mkF m 250 #[.val (.long p1), .second, .val (.int p2), .val (.int p3), .val (.int p4), .val (.long (Int64.ofNat N)), .second, .val (.int tt), .val (.ref b27), .unset, .unset, .unset, .unset, .unset, .unset, .unset, .unset, .unset, .unset, .unset, .unset, .unset] [(.int (48 : Int32)), (.int (19 : Int32)), (.ref b27)]))) (fun t ht => XS.bipush X68.here hx rfl (hb hby at_248) ht) ?_
  refine own_step (U' := (T68.setTop (mkF m 252 #[.val (.long p1), .second, .val (.int p2), .val (.int p3), .val (.int p4), .val (.long (Int64.ofNat N)), .second, .val (.int tt), .val (.ref b27), .unset, .unset, .unset, .unset, .unset, .unset, .unset, .unset, .unset, .unset, .unset, .unset, .unset] [(.int tt), (.int (48 : Int32)), (.int (19 : Int32)), (.ref b27)]))) (fun t ht => XS.iload X68.here hx rfl (hb hby at_250) rfl ht) ?_
  refine own_step (U' := (T68.setTop (mkF m 254 #[.val (.long p1), .second, .val (.int p2), .val (.int p3), .val (.int p4), .val (.long (Int64.ofNat N)), .second, .val (.int tt), .val (.ref b27), .unset, .unset, .unset, .unset, .unset, .unset, .unset, .unset, .unset, .unset, .unset, .unset, .unset] [(.int (10 : Int32)), (.int tt), (.int (48 : Int32)), (.int (19 : Int32)), (.ref b27)]))) (fun t ht => XS.bipush X68.here hx rfl (hb hby at_252) ht) ?_
  refine own_step (U' := (T68.setTop (mkF m 255 #[.val (.long p1), .second, .val (.int p2), .val (.int p3), .val (.int p4), .val (.long (Int64.ofNat N)), .second, .val (.int tt), .val (.ref b27), .unset, .unset, .unset, .unset, .unset, .unset, .unset, .unset, .unset, .unset, .unset, .unset, .unset] [(.int (tt % (10 : Int32))), (.int (48 : Int32)), (.int (19 : Int32)), (.ref b27)]))) (fun t ht => iremM X68 hx rfl (hb hby at_254) rfl (by decide) ht) ?_
  refine own_step (U' := (T68.setTop (mkF m 256 #[.val (.long p1), .second, .val (.int p2), .val (.int p3), .val (.int p4), .val (.long (Int64.ofNat N)), .second, .val (.int tt), .val (.ref b27), .unset, .unset, .unset, .unset, .unset, .unset, .unset, .unset, .unset, .unset, .unset, .unset, .unset] [(.int ((48 : Int32) + (tt % (10 : Int32)))), (.int (19 : Int32)), (.ref b27)]))) (fun t ht => XS.iadd X68.here hx rfl (hb hby at_255) rfl ht) ?_
  refine own_step (U' := (T68.setTop (mkF m 257 #[.val (.long p1), .second, .val (.int p2), .val (.int p3), .val (.int p4), .val (.long (Int64.ofNat N)), .second, .val (.int tt), .val (.ref b27), .unset, .unset, .unset, .unset, .unset, .unset, .unset, .unset, .unset, .unset, .unset, .unset, .unset] [(.int (((48 : Int32) + (tt % (10 : Int32))).toUInt32.toUInt16.toUInt32.toInt32)), (.int (19 : Int32)), (.ref b27)]))) (fun t ht => XT.i2c X68.here hx rfl (hb hby at_256) rfl ht) ?_
  obtain ⟨cl69, Ar69, q69, S69, N69_, H69, G69⟩ := (id V68)
  have hin69 : ¬ ((19 : Int32) < 0 ∨ cl69.slots.size ≤ ((19 : Int32)).toNatClampNeg) := inb_of S69 ⟨by decide, by decide⟩
  obtain ⟨T69, h69, X69, e69, W69, st69⟩ := stC X68 hx hZ e68 Ar69 (j := (19 : Int32)) hin69 (g := (mkF m 257 #[.val (.long p1), .second, .val (.int p2), .val (.int p3), .val (.int p4), .val (.long (Int64.ofNat N)), .second, .val (.int tt), .val (.ref b27), .unset, .unset, .unset, .unset, .unset, .unset, .unset, .unset, .unset, .unset, .unset, .unset, .unset] [(.int (((48 : Int32) + (tt % (10 : Int32))).toUInt32.toUInt16.toUInt32.toInt32)), (.int (19 : Int32)), (.ref b27)])) rfl rfl (hb hby at_257)
  have f69_0 : Sta Z h69 "java/lang/String" "COMPACT_STRINGS" "Z" (.int cz) := f68_0.wr W69
  have f69_1 : Sta Z h69 "jdk/internal/util/Preconditions" "SIOOBE_FORMATTER" "Ljava/util/function/BiFunction;" fm := f68_1.wr W69
  have V69 : Arv Z h69 b27 k27 .char (20 : Int32) [(.int ((own_dg (Int64.ofNat N) (17 : Int32)).toUInt32.toUInt16.toUInt32.toInt32)), (.int ((own_dg (Int64.ofNat N) (16 : Int32)).toUInt32.toUInt16.toUInt32.toInt32)), (.int ((own_dg (Int64.ofNat N) (15 : Int32)).toUInt32.toUInt16.toUInt32.toInt32)), (.int ((own_dg (Int64.ofNat N) (14 : Int32)).toUInt32.toUInt16.toUInt32.toInt32)), (.int ((own_dg (Int64.ofNat N) (13 : Int32)).toUInt32.toUInt16.toUInt32.toInt32)), (.int ((own_dg (Int64.ofNat N) (12 : Int32)).toUInt32.toUInt16.toUInt32.toInt32)), (.int ((own_dg (Int64.ofNat N) (11 : Int32)).toUInt32.toUInt16.toUInt32.toInt32)), (.int ((own_dg (Int64.ofNat N) (10 : Int32)).toUInt32.toUInt16.toUInt32.toInt32)), (.int ((own_dg (Int64.ofNat N) (9 : Int32)).toUInt32.toUInt16.toUInt32.toInt32)), (.int ((own_dg (Int64.ofNat N) (8 : Int32)).toUInt32.toUInt16.toUInt32.toInt32)), (.int ((own_dg (Int64.ofNat N) (7 : Int32)).toUInt32.toUInt16.toUInt32.toInt32)), (.int ((own_dg (Int64.ofNat N) (6 : Int32)).toUInt32.toUInt16.toUInt32.toInt32)), (.int ((own_dg (Int64.ofNat N) (5 : Int32)).toUInt32.toUInt16.toUInt32.toInt32)), (.int ((own_dg (Int64.ofNat N) (4 : Int32)).toUInt32.toUInt16.toUInt32.toInt32)), (.int ((own_dg (Int64.ofNat N) (3 : Int32)).toUInt32.toUInt16.toUInt32.toInt32)), (.int ((own_dg (Int64.ofNat N) (2 : Int32)).toUInt32.toUInt16.toUInt32.toInt32)), (.int ((own_dg (Int64.ofNat N) (1 : Int32)).toUInt32.toUInt16.toUInt32.toInt32)), (.int ((own_dg (Int64.ofNat N) (0 : Int32)).toUInt32.toUInt16.toUInt32.toInt32)), (.int ((((48 : Int32) + (tt / (10 : Int32))).toUInt32.toUInt16.toUInt32.toInt32).toUInt32.toUInt16.toUInt32.toInt32)), (.int ((((48 : Int32) + (tt % (10 : Int32))).toUInt32.toUInt16.toUInt32.toInt32).toUInt32.toUInt16.toUInt32.toInt32))] (.int (0 : Int32)) := Arv.set Ar69 q69 S69 N69_ H69 G69 (fits_nar_char _) W69 19 rfl (Nat.le_of_ble_eq_true rfl)
  have N69 := Fr.snoc X69 N68 g_b27
  have K69 : Keep h0 h69 [] := K68.wr W69 (Or.inr sz_b27)
  refine own_step (U' := (T69.setTop (mkF m 258 #[.val (.long p1), .second, .val (.int p2), .val (.int p3), .val (.int p4), .val (.long (Int64.ofNat N)), .second, .val (.int tt), .val (.ref b27), .unset, .unset, .unset, .unset, .unset, .unset, .unset, .unset, .unset, .unset, .unset, .unset, .unset] []))) (fun t ht => st69 _ ht) ?_
  obtain ⟨T70, h70, X70, e70, E70, A70, D70, -, st70⟩ := newO X69 hx hZ hown (hw _ (List.mem_of_getElem? (i := 29) rfl)) (hw _ (List.mem_of_getElem? (i := 30) rfl)) (hw _ (List.mem_of_getElem? (i := 31) rfl)) e69 (g := (mkF m 258 #[.val (.long p1), .second, .val (.int p2), .val (.int p3), .val (.int p4), .val (.long (Int64.ofNat N)), .second, .val (.int tt), .val (.ref b27), .unset, .unset, .unset, .unset, .unset, .unset, .unset, .unset, .unset, .unset, .unset, .unset, .unset] [])) rfl (hb hby at_258) (by decide) (by decide)
  obtain ⟨b70, g70⟩ : ∃ z, z = (h69).size := ⟨_, rfl⟩
  rw [← g70] at A70 D70 st70
  have ne_b27_b70 : b27 ≠ b70 := Nat.ne_of_lt (Nat.lt_of_lt_of_le V69.lt (Nat.le_of_eq g70.symm))
  have g_b70 : n0 ≤ b70 := Nat.le_trans (Nat.le_trans Z0 K69.1) (Nat.le_of_eq g70.symm)
  have sz_b70 : h0.size ≤ b70 := Nat.le_trans K69.1 (Nat.le_of_eq g70.symm)
  have f70_0 : Sta Z h70 "java/lang/String" "COMPACT_STRINGS" "Z" (.int cz) := f69_0.ext E70
  have f70_1 : Sta Z h70 "jdk/internal/util/Preconditions" "SIOOBE_FORMATTER" "Ljava/util/function/BiFunction;" fm := f69_1.ext E70
  have f70_2 : Arv Z h70 b27 k27 .char (20 : Int32) [(.int ((own_dg (Int64.ofNat N) (17 : Int32)).toUInt32.toUInt16.toUInt32.toInt32)), (.int ((own_dg (Int64.ofNat N) (16 : Int32)).toUInt32.toUInt16.toUInt32.toInt32)), (.int ((own_dg (Int64.ofNat N) (15 : Int32)).toUInt32.toUInt16.toUInt32.toInt32)), (.int ((own_dg (Int64.ofNat N) (14 : Int32)).toUInt32.toUInt16.toUInt32.toInt32)), (.int ((own_dg (Int64.ofNat N) (13 : Int32)).toUInt32.toUInt16.toUInt32.toInt32)), (.int ((own_dg (Int64.ofNat N) (12 : Int32)).toUInt32.toUInt16.toUInt32.toInt32)), (.int ((own_dg (Int64.ofNat N) (11 : Int32)).toUInt32.toUInt16.toUInt32.toInt32)), (.int ((own_dg (Int64.ofNat N) (10 : Int32)).toUInt32.toUInt16.toUInt32.toInt32)), (.int ((own_dg (Int64.ofNat N) (9 : Int32)).toUInt32.toUInt16.toUInt32.toInt32)), (.int ((own_dg (Int64.ofNat N) (8 : Int32)).toUInt32.toUInt16.toUInt32.toInt32)), (.int ((own_dg (Int64.ofNat N) (7 : Int32)).toUInt32.toUInt16.toUInt32.toInt32)), (.int ((own_dg (Int64.ofNat N) (6 : Int32)).toUInt32.toUInt16.toUInt32.toInt32)), (.int ((own_dg (Int64.ofNat N) (5 : Int32)).toUInt32.toUInt16.toUInt32.toInt32)), (.int ((own_dg (Int64.ofNat N) (4 : Int32)).toUInt32.toUInt16.toUInt32.toInt32)), (.int ((own_dg (Int64.ofNat N) (3 : Int32)).toUInt32.toUInt16.toUInt32.toInt32)), (.int ((own_dg (Int64.ofNat N) (2 : Int32)).toUInt32.toUInt16.toUInt32.toInt32)), (.int ((own_dg (Int64.ofNat N) (1 : Int32)).toUInt32.toUInt16.toUInt32.toInt32)), (.int ((own_dg (Int64.ofNat N) (0 : Int32)).toUInt32.toUInt16.toUInt32.toInt32)), (.int ((((48 : Int32) + (tt / (10 : Int32))).toUInt32.toUInt16.toUInt32.toInt32).toUInt32.toUInt16.toUInt32.toInt32)), (.int ((((48 : Int32) + (tt % (10 : Int32))).toUInt32.toUInt16.toUInt32.toInt32).toUInt32.toUInt16.toUInt32.toInt32))] (.int (0 : Int32)) := V69.ext E70
  have K70 : Keep h0 h70 [] := K69.ext E70
  have F70_55 : Fld Z h70 b70 "java/lang/String" "coder" "B" (.int (0 : Int32)) := D70 (Or.inr (hw _ (List.mem_of_getElem? (i := 55) rfl))) (ty := .byte) (by decide)
  have F70_57 : Fld Z h70 b70 "java/lang/String" "value" "[B" .null := D70 (Or.inr (hw _ (List.mem_of_getElem? (i := 57) rfl))) (ty := (.array .byte)) (by decide)
  refine own_step (U' := (T70.setTop (mkF m 261 #[.val (.long p1), .second, .val (.int p2), .val (.int p3), .val (.int p4), .val (.long (Int64.ofNat N)), .second, .val (.int tt), .val (.ref b27), .unset, .unset, .unset, .unset, .unset, .unset, .unset, .unset, .unset, .unset, .unset, .unset, .unset] [(.ref b70)]))) (fun t ht => st70 _ ht) ?_
  refine own_step (U' := (T70.setTop (mkF m 262 #[.val (.long p1), .second, .val (.int p2), .val (.int p3), .val (.int p4), .val (.long (Int64.ofNat N)), .second, .val (.int tt), .val (.ref b27), .unset, .unset, .unset, .unset, .unset, .unset, .unset, .unset, .unset, .unset, .unset, .unset, .unset] [(.ref b70), (.ref b70)]))) (fun t ht => XS.dup X70.here hx rfl (hb hby at_261) rfl rfl ht) ?_
  refine own_step (U' := (T70.setTop (mkF m 264 #[.val (.long p1), .second, .val (.int p2), .val (.int p3), .val (.int p4), .val (.long (Int64.ofNat N)), .second, .val (.int tt), .val (.ref b27), .unset, .unset, .unset, .unset, .unset, .unset, .unset, .unset, .unset, .unset, .unset, .unset, .unset] [(.ref b27), (.ref b70), (.ref b70)]))) (fun t ht => XS.aload X70.here hx rfl (hb hby at_262) rfl rfl ht) ?_
  obtain ⟨Lo72, Xo72, No72⟩ : ∃ Lx, Stand p l e room_1 s m #[(.long p1), (.int p2), (.int p3), (.int p4)] below meth c T70 Lx 20 366 ∧ Fr n0 Lx := ⟨_, X70, N69⟩
  have hlat71 : ∀ c ∈ [((own_dg (Int64.ofNat N) (17 : Int32)).toUInt32.toUInt16.toUInt32.toInt32), ((own_dg (Int64.ofNat N) (16 : Int32)).toUInt32.toUInt16.toUInt32.toInt32), ((own_dg (Int64.ofNat N) (15 : Int32)).toUInt32.toUInt16.toUInt32.toInt32), ((own_dg (Int64.ofNat N) (14 : Int32)).toUInt32.toUInt16.toUInt32.toInt32), ((own_dg (Int64.ofNat N) (13 : Int32)).toUInt32.toUInt16.toUInt32.toInt32), ((own_dg (Int64.ofNat N) (12 : Int32)).toUInt32.toUInt16.toUInt32.toInt32), ((own_dg (Int64.ofNat N) (11 : Int32)).toUInt32.toUInt16.toUInt32.toInt32), ((own_dg (Int64.ofNat N) (10 : Int32)).toUInt32.toUInt16.toUInt32.toInt32), ((own_dg (Int64.ofNat N) (9 : Int32)).toUInt32.toUInt16.toUInt32.toInt32), ((own_dg (Int64.ofNat N) (8 : Int32)).toUInt32.toUInt16.toUInt32.toInt32), ((own_dg (Int64.ofNat N) (7 : Int32)).toUInt32.toUInt16.toUInt32.toInt32), ((own_dg (Int64.ofNat N) (6 : Int32)).toUInt32.toUInt16.toUInt32.toInt32), ((own_dg (Int64.ofNat N) (5 : Int32)).toUInt32.toUInt16.toUInt32.toInt32), ((own_dg (Int64.ofNat N) (4 : Int32)).toUInt32.toUInt16.toUInt32.toInt32), ((own_dg (Int64.ofNat N) (3 : Int32)).toUInt32.toUInt16.toUInt32.toInt32), ((own_dg (Int64.ofNat N) (2 : Int32)).toUInt32.toUInt16.toUInt32.toInt32), ((own_dg (Int64.ofNat N) (1 : Int32)).toUInt32.toUInt16.toUInt32.toInt32), ((own_dg (Int64.ofNat N) (0 : Int32)).toUInt32.toUInt16.toUInt32.toInt32), ((((48 : Int32) + (tt / (10 : Int32))).toUInt32.toUInt16.toUInt32.toInt32).toUInt32.toUInt16.toUInt32.toInt32), ((((48 : Int32) + (tt % (10 : Int32))).toUInt32.toUInt16.toUInt32.toInt32).toUInt32.toUInt16.toUInt32.toInt32)], ¬ c < 0 ∧ ¬ (255 : Int32) < c := by
    intro c hc
    simp only [List.mem_cons, List.not_mem_nil, or_false] at hc
    rcases hc with rfl | rfl | rfl | rfl | rfl | rfl | rfl | rfl | rfl | rfl | rfl | rfl | rfl | rfl | rfl | rfl | rfl | rfl | rfl | rfl
    · exact (own_lat1 (own_dgc (T := TT) hN hT (k := (17 : Int32)) (j := 17) ⟨rfl, by decide⟩ (by decide)))
    · exact (own_lat1 (own_dgc (T := TT) hN hT (k := (16 : Int32)) (j := 16) ⟨rfl, by decide⟩ (by decide)))
    · exact (own_lat1 (own_dgc (T := TT) hN hT (k := (15 : Int32)) (j := 15) ⟨rfl, by decide⟩ (by decide)))
    · exact (own_lat1 (own_dgc (T := TT) hN hT (k := (14 : Int32)) (j := 14) ⟨rfl, by decide⟩ (by decide)))
    · exact (own_lat1 (own_dgc (T := TT) hN hT (k := (13 : Int32)) (j := 13) ⟨rfl, by decide⟩ (by decide)))
    · exact (own_lat1 (own_dgc (T := TT) hN hT (k := (12 : Int32)) (j := 12) ⟨rfl, by decide⟩ (by decide)))
    · exact (own_lat1 (own_dgc (T := TT) hN hT (k := (11 : Int32)) (j := 11) ⟨rfl, by decide⟩ (by decide)))
    · exact (own_lat1 (own_dgc (T := TT) hN hT (k := (10 : Int32)) (j := 10) ⟨rfl, by decide⟩ (by decide)))
    · exact (own_lat1 (own_dgc (T := TT) hN hT (k := (9 : Int32)) (j := 9) ⟨rfl, by decide⟩ (by decide)))
    · exact (own_lat1 (own_dgc (T := TT) hN hT (k := (8 : Int32)) (j := 8) ⟨rfl, by decide⟩ (by decide)))
    · exact (own_lat1 (own_dgc (T := TT) hN hT (k := (7 : Int32)) (j := 7) ⟨rfl, by decide⟩ (by decide)))
    · exact (own_lat1 (own_dgc (T := TT) hN hT (k := (6 : Int32)) (j := 6) ⟨rfl, by decide⟩ (by decide)))
    · exact (own_lat1 (own_dgc (T := TT) hN hT (k := (5 : Int32)) (j := 5) ⟨rfl, by decide⟩ (by decide)))
    · exact (own_lat1 (own_dgc (T := TT) hN hT (k := (4 : Int32)) (j := 4) ⟨rfl, by decide⟩ (by decide)))
    · exact (own_lat1 (own_dgc (T := TT) hN hT (k := (3 : Int32)) (j := 3) ⟨rfl, by decide⟩ (by decide)))
    · exact (own_lat1 (own_dgc (T := TT) hN hT (k := (2 : Int32)) (j := 2) ⟨rfl, by decide⟩ (by decide)))
    · exact (own_lat1 (own_dgc (T := TT) hN hT (k := (1 : Int32)) (j := 1) ⟨rfl, by decide⟩ (by decide)))
    · exact (own_lat1 (own_dgc (T := TT) hN hT (k := (0 : Int32)) (j := 0) ⟨rfl, by decide⟩ (by decide)))
    · exact (own_lat1 (own_t18 (N := N) htt hT))
    · exact (own_lat1 (own_t19 (N := N) htt hT))
  obtain ⟨_, _, ⟨T71, L71, k71, n71⟩, -, X71, ⟨Lc71, hQ71, l71, y71, z71⟩, st71⟩ := Xo72.specialBack hx (y := (⟨"java/lang/String", "<init>", "([C)V"⟩ : MethodName)) rfl hown (mvT hZ (hw _ (List.mem_of_getElem? (i := 32) rfl))) (mvT hZ (hw _ (List.mem_of_getElem? (i := 33) rfl))) (mvT hZ (hw _ (List.mem_of_getElem? (i := 34) rfl))) (by decide) (StrChars.Road.backV (W := 1) hZ own_hws (kI := 4) (hw _ (List.mem_of_getElem? (i := 30) rfl)) (cs := [((own_dg (Int64.ofNat N) (17 : Int32)).toUInt32.toUInt16.toUInt32.toInt32), ((own_dg (Int64.ofNat N) (16 : Int32)).toUInt32.toUInt16.toUInt32.toInt32), ((own_dg (Int64.ofNat N) (15 : Int32)).toUInt32.toUInt16.toUInt32.toInt32), ((own_dg (Int64.ofNat N) (14 : Int32)).toUInt32.toUInt16.toUInt32.toInt32), ((own_dg (Int64.ofNat N) (13 : Int32)).toUInt32.toUInt16.toUInt32.toInt32), ((own_dg (Int64.ofNat N) (12 : Int32)).toUInt32.toUInt16.toUInt32.toInt32), ((own_dg (Int64.ofNat N) (11 : Int32)).toUInt32.toUInt16.toUInt32.toInt32), ((own_dg (Int64.ofNat N) (10 : Int32)).toUInt32.toUInt16.toUInt32.toInt32), ((own_dg (Int64.ofNat N) (9 : Int32)).toUInt32.toUInt16.toUInt32.toInt32), ((own_dg (Int64.ofNat N) (8 : Int32)).toUInt32.toUInt16.toUInt32.toInt32), ((own_dg (Int64.ofNat N) (7 : Int32)).toUInt32.toUInt16.toUInt32.toInt32), ((own_dg (Int64.ofNat N) (6 : Int32)).toUInt32.toUInt16.toUInt32.toInt32), ((own_dg (Int64.ofNat N) (5 : Int32)).toUInt32.toUInt16.toUInt32.toInt32), ((own_dg (Int64.ofNat N) (4 : Int32)).toUInt32.toUInt16.toUInt32.toInt32), ((own_dg (Int64.ofNat N) (3 : Int32)).toUInt32.toUInt16.toUInt32.toInt32), ((own_dg (Int64.ofNat N) (2 : Int32)).toUInt32.toUInt16.toUInt32.toInt32), ((own_dg (Int64.ofNat N) (1 : Int32)).toUInt32.toUInt16.toUInt32.toInt32), ((own_dg (Int64.ofNat N) (0 : Int32)).toUInt32.toUInt16.toUInt32.toInt32), ((((48 : Int32) + (tt / (10 : Int32))).toUInt32.toUInt16.toUInt32.toInt32).toUInt32.toUInt16.toUInt32.toInt32), ((((48 : Int32) + (tt % (10 : Int32))).toUInt32.toUInt16.toUInt32.toInt32).toUInt32.toUInt16.toUInt32.toInt32)]) (bs := [(((own_dg (Int64.ofNat N) (17 : Int32)).toUInt32.toUInt16.toUInt32.toInt32)).toInt8.toInt32, (((own_dg (Int64.ofNat N) (16 : Int32)).toUInt32.toUInt16.toUInt32.toInt32)).toInt8.toInt32, (((own_dg (Int64.ofNat N) (15 : Int32)).toUInt32.toUInt16.toUInt32.toInt32)).toInt8.toInt32, (((own_dg (Int64.ofNat N) (14 : Int32)).toUInt32.toUInt16.toUInt32.toInt32)).toInt8.toInt32, (((own_dg (Int64.ofNat N) (13 : Int32)).toUInt32.toUInt16.toUInt32.toInt32)).toInt8.toInt32, (((own_dg (Int64.ofNat N) (12 : Int32)).toUInt32.toUInt16.toUInt32.toInt32)).toInt8.toInt32, (((own_dg (Int64.ofNat N) (11 : Int32)).toUInt32.toUInt16.toUInt32.toInt32)).toInt8.toInt32, (((own_dg (Int64.ofNat N) (10 : Int32)).toUInt32.toUInt16.toUInt32.toInt32)).toInt8.toInt32, (((own_dg (Int64.ofNat N) (9 : Int32)).toUInt32.toUInt16.toUInt32.toInt32)).toInt8.toInt32, (((own_dg (Int64.ofNat N) (8 : Int32)).toUInt32.toUInt16.toUInt32.toInt32)).toInt8.toInt32, (((own_dg (Int64.ofNat N) (7 : Int32)).toUInt32.toUInt16.toUInt32.toInt32)).toInt8.toInt32, (((own_dg (Int64.ofNat N) (6 : Int32)).toUInt32.toUInt16.toUInt32.toInt32)).toInt8.toInt32, (((own_dg (Int64.ofNat N) (5 : Int32)).toUInt32.toUInt16.toUInt32.toInt32)).toInt8.toInt32, (((own_dg (Int64.ofNat N) (4 : Int32)).toUInt32.toUInt16.toUInt32.toInt32)).toInt8.toInt32, (((own_dg (Int64.ofNat N) (3 : Int32)).toUInt32.toUInt16.toUInt32.toInt32)).toInt8.toInt32, (((own_dg (Int64.ofNat N) (2 : Int32)).toUInt32.toUInt16.toUInt32.toInt32)).toInt8.toInt32, (((own_dg (Int64.ofNat N) (1 : Int32)).toUInt32.toUInt16.toUInt32.toInt32)).toInt8.toInt32, (((own_dg (Int64.ofNat N) (0 : Int32)).toUInt32.toUInt16.toUInt32.toInt32)).toInt8.toInt32, (((((48 : Int32) + (tt / (10 : Int32))).toUInt32.toUInt16.toUInt32.toInt32).toUInt32.toUInt16.toUInt32.toInt32)).toInt8.toInt32, (((((48 : Int32) + (tt % (10 : Int32))).toUInt32.toUInt16.toUInt32.toInt32).toUInt32.toUInt16.toUInt32.toInt32)).toInt8.toInt32]) (n := 20) g_b70 (Nat.le_trans Z0 K70.1) A70 F70_57 F70_55 f70_2 f70_0 hcz rfl rfl (by decide) (by decide) hlat71 rfl (by decide) (by decide)) (g := (mkF m 264 #[.val (.long p1), .second, .val (.int p2), .val (.int p3), .val (.int p4), .val (.long (Int64.ofNat N)), .second, .val (.int tt), .val (.ref b27), .unset, .unset, .unset, .unset, .unset, .unset, .unset, .unset, .unset, .unset, .unset, .unset, .unset] [(.ref b27), (.ref b70), (.ref b70)])) rfl (by rw [hml]; rfl) (Steps.refl _) (a := b70) (argsL := [(.ref b27)]) (rest := [(.ref b70)]) (lenOf own_pd3 rfl) rfl (by show 2 * 0 + _ ≤ _; exact Nat.le_of_eq rfl) (hb hby at_264) (fun _ _ => ⟨rfl, e70, (by decide : 20 + 1 ≤ _), (by decide : 366 + 20 ≤ _)⟩)
  dsimp only [Pt.U, Pt.locs, Pt.cells, Pt.slots] at X71 l71 y71 z71 st71 hQ71
  subst l71 y71 z71
  obtain ⟨rfl, Nq71, Kq71, Eq71, Cq71, by71, kb71, gn_by71, sq_by71, nq_by71, Vq71, Aq71⟩ := hQ71
  have N71 := Fr.app No72 Nq71
  have ne_b27_by71 : b27 ≠ by71 := Nat.ne_of_lt (Nat.lt_of_lt_of_le f70_2.lt sq_by71)
  have ne_b70_by71 : b70 ≠ by71 := Nat.ne_of_lt (Nat.lt_of_lt_of_le A70.lt sq_by71)
  have sz_by71 : h0.size ≤ by71 := Nat.le_trans K70.1 sq_by71
  have f71_0 : Sta Z T71.heap "java/lang/String" "COMPACT_STRINGS" "Z" (.int cz) := own_sta_keep f70_0 Kq71 (own_plE A70 own_pl0)
  have f71_1 : Sta Z T71.heap "jdk/internal/util/Preconditions" "SIOOBE_FORMATTER" "Ljava/util/function/BiFunction;" fm := own_sta_keep f70_1 Kq71 (own_plE A70 own_pl0)
  have f71_2 : Arv Z T71.heap b27 k27 .char (20 : Int32) [(.int ((own_dg (Int64.ofNat N) (17 : Int32)).toUInt32.toUInt16.toUInt32.toInt32)), (.int ((own_dg (Int64.ofNat N) (16 : Int32)).toUInt32.toUInt16.toUInt32.toInt32)), (.int ((own_dg (Int64.ofNat N) (15 : Int32)).toUInt32.toUInt16.toUInt32.toInt32)), (.int ((own_dg (Int64.ofNat N) (14 : Int32)).toUInt32.toUInt16.toUInt32.toInt32)), (.int ((own_dg (Int64.ofNat N) (13 : Int32)).toUInt32.toUInt16.toUInt32.toInt32)), (.int ((own_dg (Int64.ofNat N) (12 : Int32)).toUInt32.toUInt16.toUInt32.toInt32)), (.int ((own_dg (Int64.ofNat N) (11 : Int32)).toUInt32.toUInt16.toUInt32.toInt32)), (.int ((own_dg (Int64.ofNat N) (10 : Int32)).toUInt32.toUInt16.toUInt32.toInt32)), (.int ((own_dg (Int64.ofNat N) (9 : Int32)).toUInt32.toUInt16.toUInt32.toInt32)), (.int ((own_dg (Int64.ofNat N) (8 : Int32)).toUInt32.toUInt16.toUInt32.toInt32)), (.int ((own_dg (Int64.ofNat N) (7 : Int32)).toUInt32.toUInt16.toUInt32.toInt32)), (.int ((own_dg (Int64.ofNat N) (6 : Int32)).toUInt32.toUInt16.toUInt32.toInt32)), (.int ((own_dg (Int64.ofNat N) (5 : Int32)).toUInt32.toUInt16.toUInt32.toInt32)), (.int ((own_dg (Int64.ofNat N) (4 : Int32)).toUInt32.toUInt16.toUInt32.toInt32)), (.int ((own_dg (Int64.ofNat N) (3 : Int32)).toUInt32.toUInt16.toUInt32.toInt32)), (.int ((own_dg (Int64.ofNat N) (2 : Int32)).toUInt32.toUInt16.toUInt32.toInt32)), (.int ((own_dg (Int64.ofNat N) (1 : Int32)).toUInt32.toUInt16.toUInt32.toInt32)), (.int ((own_dg (Int64.ofNat N) (0 : Int32)).toUInt32.toUInt16.toUInt32.toInt32)), (.int ((((48 : Int32) + (tt / (10 : Int32))).toUInt32.toUInt16.toUInt32.toInt32).toUInt32.toUInt16.toUInt32.toInt32)), (.int ((((48 : Int32) + (tt % (10 : Int32))).toUInt32.toUInt16.toUInt32.toInt32).toUInt32.toUInt16.toUInt32.toInt32))] (.int (0 : Int32)) := f70_2.keep Kq71 (ninS ne_b27_b70 nin0)
  have f71_3 : Exa Z T71.heap b70 "java/lang/String" := A70.keep Kq71
  have K71 : Keep h0 T71.heap [] := K70.trans Kq71 (allS (Or.inr sz_b70) all0)
  refine own_step (U' := (T71.setTop (mkF m 267 #[.val (.long p1), .second, .val (.int p2), .val (.int p3), .val (.int p4), .val (.long (Int64.ofNat N)), .second, .val (.int tt), .val (.ref b27), .unset, .unset, .unset, .unset, .unset, .unset, .unset, .unset, .unset, .unset, .unset, .unset, .unset] [(.ref b70)]))) (fun t ht => st71.trans ht) ?_
  refine own_step (U' := (T71.setTop (mkF m 269 #[.val (.long p1), .second, .val (.int p2), .val (.int p3), .val (.int p4), .val (.long (Int64.ofNat N)), .second, .val (.int tt), .val (.ref b27), .val (.ref b70), .unset, .unset, .unset, .unset, .unset, .unset, .unset, .unset, .unset, .unset, .unset, .unset] []))) (fun t ht => XS.astore X71.here hx rfl (hb hby at_267) rfl rfl (l' := #[.val (.long p1), .second, .val (.int p2), .val (.int p3), .val (.int p4), .val (.long (Int64.ofNat N)), .second, .val (.int tt), .val (.ref b27), .val (.ref b70), .unset, .unset, .unset, .unset, .unset, .unset, .unset, .unset, .unset, .unset, .unset, .unset]) rfl ht) ?_
  refine own_step (U' := (T71.setTop (mkF m 270 #[.val (.long p1), .second, .val (.int p2), .val (.int p3), .val (.int p4), .val (.long (Int64.ofNat N)), .second, .val (.int tt), .val (.ref b27), .val (.ref b70), .unset, .unset, .unset, .unset, .unset, .unset, .unset, .unset, .unset, .unset, .unset, .unset] [(.int p3)]))) (fun t ht => XS.iloadN X71.here hx rfl (hb hby at_269) rfl ht) ?_
  refine own_step (U' := (T71.setTop (mkF m 272 #[.val (.long p1), .second, .val (.int p2), .val (.int p3), .val (.int p4), .val (.long (Int64.ofNat N)), .second, .val (.int tt), .val (.ref b27), .val (.ref b70), .unset, .unset, .unset, .unset, .unset, .unset, .unset, .unset, .unset, .unset, .unset, .unset] [(.int (2147483647 : Int32)), (.int p3)]))) (fun t ht => X71.ldcInt hx hown (mvT hZ (hw _ (List.mem_of_getElem? (i := 2) rfl))) (g := (mkF m 270 #[.val (.long p1), .second, .val (.int p2), .val (.int p3), .val (.int p4), .val (.long (Int64.ofNat N)), .second, .val (.int tt), .val (.ref b27), .val (.ref b70), .unset, .unset, .unset, .unset, .unset, .unset, .unset, .unset, .unset, .unset, .unset, .unset] [(.int p3)])) rfl (hb hby at_270) _ ht) ?_
  refine own_step (U' := (T71.setTop (mkF m 273 #[.val (.long p1), .second, .val (.int p2), .val (.int p3), .val (.int p4), .val (.long (Int64.ofNat N)), .second, .val (.int tt), .val (.ref b27), .val (.ref b70), .unset, .unset, .unset, .unset, .unset, .unset, .unset, .unset, .unset, .unset, .unset, .unset] [(.int (p3 &&& (2147483647 : Int32)))]))) (fun t ht => XS.iand X71.here hx rfl (hb hby at_272) rfl ht) ?_
  refine own_step (U' := (T71.setTop (mkF m 275 #[.val (.long p1), .second, .val (.int p2), .val (.int p3), .val (.int p4), .val (.long (Int64.ofNat N)), .second, .val (.int tt), .val (.ref b27), .val (.ref b70), .unset, .unset, .unset, .unset, .unset, .unset, .unset, .unset, .unset, .unset, .unset, .unset] [(.int (21 : Int32)), (.int (p3 &&& (2147483647 : Int32)))]))) (fun t ht => XS.bipush X71.here hx rfl (hb hby at_273) ht) ?_
  refine own_step (U' := (T71.setTop (mkF m 276 #[.val (.long p1), .second, .val (.int p2), .val (.int p3), .val (.int p4), .val (.long (Int64.ofNat N)), .second, .val (.int tt), .val (.ref b27), .val (.ref b70), .unset, .unset, .unset, .unset, .unset, .unset, .unset, .unset, .unset, .unset, .unset, .unset] [(.int ((p3 &&& (2147483647 : Int32)) % (21 : Int32)))]))) (fun t ht => iremM X71 hx rfl (hb hby at_275) rfl (by decide) ht) ?_
  refine own_step (U' := (T71.setTop (mkF m 278 #[.val (.long p1), .second, .val (.int p2), .val (.int p3), .val (.int p4), .val (.long (Int64.ofNat N)), .second, .val (.int tt), .val (.ref b27), .val (.ref b70), .val (.int ((p3 &&& (2147483647 : Int32)) % (21 : Int32))), .unset, .unset, .unset, .unset, .unset, .unset, .unset, .unset, .unset, .unset, .unset] []))) (fun t ht => XS.istore X71.here hx rfl (hb hby at_276) rfl (l' := #[.val (.long p1), .second, .val (.int p2), .val (.int p3), .val (.int p4), .val (.long (Int64.ofNat N)), .second, .val (.int tt), .val (.ref b27), .val (.ref b70), .val (.int ((p3 &&& (2147483647 : Int32)) % (21 : Int32))), .unset, .unset, .unset, .unset, .unset, .unset, .unset, .unset, .unset, .unset, .unset]) rfl ht) ?_
  generalize h_ss : ((p3 &&& (2147483647 : Int32)) % (21 : Int32)) = ss
  obtain ⟨SS, hss, hS⟩ := own_ss h_ss
  refine own_step (U' := (T71.setTop (mkF m 280 #[.val (.long p1), .second, .val (.int p2), .val (.int p3), .val (.int p4), .val (.long (Int64.ofNat N)), .second, .val (.int tt), .val (.ref b27), .val (.ref b70), .val (.int ss), .unset, .unset, .unset, .unset, .unset, .unset, .unset, .unset, .unset, .unset, .unset] [(.int ss)]))) (fun t ht => XS.iload X71.here hx rfl (hb hby at_278) rfl ht) ?_
  refine own_step (U' := (T71.setTop (mkF m 282 #[.val (.long p1), .second, .val (.int p2), .val (.int p3), .val (.int p4), .val (.long (Int64.ofNat N)), .second, .val (.int tt), .val (.ref b27), .val (.ref b70), .val (.int ss), .unset, .unset, .unset, .unset, .unset, .unset, .unset, .unset, .unset, .unset, .unset] [(.int p4), (.int ss)]))) (fun t ht => XS.iload X71.here hx rfl (hb hby at_280) rfl ht) ?_
  refine own_step (U' := (T71.setTop (mkF m 284 #[.val (.long p1), .second, .val (.int p2), .val (.int p3), .val (.int p4), .val (.long (Int64.ofNat N)), .second, .val (.int tt), .val (.ref b27), .val (.ref b70), .val (.int ss), .unset, .unset, .unset, .unset, .unset, .unset, .unset, .unset, .unset, .unset, .unset] [(.int (2147483647 : Int32)), (.int p4), (.int ss)]))) (fun t ht => X71.ldcInt hx hown (mvT hZ (hw _ (List.mem_of_getElem? (i := 2) rfl))) (g := (mkF m 282 #[.val (.long p1), .second, .val (.int p2), .val (.int p3), .val (.int p4), .val (.long (Int64.ofNat N)), .second, .val (.int tt), .val (.ref b27), .val (.ref b70), .val (.int ss), .unset, .unset, .unset, .unset, .unset, .unset, .unset, .unset, .unset, .unset, .unset] [(.int p4), (.int ss)])) rfl (hb hby at_282) _ ht) ?_
  refine own_step (U' := (T71.setTop (mkF m 285 #[.val (.long p1), .second, .val (.int p2), .val (.int p3), .val (.int p4), .val (.long (Int64.ofNat N)), .second, .val (.int tt), .val (.ref b27), .val (.ref b70), .val (.int ss), .unset, .unset, .unset, .unset, .unset, .unset, .unset, .unset, .unset, .unset, .unset] [(.int (p4 &&& (2147483647 : Int32))), (.int ss)]))) (fun t ht => XS.iand X71.here hx rfl (hb hby at_284) rfl ht) ?_
  refine own_step (U' := (T71.setTop (mkF m 287 #[.val (.long p1), .second, .val (.int p2), .val (.int p3), .val (.int p4), .val (.long (Int64.ofNat N)), .second, .val (.int tt), .val (.ref b27), .val (.ref b70), .val (.int ss), .unset, .unset, .unset, .unset, .unset, .unset, .unset, .unset, .unset, .unset, .unset] [(.int (21 : Int32)), (.int (p4 &&& (2147483647 : Int32))), (.int ss)]))) (fun t ht => XS.bipush X71.here hx rfl (hb hby at_285) ht) ?_
  refine own_step (U' := (T71.setTop (mkF m 289 #[.val (.long p1), .second, .val (.int p2), .val (.int p3), .val (.int p4), .val (.long (Int64.ofNat N)), .second, .val (.int tt), .val (.ref b27), .val (.ref b70), .val (.int ss), .unset, .unset, .unset, .unset, .unset, .unset, .unset, .unset, .unset, .unset, .unset] [(.int ss), (.int (21 : Int32)), (.int (p4 &&& (2147483647 : Int32))), (.int ss)]))) (fun t ht => XS.iload X71.here hx rfl (hb hby at_287) rfl ht) ?_
  refine own_step (U' := (T71.setTop (mkF m 290 #[.val (.long p1), .second, .val (.int p2), .val (.int p3), .val (.int p4), .val (.long (Int64.ofNat N)), .second, .val (.int tt), .val (.ref b27), .val (.ref b70), .val (.int ss), .unset, .unset, .unset, .unset, .unset, .unset, .unset, .unset, .unset, .unset, .unset] [(.int ((21 : Int32) - ss)), (.int (p4 &&& (2147483647 : Int32))), (.int ss)]))) (fun t ht => XS.isub X71.here hx rfl (hb hby at_289) rfl ht) ?_
  refine own_step (U' := (T71.setTop (mkF m 291 #[.val (.long p1), .second, .val (.int p2), .val (.int p3), .val (.int p4), .val (.long (Int64.ofNat N)), .second, .val (.int tt), .val (.ref b27), .val (.ref b70), .val (.int ss), .unset, .unset, .unset, .unset, .unset, .unset, .unset, .unset, .unset, .unset, .unset] [(.int ((p4 &&& (2147483647 : Int32)) % ((21 : Int32) - ss))), (.int ss)]))) (fun t ht => iremM X71 hx rfl (hb hby at_290) rfl (own_21nz hss hS) ht) ?_
  refine own_step (U' := (T71.setTop (mkF m 292 #[.val (.long p1), .second, .val (.int p2), .val (.int p3), .val (.int p4), .val (.long (Int64.ofNat N)), .second, .val (.int tt), .val (.ref b27), .val (.ref b70), .val (.int ss), .unset, .unset, .unset, .unset, .unset, .unset, .unset, .unset, .unset, .unset, .unset] [(.int (ss + ((p4 &&& (2147483647 : Int32)) % ((21 : Int32) - ss))))]))) (fun t ht => XS.iadd X71.here hx rfl (hb hby at_291) rfl ht) ?_
  refine own_step (U' := (T71.setTop (mkF m 294 #[.val (.long p1), .second, .val (.int p2), .val (.int p3), .val (.int p4), .val (.long (Int64.ofNat N)), .second, .val (.int tt), .val (.ref b27), .val (.ref b70), .val (.int ss), .val (.int (ss + ((p4 &&& (2147483647 : Int32)) % ((21 : Int32) - ss)))), .unset, .unset, .unset, .unset, .unset, .unset, .unset, .unset, .unset, .unset] []))) (fun t ht => XS.istore X71.here hx rfl (hb hby at_292) rfl (l' := #[.val (.long p1), .second, .val (.int p2), .val (.int p3), .val (.int p4), .val (.long (Int64.ofNat N)), .second, .val (.int tt), .val (.ref b27), .val (.ref b70), .val (.int ss), .val (.int (ss + ((p4 &&& (2147483647 : Int32)) % ((21 : Int32) - ss)))), .unset, .unset, .unset, .unset, .unset, .unset, .unset, .unset, .unset, .unset]) rfl ht) ?_
  generalize h_ee : (ss + ((p4 &&& (2147483647 : Int32)) % ((21 : Int32) - ss))) = ee
  obtain ⟨EE, hee, hSE, hE⟩ := own_ee hss hS h_ee
  refine own_step (U' := (T71.setTop (mkF m 296 #[.val (.long p1), .second, .val (.int p2), .val (.int p3), .val (.int p4), .val (.long (Int64.ofNat N)), .second, .val (.int tt), .val (.ref b27), .val (.ref b70), .val (.int ss), .val (.int ee), .unset, .unset, .unset, .unset, .unset, .unset, .unset, .unset, .unset, .unset] [(.int ee)]))) (fun t ht => XS.iload X71.here hx rfl (hb hby at_294) rfl ht) ?_
  refine own_step (U' := (T71.setTop (mkF m 298 #[.val (.long p1), .second, .val (.int p2), .val (.int p3), .val (.int p4), .val (.long (Int64.ofNat N)), .second, .val (.int tt), .val (.ref b27), .val (.ref b70), .val (.int ss), .val (.int ee), .unset, .unset, .unset, .unset, .unset, .unset, .unset, .unset, .unset, .unset] [(.int ss), (.int ee)]))) (fun t ht => XS.iload X71.here hx rfl (hb hby at_296) rfl ht) ?_
  refine own_step (U' := (T71.setTop (mkF m 299 #[.val (.long p1), .second, .val (.int p2), .val (.int p3), .val (.int p4), .val (.long (Int64.ofNat N)), .second, .val (.int tt), .val (.ref b27), .val (.ref b70), .val (.int ss), .val (.int ee), .unset, .unset, .unset, .unset, .unset, .unset, .unset, .unset, .unset, .unset] [(.int (ee - ss))]))) (fun t ht => XS.isub X71.here hx rfl (hb hby at_298) rfl ht) ?_
  refine own_step (U' := (T71.setTop (mkF m 301 #[.val (.long p1), .second, .val (.int p2), .val (.int p3), .val (.int p4), .val (.long (Int64.ofNat N)), .second, .val (.int tt), .val (.ref b27), .val (.ref b70), .val (.int ss), .val (.int ee), .unset, .unset, .unset, .unset, .unset, .unset, .unset, .unset, .unset, .unset] [(.int (18 : Int32)), (.int (ee - ss))]))) (fun t ht => XS.bipush X71.here hx rfl (hb hby at_299) ht) ?_
  by_cases hc301_73 : (18 : Int32) < (ee - ss)
  ·
    refine own_step (U' := (T71.setTop (mkF m 304 #[.val (.long p1), .second, .val (.int p2), .val (.int p3), .val (.int p4), .val (.long (Int64.ofNat N)), .second, .val (.int tt), .val (.ref b27), .val (.ref b70), .val (.int ss), .val (.int ee), .unset, .unset, .unset, .unset, .unset, .unset, .unset, .unset, .unset, .unset] []))) (fun t ht => XS.icmpNo X71.here hx rfl (hb hby at_301) rfl (XT.ii_le_f hc301_73) ht) ?_
    refine own_step (U' := (T71.setTop (mkF m 307 #[.val (.long p1), .second, .val (.int p2), .val (.int p3), .val (.int p4), .val (.long (Int64.ofNat N)), .second, .val (.int tt), .val (.ref b27), .val (.ref b70), .val (.int ss), .val (.int ee), .unset, .unset, .unset, .unset, .unset, .unset, .unset, .unset, .unset, .unset] [(.long (9223372036854775807 : Int64))]))) (fun t ht => X71.ldc2Long hx hown (mvT hZ (hw _ (List.mem_of_getElem? (i := 0) rfl))) (g := (mkF m 304 #[.val (.long p1), .second, .val (.int p2), .val (.int p3), .val (.int p4), .val (.long (Int64.ofNat N)), .second, .val (.int tt), .val (.ref b27), .val (.ref b70), .val (.int ss), .val (.int ee), .unset, .unset, .unset, .unset, .unset, .unset, .unset, .unset, .unset, .unset] [])) rfl (hb hby at_304) _ ht) ?_
    refine own_step (U' := (T71.setTop (mkF m 309 #[.val (.long p1), .second, .val (.int p2), .val (.int p3), .val (.int p4), .val (.long (Int64.ofNat N)), .second, .val (.int tt), .val (.ref b27), .val (.ref b70), .val (.int ss), .val (.int ee), .val (.long (9223372036854775807 : Int64)), .second, .unset, .unset, .unset, .unset, .unset, .unset, .unset, .unset] []))) (fun t ht => XT.lstore X71.here hx rfl (hb hby at_307) rfl (l' := #[.val (.long p1), .second, .val (.int p2), .val (.int p3), .val (.int p4), .val (.long (Int64.ofNat N)), .second, .val (.int tt), .val (.ref b27), .val (.ref b70), .val (.int ss), .val (.int ee), .val (.long (9223372036854775807 : Int64)), .second, .unset, .unset, .unset, .unset, .unset, .unset, .unset, .unset]) rfl ht) ?_
    refine own_step (U' := (T71.setTop (mkF m 422 #[.val (.long p1), .second, .val (.int p2), .val (.int p3), .val (.int p4), .val (.long (Int64.ofNat N)), .second, .val (.int tt), .val (.ref b27), .val (.ref b70), .val (.int ss), .val (.int ee), .val (.long (9223372036854775807 : Int64)), .second, .unset, .unset, .unset, .unset, .unset, .unset, .unset, .unset] []))) (fun t ht => XS.goto X71.here hx rfl (pc0 := 309) (pc' := 422) rfl (hb hby at_309) (by decide) (by decide) ht) ?_
    refine own_step (U' := (T71.setTop (mkF m 424 #[.val (.long p1), .second, .val (.int p2), .val (.int p3), .val (.int p4), .val (.long (Int64.ofNat N)), .second, .val (.int tt), .val (.ref b27), .val (.ref b70), .val (.int ss), .val (.int ee), .val (.long (9223372036854775807 : Int64)), .second, .unset, .unset, .unset, .unset, .unset, .unset, .unset, .unset] [(.ref b70)]))) (fun t ht => XS.aload X71.here hx rfl (hb hby at_422) rfl rfl ht) ?_
    refine own_step (U' := (T71.setTop (mkF m 426 #[.val (.long p1), .second, .val (.int p2), .val (.int p3), .val (.int p4), .val (.long (Int64.ofNat N)), .second, .val (.int tt), .val (.ref b27), .val (.ref b70), .val (.int ss), .val (.int ee), .val (.long (9223372036854775807 : Int64)), .second, .unset, .unset, .unset, .unset, .unset, .unset, .unset, .unset] [(.int ss), (.ref b70)]))) (fun t ht => XS.iload X71.here hx rfl (hb hby at_424) rfl ht) ?_
    refine own_step (U' := (T71.setTop (mkF m 428 #[.val (.long p1), .second, .val (.int p2), .val (.int p3), .val (.int p4), .val (.long (Int64.ofNat N)), .second, .val (.int tt), .val (.ref b27), .val (.ref b70), .val (.int ss), .val (.int ee), .val (.long (9223372036854775807 : Int64)), .second, .unset, .unset, .unset, .unset, .unset, .unset, .unset, .unset] [(.int ee), (.int ss), (.ref b70)]))) (fun t ht => XS.iload X71.here hx rfl (hb hby at_426) rfl ht) ?_
    have hdig66 : ∀ i, i < 20 → ([((own_dg (Int64.ofNat N) (17 : Int32)).toUInt32.toUInt16.toUInt32.toInt32), ((own_dg (Int64.ofNat N) (16 : Int32)).toUInt32.toUInt16.toUInt32.toInt32), ((own_dg (Int64.ofNat N) (15 : Int32)).toUInt32.toUInt16.toUInt32.toInt32), ((own_dg (Int64.ofNat N) (14 : Int32)).toUInt32.toUInt16.toUInt32.toInt32), ((own_dg (Int64.ofNat N) (13 : Int32)).toUInt32.toUInt16.toUInt32.toInt32), ((own_dg (Int64.ofNat N) (12 : Int32)).toUInt32.toUInt16.toUInt32.toInt32), ((own_dg (Int64.ofNat N) (11 : Int32)).toUInt32.toUInt16.toUInt32.toInt32), ((own_dg (Int64.ofNat N) (10 : Int32)).toUInt32.toUInt16.toUInt32.toInt32), ((own_dg (Int64.ofNat N) (9 : Int32)).toUInt32.toUInt16.toUInt32.toInt32), ((own_dg (Int64.ofNat N) (8 : Int32)).toUInt32.toUInt16.toUInt32.toInt32), ((own_dg (Int64.ofNat N) (7 : Int32)).toUInt32.toUInt16.toUInt32.toInt32), ((own_dg (Int64.ofNat N) (6 : Int32)).toUInt32.toUInt16.toUInt32.toInt32), ((own_dg (Int64.ofNat N) (5 : Int32)).toUInt32.toUInt16.toUInt32.toInt32), ((own_dg (Int64.ofNat N) (4 : Int32)).toUInt32.toUInt16.toUInt32.toInt32), ((own_dg (Int64.ofNat N) (3 : Int32)).toUInt32.toUInt16.toUInt32.toInt32), ((own_dg (Int64.ofNat N) (2 : Int32)).toUInt32.toUInt16.toUInt32.toInt32), ((own_dg (Int64.ofNat N) (1 : Int32)).toUInt32.toUInt16.toUInt32.toInt32), ((own_dg (Int64.ofNat N) (0 : Int32)).toUInt32.toUInt16.toUInt32.toInt32), ((((48 : Int32) + (tt / (10 : Int32))).toUInt32.toUInt16.toUInt32.toInt32).toUInt32.toUInt16.toUInt32.toInt32), ((((48 : Int32) + (tt % (10 : Int32))).toUInt32.toUInt16.toUInt32.toInt32).toUInt32.toUInt16.toUInt32.toInt32)] : List Int32).getD i 0 = own_dgN (N * 100 + TT) i := by
      intro i hi
      have hc : i = 0 ∨ i = 1 ∨ i = 2 ∨ i = 3 ∨ i = 4 ∨ i = 5 ∨ i = 6 ∨ i = 7 ∨ i = 8 ∨ i = 9 ∨ i = 10 ∨ i = 11 ∨ i = 12 ∨ i = 13 ∨ i = 14 ∨ i = 15 ∨ i = 16 ∨ i = 17 ∨ i = 18 ∨ i = 19 := by omega
      rcases hc with rfl | rfl | rfl | rfl | rfl | rfl | rfl | rfl | rfl | rfl | rfl | rfl | rfl | rfl | rfl | rfl | rfl | rfl | rfl | rfl
      · show ((own_dg (Int64.ofNat N) (17 : Int32)).toUInt32.toUInt16.toUInt32.toInt32) = _
        exact (own_dgc (T := TT) hN hT (k := (17 : Int32)) (j := 17) ⟨rfl, by decide⟩ (by decide))
      · show ((own_dg (Int64.ofNat N) (16 : Int32)).toUInt32.toUInt16.toUInt32.toInt32) = _
        exact (own_dgc (T := TT) hN hT (k := (16 : Int32)) (j := 16) ⟨rfl, by decide⟩ (by decide))
      · show ((own_dg (Int64.ofNat N) (15 : Int32)).toUInt32.toUInt16.toUInt32.toInt32) = _
        exact (own_dgc (T := TT) hN hT (k := (15 : Int32)) (j := 15) ⟨rfl, by decide⟩ (by decide))
      · show ((own_dg (Int64.ofNat N) (14 : Int32)).toUInt32.toUInt16.toUInt32.toInt32) = _
        exact (own_dgc (T := TT) hN hT (k := (14 : Int32)) (j := 14) ⟨rfl, by decide⟩ (by decide))
      · show ((own_dg (Int64.ofNat N) (13 : Int32)).toUInt32.toUInt16.toUInt32.toInt32) = _
        exact (own_dgc (T := TT) hN hT (k := (13 : Int32)) (j := 13) ⟨rfl, by decide⟩ (by decide))
      · show ((own_dg (Int64.ofNat N) (12 : Int32)).toUInt32.toUInt16.toUInt32.toInt32) = _
        exact (own_dgc (T := TT) hN hT (k := (12 : Int32)) (j := 12) ⟨rfl, by decide⟩ (by decide))
      · show ((own_dg (Int64.ofNat N) (11 : Int32)).toUInt32.toUInt16.toUInt32.toInt32) = _
        exact (own_dgc (T := TT) hN hT (k := (11 : Int32)) (j := 11) ⟨rfl, by decide⟩ (by decide))
      · show ((own_dg (Int64.ofNat N) (10 : Int32)).toUInt32.toUInt16.toUInt32.toInt32) = _
        exact (own_dgc (T := TT) hN hT (k := (10 : Int32)) (j := 10) ⟨rfl, by decide⟩ (by decide))
      · show ((own_dg (Int64.ofNat N) (9 : Int32)).toUInt32.toUInt16.toUInt32.toInt32) = _
        exact (own_dgc (T := TT) hN hT (k := (9 : Int32)) (j := 9) ⟨rfl, by decide⟩ (by decide))
      · show ((own_dg (Int64.ofNat N) (8 : Int32)).toUInt32.toUInt16.toUInt32.toInt32) = _
        exact (own_dgc (T := TT) hN hT (k := (8 : Int32)) (j := 8) ⟨rfl, by decide⟩ (by decide))
      · show ((own_dg (Int64.ofNat N) (7 : Int32)).toUInt32.toUInt16.toUInt32.toInt32) = _
        exact (own_dgc (T := TT) hN hT (k := (7 : Int32)) (j := 7) ⟨rfl, by decide⟩ (by decide))
      · show ((own_dg (Int64.ofNat N) (6 : Int32)).toUInt32.toUInt16.toUInt32.toInt32) = _
        exact (own_dgc (T := TT) hN hT (k := (6 : Int32)) (j := 6) ⟨rfl, by decide⟩ (by decide))
      · show ((own_dg (Int64.ofNat N) (5 : Int32)).toUInt32.toUInt16.toUInt32.toInt32) = _
        exact (own_dgc (T := TT) hN hT (k := (5 : Int32)) (j := 5) ⟨rfl, by decide⟩ (by decide))
      · show ((own_dg (Int64.ofNat N) (4 : Int32)).toUInt32.toUInt16.toUInt32.toInt32) = _
        exact (own_dgc (T := TT) hN hT (k := (4 : Int32)) (j := 4) ⟨rfl, by decide⟩ (by decide))
      · show ((own_dg (Int64.ofNat N) (3 : Int32)).toUInt32.toUInt16.toUInt32.toInt32) = _
        exact (own_dgc (T := TT) hN hT (k := (3 : Int32)) (j := 3) ⟨rfl, by decide⟩ (by decide))
      · show ((own_dg (Int64.ofNat N) (2 : Int32)).toUInt32.toUInt16.toUInt32.toInt32) = _
        exact (own_dgc (T := TT) hN hT (k := (2 : Int32)) (j := 2) ⟨rfl, by decide⟩ (by decide))
      · show ((own_dg (Int64.ofNat N) (1 : Int32)).toUInt32.toUInt16.toUInt32.toInt32) = _
        exact (own_dgc (T := TT) hN hT (k := (1 : Int32)) (j := 1) ⟨rfl, by decide⟩ (by decide))
      · show ((own_dg (Int64.ofNat N) (0 : Int32)).toUInt32.toUInt16.toUInt32.toInt32) = _
        exact (own_dgc (T := TT) hN hT (k := (0 : Int32)) (j := 0) ⟨rfl, by decide⟩ (by decide))
      · show ((((48 : Int32) + (tt / (10 : Int32))).toUInt32.toUInt16.toUInt32.toInt32).toUInt32.toUInt16.toUInt32.toInt32) = _
        exact (own_t18 (N := N) htt hT)
      · show ((((48 : Int32) + (tt % (10 : Int32))).toUInt32.toUInt16.toUInt32.toInt32).toUInt32.toUInt16.toUInt32.toInt32) = _
        exact (own_t19 (N := N) htt hT)
    obtain ⟨_, _, ⟨T74, L74, k74, n74⟩, -, X74, ⟨Lc74, hQ74, l74, y74, z74⟩, st74⟩ := Jvm.LawKit.callS X71 hx (y := (⟨"com/example/version_parser/versionparser/DecimalDigits", "value", "(Ljava/lang/String;II)J"⟩ : MethodName)) hown (mvT hZ (hw _ (List.mem_of_getElem? (i := 65) rfl))) (mvT hZ (hw _ (List.mem_of_getElem? (i := 66) rfl))) (mvT hZ (hw _ (List.mem_of_getElem? (i := 67) rfl))) (mvT hZ (hw _ (List.mem_of_getElem? (i := 68) rfl))) (by decide) (backOf (W := 0) (own_m_dv l Z a0 hw [] (b70) (ss) (ee) (by71) (kb71) ([((own_dg (Int64.ofNat N) (17 : Int32)).toUInt32.toUInt16.toUInt32.toInt32), ((own_dg (Int64.ofNat N) (16 : Int32)).toUInt32.toUInt16.toUInt32.toInt32), ((own_dg (Int64.ofNat N) (15 : Int32)).toUInt32.toUInt16.toUInt32.toInt32), ((own_dg (Int64.ofNat N) (14 : Int32)).toUInt32.toUInt16.toUInt32.toInt32), ((own_dg (Int64.ofNat N) (13 : Int32)).toUInt32.toUInt16.toUInt32.toInt32), ((own_dg (Int64.ofNat N) (12 : Int32)).toUInt32.toUInt16.toUInt32.toInt32), ((own_dg (Int64.ofNat N) (11 : Int32)).toUInt32.toUInt16.toUInt32.toInt32), ((own_dg (Int64.ofNat N) (10 : Int32)).toUInt32.toUInt16.toUInt32.toInt32), ((own_dg (Int64.ofNat N) (9 : Int32)).toUInt32.toUInt16.toUInt32.toInt32), ((own_dg (Int64.ofNat N) (8 : Int32)).toUInt32.toUInt16.toUInt32.toInt32), ((own_dg (Int64.ofNat N) (7 : Int32)).toUInt32.toUInt16.toUInt32.toInt32), ((own_dg (Int64.ofNat N) (6 : Int32)).toUInt32.toUInt16.toUInt32.toInt32), ((own_dg (Int64.ofNat N) (5 : Int32)).toUInt32.toUInt16.toUInt32.toInt32), ((own_dg (Int64.ofNat N) (4 : Int32)).toUInt32.toUInt16.toUInt32.toInt32), ((own_dg (Int64.ofNat N) (3 : Int32)).toUInt32.toUInt16.toUInt32.toInt32), ((own_dg (Int64.ofNat N) (2 : Int32)).toUInt32.toUInt16.toUInt32.toInt32), ((own_dg (Int64.ofNat N) (1 : Int32)).toUInt32.toUInt16.toUInt32.toInt32), ((own_dg (Int64.ofNat N) (0 : Int32)).toUInt32.toUInt16.toUInt32.toInt32), ((((48 : Int32) + (tt / (10 : Int32))).toUInt32.toUInt16.toUInt32.toInt32).toUInt32.toUInt16.toUInt32.toInt32), ((((48 : Int32) + (tt % (10 : Int32))).toUInt32.toUInt16.toUInt32.toInt32).toUInt32.toUInt16.toUInt32.toInt32)]) ((N * 100 + TT)) (SS) (EE) (cz) (fm) T71.heap n0 (Nat.le_trans Z0 K71.1) f71_3 Vq71 Cq71 Aq71 f71_0 f71_1 hcz hfm rfl hdig66 hlat71 hss hee hSE hE) hZ (hw _ (List.mem_of_getElem? (i := 68) rfl)) (hw _ (List.mem_of_getElem? (i := 67) rfl)) (by decide) (by decide)) (g := (mkF m 428 #[.val (.long p1), .second, .val (.int p2), .val (.int p3), .val (.int p4), .val (.long (Int64.ofNat N)), .second, .val (.int tt), .val (.ref b27), .val (.ref b70), .val (.int ss), .val (.int ee), .val (.long (9223372036854775807 : Int64)), .second, .unset, .unset, .unset, .unset, .unset, .unset, .unset, .unset] [(.int ee), (.int ss), (.ref b70)])) rfl (by rw [hml]; rfl) (argsL := [(.ref b70), (.int ss), (.int ee)]) (rest := []) (lenOf own_pd4 rfl) rfl (by show 2 * 0 + _ ≤ _; exact Nat.le_of_eq rfl) (hb hby at_428) (fun _ _ => ⟨rfl, rfl, (by decide : 21 + 0 ≤ _), (by decide : 386 + 0 ≤ _)⟩)
    dsimp only [Pt.U, Pt.locs, Pt.cells, Pt.slots] at X74 l74 y74 z74 st74 hQ74
    subst l74 y74 z74
    obtain ⟨rfl, Nq74, Kq74⟩ := hQ74
    have N74 := Fr.app N71 Nq74
    have f74_0 : Sta Z T74.heap "java/lang/String" "COMPACT_STRINGS" "Z" (.int cz) := own_sta_keep f71_0 Kq74 own_pl0
    have f74_1 : Sta Z T74.heap "jdk/internal/util/Preconditions" "SIOOBE_FORMATTER" "Ljava/util/function/BiFunction;" fm := own_sta_keep f71_1 Kq74 own_pl0
    have f74_2 : Arv Z T74.heap b27 k27 .char (20 : Int32) [(.int ((own_dg (Int64.ofNat N) (17 : Int32)).toUInt32.toUInt16.toUInt32.toInt32)), (.int ((own_dg (Int64.ofNat N) (16 : Int32)).toUInt32.toUInt16.toUInt32.toInt32)), (.int ((own_dg (Int64.ofNat N) (15 : Int32)).toUInt32.toUInt16.toUInt32.toInt32)), (.int ((own_dg (Int64.ofNat N) (14 : Int32)).toUInt32.toUInt16.toUInt32.toInt32)), (.int ((own_dg (Int64.ofNat N) (13 : Int32)).toUInt32.toUInt16.toUInt32.toInt32)), (.int ((own_dg (Int64.ofNat N) (12 : Int32)).toUInt32.toUInt16.toUInt32.toInt32)), (.int ((own_dg (Int64.ofNat N) (11 : Int32)).toUInt32.toUInt16.toUInt32.toInt32)), (.int ((own_dg (Int64.ofNat N) (10 : Int32)).toUInt32.toUInt16.toUInt32.toInt32)), (.int ((own_dg (Int64.ofNat N) (9 : Int32)).toUInt32.toUInt16.toUInt32.toInt32)), (.int ((own_dg (Int64.ofNat N) (8 : Int32)).toUInt32.toUInt16.toUInt32.toInt32)), (.int ((own_dg (Int64.ofNat N) (7 : Int32)).toUInt32.toUInt16.toUInt32.toInt32)), (.int ((own_dg (Int64.ofNat N) (6 : Int32)).toUInt32.toUInt16.toUInt32.toInt32)), (.int ((own_dg (Int64.ofNat N) (5 : Int32)).toUInt32.toUInt16.toUInt32.toInt32)), (.int ((own_dg (Int64.ofNat N) (4 : Int32)).toUInt32.toUInt16.toUInt32.toInt32)), (.int ((own_dg (Int64.ofNat N) (3 : Int32)).toUInt32.toUInt16.toUInt32.toInt32)), (.int ((own_dg (Int64.ofNat N) (2 : Int32)).toUInt32.toUInt16.toUInt32.toInt32)), (.int ((own_dg (Int64.ofNat N) (1 : Int32)).toUInt32.toUInt16.toUInt32.toInt32)), (.int ((own_dg (Int64.ofNat N) (0 : Int32)).toUInt32.toUInt16.toUInt32.toInt32)), (.int ((((48 : Int32) + (tt / (10 : Int32))).toUInt32.toUInt16.toUInt32.toInt32).toUInt32.toUInt16.toUInt32.toInt32)), (.int ((((48 : Int32) + (tt % (10 : Int32))).toUInt32.toUInt16.toUInt32.toInt32).toUInt32.toUInt16.toUInt32.toInt32))] (.int (0 : Int32)) := f71_2.keep Kq74 nin0
    have f74_3 : Exa Z T74.heap b70 "java/lang/String" := f71_3.keep Kq74
    have f74_4 : Fld Z T74.heap b70 "java/lang/String" "coder" "B" (.int (0 : Int32)) := Cq71.keep Kq74 nin0
    have f74_5 : Fld Z T74.heap b70 "java/lang/String" "value" "[B" (.ref by71) := Vq71.keep Kq74 nin0
    have f74_6 : Arv Z T74.heap by71 kb71 .byte (20 : Int32) [(.int (((own_dg (Int64.ofNat N) (17 : Int32)).toUInt32.toUInt16.toUInt32.toInt32)).toInt8.toInt32), (.int (((own_dg (Int64.ofNat N) (16 : Int32)).toUInt32.toUInt16.toUInt32.toInt32)).toInt8.toInt32), (.int (((own_dg (Int64.ofNat N) (15 : Int32)).toUInt32.toUInt16.toUInt32.toInt32)).toInt8.toInt32), (.int (((own_dg (Int64.ofNat N) (14 : Int32)).toUInt32.toUInt16.toUInt32.toInt32)).toInt8.toInt32), (.int (((own_dg (Int64.ofNat N) (13 : Int32)).toUInt32.toUInt16.toUInt32.toInt32)).toInt8.toInt32), (.int (((own_dg (Int64.ofNat N) (12 : Int32)).toUInt32.toUInt16.toUInt32.toInt32)).toInt8.toInt32), (.int (((own_dg (Int64.ofNat N) (11 : Int32)).toUInt32.toUInt16.toUInt32.toInt32)).toInt8.toInt32), (.int (((own_dg (Int64.ofNat N) (10 : Int32)).toUInt32.toUInt16.toUInt32.toInt32)).toInt8.toInt32), (.int (((own_dg (Int64.ofNat N) (9 : Int32)).toUInt32.toUInt16.toUInt32.toInt32)).toInt8.toInt32), (.int (((own_dg (Int64.ofNat N) (8 : Int32)).toUInt32.toUInt16.toUInt32.toInt32)).toInt8.toInt32), (.int (((own_dg (Int64.ofNat N) (7 : Int32)).toUInt32.toUInt16.toUInt32.toInt32)).toInt8.toInt32), (.int (((own_dg (Int64.ofNat N) (6 : Int32)).toUInt32.toUInt16.toUInt32.toInt32)).toInt8.toInt32), (.int (((own_dg (Int64.ofNat N) (5 : Int32)).toUInt32.toUInt16.toUInt32.toInt32)).toInt8.toInt32), (.int (((own_dg (Int64.ofNat N) (4 : Int32)).toUInt32.toUInt16.toUInt32.toInt32)).toInt8.toInt32), (.int (((own_dg (Int64.ofNat N) (3 : Int32)).toUInt32.toUInt16.toUInt32.toInt32)).toInt8.toInt32), (.int (((own_dg (Int64.ofNat N) (2 : Int32)).toUInt32.toUInt16.toUInt32.toInt32)).toInt8.toInt32), (.int (((own_dg (Int64.ofNat N) (1 : Int32)).toUInt32.toUInt16.toUInt32.toInt32)).toInt8.toInt32), (.int (((own_dg (Int64.ofNat N) (0 : Int32)).toUInt32.toUInt16.toUInt32.toInt32)).toInt8.toInt32), (.int (((((48 : Int32) + (tt / (10 : Int32))).toUInt32.toUInt16.toUInt32.toInt32).toUInt32.toUInt16.toUInt32.toInt32)).toInt8.toInt32), (.int (((((48 : Int32) + (tt % (10 : Int32))).toUInt32.toUInt16.toUInt32.toInt32).toUInt32.toUInt16.toUInt32.toInt32)).toInt8.toInt32)] (.int (0 : Int32)) := Aq71.keep Kq74 nin0
    have K74 : Keep h0 T74.heap [] := K71.trans Kq74 all0
    refine own_step (U' := (T74.setTop (mkF m 431 #[.val (.long p1), .second, .val (.int p2), .val (.int p3), .val (.int p4), .val (.long (Int64.ofNat N)), .second, .val (.int tt), .val (.ref b27), .val (.ref b70), .val (.int ss), .val (.int ee), .val (.long (9223372036854775807 : Int64)), .second, .unset, .unset, .unset, .unset, .unset, .unset, .unset, .unset] [(.long (own_vv (N * 100 + TT) SS EE))]))) (fun t ht => st74 _ ht) ?_
    refine own_step (U' := (T74.setTop (mkF m 433 #[.val (.long p1), .second, .val (.int p2), .val (.int p3), .val (.int p4), .val (.long (Int64.ofNat N)), .second, .val (.int tt), .val (.ref b27), .val (.ref b70), .val (.int ss), .val (.int ee), .val (.long (9223372036854775807 : Int64)), .second, .val (.long (own_vv (N * 100 + TT) SS EE)), .second, .unset, .unset, .unset, .unset, .unset, .unset] []))) (fun t ht => XT.lstore X74.here hx rfl (hb hby at_431) rfl (l' := #[.val (.long p1), .second, .val (.int p2), .val (.int p3), .val (.int p4), .val (.long (Int64.ofNat N)), .second, .val (.int tt), .val (.ref b27), .val (.ref b70), .val (.int ss), .val (.int ee), .val (.long (9223372036854775807 : Int64)), .second, .val (.long (own_vv (N * 100 + TT) SS EE)), .second, .unset, .unset, .unset, .unset, .unset, .unset]) rfl ht) ?_
    refine own_step (U' := (T74.setTop (mkF m 435 #[.val (.long p1), .second, .val (.int p2), .val (.int p3), .val (.int p4), .val (.long (Int64.ofNat N)), .second, .val (.int tt), .val (.ref b27), .val (.ref b70), .val (.int ss), .val (.int ee), .val (.long (9223372036854775807 : Int64)), .second, .val (.long (own_vv (N * 100 + TT) SS EE)), .second, .unset, .unset, .unset, .unset, .unset, .unset] [(.long (own_vv (N * 100 + TT) SS EE))]))) (fun t ht => XT.lload X74.here hx rfl (hb hby at_433) rfl ht) ?_
    refine own_step (U' := (T74.setTop (mkF m 437 #[.val (.long p1), .second, .val (.int p2), .val (.int p3), .val (.int p4), .val (.long (Int64.ofNat N)), .second, .val (.int tt), .val (.ref b27), .val (.ref b70), .val (.int ss), .val (.int ee), .val (.long (9223372036854775807 : Int64)), .second, .val (.long (own_vv (N * 100 + TT) SS EE)), .second, .unset, .unset, .unset, .unset, .unset, .unset] [(.long (9223372036854775807 : Int64)), (.long (own_vv (N * 100 + TT) SS EE))]))) (fun t ht => XT.lload X74.here hx rfl (hb hby at_435) rfl ht) ?_
    refine own_step (U' := (T74.setTop (mkF m 438 #[.val (.long p1), .second, .val (.int p2), .val (.int p3), .val (.int p4), .val (.long (Int64.ofNat N)), .second, .val (.int tt), .val (.ref b27), .val (.ref b70), .val (.int ss), .val (.int ee), .val (.long (9223372036854775807 : Int64)), .second, .val (.long (own_vv (N * 100 + TT) SS EE)), .second, .unset, .unset, .unset, .unset, .unset, .unset] [(.int (XT.cmpL (own_vv (N * 100 + TT) SS EE) (9223372036854775807 : Int64)))]))) (fun t ht => XT.lcmp X74.here hx rfl (hb hby at_437) rfl ht) ?_
    refine own_step (U' := (T74.setTop (mkF m 441 #[.val (.long p1), .second, .val (.int p2), .val (.int p3), .val (.int p4), .val (.long (Int64.ofNat N)), .second, .val (.int tt), .val (.ref b27), .val (.ref b70), .val (.int ss), .val (.int ee), .val (.long (9223372036854775807 : Int64)), .second, .val (.long (own_vv (N * 100 + TT) SS EE)), .second, .unset, .unset, .unset, .unset, .unset, .unset] []))) (fun t ht => XS.ifNo X74.here hx rfl (hb hby at_438) rfl (XT.ll_ne_f ((own_vv_big ((own_gt18 hss hee hSE hE).mp hc301_73)) : (own_vv (N * 100 + TT) SS EE) = (9223372036854775807 : Int64))) ht) ?_
    refine own_step (U' := (T74.setTop (mkF m 442 #[.val (.long p1), .second, .val (.int p2), .val (.int p3), .val (.int p4), .val (.long (Int64.ofNat N)), .second, .val (.int tt), .val (.ref b27), .val (.ref b70), .val (.int ss), .val (.int ee), .val (.long (9223372036854775807 : Int64)), .second, .val (.long (own_vv (N * 100 + TT) SS EE)), .second, .unset, .unset, .unset, .unset, .unset, .unset] [(.int (1 : Int32))]))) (fun t ht => XS.iconst X74.here hx rfl (hb hby at_441) ht) ?_
    refine own_step (U' := (T74.setTop (mkF m 446 #[.val (.long p1), .second, .val (.int p2), .val (.int p3), .val (.int p4), .val (.long (Int64.ofNat N)), .second, .val (.int tt), .val (.ref b27), .val (.ref b70), .val (.int ss), .val (.int ee), .val (.long (9223372036854775807 : Int64)), .second, .val (.long (own_vv (N * 100 + TT) SS EE)), .second, .unset, .unset, .unset, .unset, .unset, .unset] [(.int (1 : Int32))]))) (fun t ht => XS.goto X74.here hx rfl (pc0 := 442) (pc' := 446) rfl (hb hby at_442) (by decide) (by decide) ht) ?_
    refine own_ret X74 (v := (some (.int (nar .boolean (1 : Int32))))) (fun h => by rw [Bd.returns] at h; cases h) Bd.notSynchronized (by decide) (by decide) ?_ (fun fs hr => retN X74 hx (t := .boolean) Bd.returns (by simp) (hb hby at_446) hr)
    show own_Q_law Z p1 p2 p3 p4 cz fm h0 n0 _ T74.heap _
    show own_Q_law Z p1 p2 p3 p4 cz fm h0 n0 _ T74.heap _
    exact ⟨rfl, N74⟩
  ·
    refine own_step (U' := (T71.setTop (mkF m 312 #[.val (.long p1), .second, .val (.int p2), .val (.int p3), .val (.int p4), .val (.long (Int64.ofNat N)), .second, .val (.int tt), .val (.ref b27), .val (.ref b70), .val (.int ss), .val (.int ee), .unset, .unset, .unset, .unset, .unset, .unset, .unset, .unset, .unset, .unset] []))) (fun t ht => XS.icmpYes X71.here hx rfl (pc0 := 301) (pc' := 312) rfl (hb hby at_301) rfl (XT.ii_le_t hc301_73) (by decide) (by decide) ht) ?_
    refine own_step (U' := (T71.setTop (mkF m 314 #[.val (.long p1), .second, .val (.int p2), .val (.int p3), .val (.int p4), .val (.long (Int64.ofNat N)), .second, .val (.int tt), .val (.ref b27), .val (.ref b70), .val (.int ss), .val (.int ee), .unset, .unset, .unset, .unset, .unset, .unset, .unset, .unset, .unset, .unset] [(.int ee)]))) (fun t ht => XS.iload X71.here hx rfl (hb hby at_312) rfl ht) ?_
    refine own_step (U' := (T71.setTop (mkF m 316 #[.val (.long p1), .second, .val (.int p2), .val (.int p3), .val (.int p4), .val (.long (Int64.ofNat N)), .second, .val (.int tt), .val (.ref b27), .val (.ref b70), .val (.int ss), .val (.int ee), .unset, .unset, .unset, .unset, .unset, .unset, .unset, .unset, .unset, .unset] [(.int (18 : Int32)), (.int ee)]))) (fun t ht => XS.bipush X71.here hx rfl (hb hby at_314) ht) ?_
    obtain ⟨_, _, ⟨T75, L75, k75, n75⟩, -, X75, ⟨Lc75, hQ75, l75, y75, z75⟩, st75⟩ := Jvm.LawKit.callS X71 hx (y := (⟨"java/lang/Math", "min", "(II)I"⟩ : MethodName)) hown (mvT hZ (hw _ (List.mem_of_getElem? (i := 58) rfl))) (mvT hZ (hw _ (List.mem_of_getElem? (i := 59) rfl))) (mvT hZ (hw _ (List.mem_of_getElem? (i := 60) rfl))) (mvT hZ (hw _ (List.mem_of_getElem? (i := 61) rfl))) (by decide) (backOf (W := 0) (own_m_min l Z a0 hw [] (ee) ((18 : Int32)) T71.heap n0 (Nat.le_trans Z0 K71.1) ) hZ (hw _ (List.mem_of_getElem? (i := 61) rfl)) (hw _ (List.mem_of_getElem? (i := 60) rfl)) (by decide) (by decide)) (g := (mkF m 316 #[.val (.long p1), .second, .val (.int p2), .val (.int p3), .val (.int p4), .val (.long (Int64.ofNat N)), .second, .val (.int tt), .val (.ref b27), .val (.ref b70), .val (.int ss), .val (.int ee), .unset, .unset, .unset, .unset, .unset, .unset, .unset, .unset, .unset, .unset] [(.int (18 : Int32)), (.int ee)])) rfl (by rw [hml]; rfl) (argsL := [(.int ee), (.int (18 : Int32))]) (rest := []) (lenOf own_pd5 rfl) rfl (by show 2 * 0 + _ ≤ _; exact Nat.le_of_eq rfl) (hb hby at_316) (fun _ _ => ⟨rfl, rfl, (by decide : 21 + 0 ≤ _), (by decide : 386 + 0 ≤ _)⟩)
    dsimp only [Pt.U, Pt.locs, Pt.cells, Pt.slots] at X75 l75 y75 z75 st75 hQ75
    subst l75 y75 z75
    obtain ⟨rfl, Nq75, Kq75⟩ := hQ75
    have N75 := Fr.app N71 Nq75
    have e75 : T75.heap = T71.heap := Kq75
    refine own_step (U' := (T75.setTop (mkF m 319 #[.val (.long p1), .second, .val (.int p2), .val (.int p3), .val (.int p4), .val (.long (Int64.ofNat N)), .second, .val (.int tt), .val (.ref b27), .val (.ref b70), .val (.int ss), .val (.int ee), .unset, .unset, .unset, .unset, .unset, .unset, .unset, .unset, .unset, .unset] [(.int (own_min ee (18 : Int32)))]))) (fun t ht => st75 _ ht) ?_
    refine own_step (U' := (T75.setTop (mkF m 321 #[.val (.long p1), .second, .val (.int p2), .val (.int p3), .val (.int p4), .val (.long (Int64.ofNat N)), .second, .val (.int tt), .val (.ref b27), .val (.ref b70), .val (.int ss), .val (.int ee), .unset, .unset, .val (.int (own_min ee (18 : Int32))), .unset, .unset, .unset, .unset, .unset, .unset, .unset] []))) (fun t ht => XS.istore X75.here hx rfl (hb hby at_319) rfl (l' := #[.val (.long p1), .second, .val (.int p2), .val (.int p3), .val (.int p4), .val (.long (Int64.ofNat N)), .second, .val (.int tt), .val (.ref b27), .val (.ref b70), .val (.int ss), .val (.int ee), .unset, .unset, .val (.int (own_min ee (18 : Int32))), .unset, .unset, .unset, .unset, .unset, .unset, .unset]) rfl ht) ?_
    generalize h_e18v : (own_min ee (18 : Int32)) = e18v
    have he18 := own_e18 hee h_e18v
    refine own_step (U' := (T75.setTop (mkF m 322 #[.val (.long p1), .second, .val (.int p2), .val (.int p3), .val (.int p4), .val (.long (Int64.ofNat N)), .second, .val (.int tt), .val (.ref b27), .val (.ref b70), .val (.int ss), .val (.int ee), .unset, .unset, .val (.int e18v), .unset, .unset, .unset, .unset, .unset, .unset, .unset] [(.int (0 : Int32))]))) (fun t ht => XS.iconst X75.here hx rfl (hb hby at_321) ht) ?_
    refine own_step (U' := (T75.setTop (mkF m 324 #[.val (.long p1), .second, .val (.int p2), .val (.int p3), .val (.int p4), .val (.long (Int64.ofNat N)), .second, .val (.int tt), .val (.ref b27), .val (.ref b70), .val (.int ss), .val (.int ee), .unset, .unset, .val (.int e18v), .unset, .unset, .unset, .unset, .unset, .unset, .unset] [(.int e18v), (.int (0 : Int32))]))) (fun t ht => XS.iload X75.here hx rfl (hb hby at_322) rfl ht) ?_
    refine own_step (U' := (T75.setTop (mkF m 326 #[.val (.long p1), .second, .val (.int p2), .val (.int p3), .val (.int p4), .val (.long (Int64.ofNat N)), .second, .val (.int tt), .val (.ref b27), .val (.ref b70), .val (.int ss), .val (.int ee), .unset, .unset, .val (.int e18v), .unset, .unset, .unset, .unset, .unset, .unset, .unset] [(.int ss), (.int e18v), (.int (0 : Int32))]))) (fun t ht => XS.iload X75.here hx rfl (hb hby at_324) rfl ht) ?_
    refine own_step (U' := (T75.setTop (mkF m 327 #[.val (.long p1), .second, .val (.int p2), .val (.int p3), .val (.int p4), .val (.long (Int64.ofNat N)), .second, .val (.int tt), .val (.ref b27), .val (.ref b70), .val (.int ss), .val (.int ee), .unset, .unset, .val (.int e18v), .unset, .unset, .unset, .unset, .unset, .unset, .unset] [(.int (e18v - ss)), (.int (0 : Int32))]))) (fun t ht => XS.isub X75.here hx rfl (hb hby at_326) rfl ht) ?_
    obtain ⟨_, _, ⟨T76, L76, k76, n76⟩, -, X76, ⟨Lc76, hQ76, l76, y76, z76⟩, st76⟩ := Jvm.LawKit.callS X75 hx (y := (⟨"java/lang/Math", "max", "(II)I"⟩ : MethodName)) hown (mvT hZ (hw _ (List.mem_of_getElem? (i := 62) rfl))) (mvT hZ (hw _ (List.mem_of_getElem? (i := 63) rfl))) (mvT hZ (hw _ (List.mem_of_getElem? (i := 60) rfl))) (mvT hZ (hw _ (List.mem_of_getElem? (i := 64) rfl))) (by decide) (backOf (W := 0) (own_m_max l Z a0 hw [] ((0 : Int32)) ((e18v - ss)) T71.heap n0 (Nat.le_trans Z0 K71.1) ) hZ (hw _ (List.mem_of_getElem? (i := 64) rfl)) (hw _ (List.mem_of_getElem? (i := 60) rfl)) (by decide) (by decide)) (g := (mkF m 327 #[.val (.long p1), .second, .val (.int p2), .val (.int p3), .val (.int p4), .val (.long (Int64.ofNat N)), .second, .val (.int tt), .val (.ref b27), .val (.ref b70), .val (.int ss), .val (.int ee), .unset, .unset, .val (.int e18v), .unset, .unset, .unset, .unset, .unset, .unset, .unset] [(.int (e18v - ss)), (.int (0 : Int32))])) rfl (by rw [hml]; rfl) (argsL := [(.int (0 : Int32)), (.int (e18v - ss))]) (rest := []) (lenOf own_pd5 rfl) rfl (by show 2 * 0 + _ ≤ _; exact Nat.le_of_eq rfl) (hb hby at_327) (fun _ _ => ⟨rfl, e75, (by decide : 21 + 0 ≤ _), (by decide : 386 + 0 ≤ _)⟩)
    dsimp only [Pt.U, Pt.locs, Pt.cells, Pt.slots] at X76 l76 y76 z76 st76 hQ76
    subst l76 y76 z76
    obtain ⟨rfl, Nq76, Kq76⟩ := hQ76
    have N76 := Fr.app N75 Nq76
    have e76 : T76.heap = T71.heap := Kq76
    refine own_step (U' := (T76.setTop (mkF m 330 #[.val (.long p1), .second, .val (.int p2), .val (.int p3), .val (.int p4), .val (.long (Int64.ofNat N)), .second, .val (.int tt), .val (.ref b27), .val (.ref b70), .val (.int ss), .val (.int ee), .unset, .unset, .val (.int e18v), .unset, .unset, .unset, .unset, .unset, .unset, .unset] [(.int (own_max (0 : Int32) (e18v - ss)))]))) (fun t ht => st76 _ ht) ?_
    refine own_step (U' := (T76.setTop (mkF m 332 #[.val (.long p1), .second, .val (.int p2), .val (.int p3), .val (.int p4), .val (.long (Int64.ofNat N)), .second, .val (.int tt), .val (.ref b27), .val (.ref b70), .val (.int ss), .val (.int ee), .unset, .unset, .val (.int e18v), .val (.int (own_max (0 : Int32) (e18v - ss))), .unset, .unset, .unset, .unset, .unset, .unset] []))) (fun t ht => XS.istore X76.here hx rfl (hb hby at_330) rfl (l' := #[.val (.long p1), .second, .val (.int p2), .val (.int p3), .val (.int p4), .val (.long (Int64.ofNat N)), .second, .val (.int tt), .val (.ref b27), .val (.ref b70), .val (.int ss), .val (.int ee), .unset, .unset, .val (.int e18v), .val (.int (own_max (0 : Int32) (e18v - ss))), .unset, .unset, .unset, .unset, .unset, .unset]) rfl ht) ?_
    generalize h_nl : (own_max (0 : Int32) (e18v - ss)) = nl
    have hnl := own_nl hss hS he18 (by omega) h_nl
    refine own_step (U' := (T76.setTop (mkF m 334 #[.val (.long p1), .second, .val (.int p2), .val (.int p3), .val (.int p4), .val (.long (Int64.ofNat N)), .second, .val (.int tt), .val (.ref b27), .val (.ref b70), .val (.int ss), .val (.int ee), .unset, .unset, .val (.int e18v), .val (.int nl), .unset, .unset, .unset, .unset, .unset, .unset] [(.int nl)]))) (fun t ht => XS.iload X76.here hx rfl (hb hby at_332) rfl ht) ?_
    by_cases hc334_77 : nl = 0
    ·
      refine own_step (U' := (T76.setTop (mkF m 337 #[.val (.long p1), .second, .val (.int p2), .val (.int p3), .val (.int p4), .val (.long (Int64.ofNat N)), .second, .val (.int tt), .val (.ref b27), .val (.ref b70), .val (.int ss), .val (.int ee), .unset, .unset, .val (.int e18v), .val (.int nl), .unset, .unset, .unset, .unset, .unset, .unset] []))) (fun t ht => XS.ifNo X76.here hx rfl (hb hby at_334) rfl (XT.i0_ne_f hc334_77) ht) ?_
      refine own_step (U' := (T76.setTop (mkF m 338 #[.val (.long p1), .second, .val (.int p2), .val (.int p3), .val (.int p4), .val (.long (Int64.ofNat N)), .second, .val (.int tt), .val (.ref b27), .val (.ref b70), .val (.int ss), .val (.int ee), .unset, .unset, .val (.int e18v), .val (.int nl), .unset, .unset, .unset, .unset, .unset, .unset] [(.long (0 : Int64))]))) (fun t ht => XT.lconstV X76.here hx rfl (0 : Int64) (hb hby at_337) rfl ht) ?_
      refine own_step (U' := (T76.setTop (mkF m 358 #[.val (.long p1), .second, .val (.int p2), .val (.int p3), .val (.int p4), .val (.long (Int64.ofNat N)), .second, .val (.int tt), .val (.ref b27), .val (.ref b70), .val (.int ss), .val (.int ee), .unset, .unset, .val (.int e18v), .val (.int nl), .unset, .unset, .unset, .unset, .unset, .unset] [(.long (0 : Int64))]))) (fun t ht => XS.goto X76.here hx rfl (pc0 := 338) (pc' := 358) rfl (hb hby at_338) (by decide) (by decide) ht) ?_
      refine own_step (U' := (T76.setTop (mkF m 360 #[.val (.long p1), .second, .val (.int p2), .val (.int p3), .val (.int p4), .val (.long (Int64.ofNat N)), .second, .val (.int tt), .val (.ref b27), .val (.ref b70), .val (.int ss), .val (.int ee), .unset, .unset, .val (.int e18v), .val (.int nl), .val (.long (0 : Int64)), .second, .unset, .unset, .unset, .unset] []))) (fun t ht => XT.lstore X76.here hx rfl (hb hby at_358) rfl (l' := #[.val (.long p1), .second, .val (.int p2), .val (.int p3), .val (.int p4), .val (.long (Int64.ofNat N)), .second, .val (.int tt), .val (.ref b27), .val (.ref b70), .val (.int ss), .val (.int ee), .unset, .unset, .val (.int e18v), .val (.int nl), .val (.long (0 : Int64)), .second, .unset, .unset, .unset, .unset]) rfl ht) ?_
      refine own_step (U' := (T76.setTop (mkF m 362 #[.val (.long p1), .second, .val (.int p2), .val (.int p3), .val (.int p4), .val (.long (Int64.ofNat N)), .second, .val (.int tt), .val (.ref b27), .val (.ref b70), .val (.int ss), .val (.int ee), .unset, .unset, .val (.int e18v), .val (.int nl), .val (.long (0 : Int64)), .second, .unset, .unset, .unset, .unset] [(.int ss)]))) (fun t ht => XS.iload X76.here hx rfl (hb hby at_360) rfl ht) ?_
      refine own_step (U' := (T76.setTop (mkF m 364 #[.val (.long p1), .second, .val (.int p2), .val (.int p3), .val (.int p4), .val (.long (Int64.ofNat N)), .second, .val (.int tt), .val (.ref b27), .val (.ref b70), .val (.int ss), .val (.int ee), .unset, .unset, .val (.int e18v), .val (.int nl), .val (.long (0 : Int64)), .second, .unset, .unset, .unset, .unset] [(.int (18 : Int32)), (.int ss)]))) (fun t ht => XS.bipush X76.here hx rfl (hb hby at_362) ht) ?_
      obtain ⟨_, _, ⟨T78, L78, k78, n78⟩, -, X78, ⟨Lc78, hQ78, l78, y78, z78⟩, st78⟩ := Jvm.LawKit.callS X76 hx (y := (⟨"java/lang/Math", "max", "(II)I"⟩ : MethodName)) hown (mvT hZ (hw _ (List.mem_of_getElem? (i := 62) rfl))) (mvT hZ (hw _ (List.mem_of_getElem? (i := 63) rfl))) (mvT hZ (hw _ (List.mem_of_getElem? (i := 60) rfl))) (mvT hZ (hw _ (List.mem_of_getElem? (i := 64) rfl))) (by decide) (backOf (W := 0) (own_m_max l Z a0 hw [] (ss) ((18 : Int32)) T71.heap n0 (Nat.le_trans Z0 K71.1) ) hZ (hw _ (List.mem_of_getElem? (i := 64) rfl)) (hw _ (List.mem_of_getElem? (i := 60) rfl)) (by decide) (by decide)) (g := (mkF m 364 #[.val (.long p1), .second, .val (.int p2), .val (.int p3), .val (.int p4), .val (.long (Int64.ofNat N)), .second, .val (.int tt), .val (.ref b27), .val (.ref b70), .val (.int ss), .val (.int ee), .unset, .unset, .val (.int e18v), .val (.int nl), .val (.long (0 : Int64)), .second, .unset, .unset, .unset, .unset] [(.int (18 : Int32)), (.int ss)])) rfl (by rw [hml]; rfl) (argsL := [(.int ss), (.int (18 : Int32))]) (rest := []) (lenOf own_pd5 rfl) rfl (by show 2 * 0 + _ ≤ _; exact Nat.le_of_eq rfl) (hb hby at_364) (fun _ _ => ⟨rfl, e76, (by decide : 21 + 0 ≤ _), (by decide : 386 + 0 ≤ _)⟩)
      dsimp only [Pt.U, Pt.locs, Pt.cells, Pt.slots] at X78 l78 y78 z78 st78 hQ78
      subst l78 y78 z78
      obtain ⟨rfl, Nq78, Kq78⟩ := hQ78
      have N78 := Fr.app N76 Nq78
      have e78 : T78.heap = T71.heap := Kq78
      refine own_step (U' := (T78.setTop (mkF m 367 #[.val (.long p1), .second, .val (.int p2), .val (.int p3), .val (.int p4), .val (.long (Int64.ofNat N)), .second, .val (.int tt), .val (.ref b27), .val (.ref b70), .val (.int ss), .val (.int ee), .unset, .unset, .val (.int e18v), .val (.int nl), .val (.long (0 : Int64)), .second, .unset, .unset, .unset, .unset] [(.int (own_max ss (18 : Int32)))]))) (fun t ht => st78 _ ht) ?_
      refine own_step (U' := (T78.setTop (mkF m 369 #[.val (.long p1), .second, .val (.int p2), .val (.int p3), .val (.int p4), .val (.long (Int64.ofNat N)), .second, .val (.int tt), .val (.ref b27), .val (.ref b70), .val (.int ss), .val (.int ee), .unset, .unset, .val (.int e18v), .val (.int nl), .val (.long (0 : Int64)), .second, .val (.int (own_max ss (18 : Int32))), .unset, .unset, .unset] []))) (fun t ht => XS.istore X78.here hx rfl (hb hby at_367) rfl (l' := #[.val (.long p1), .second, .val (.int p2), .val (.int p3), .val (.int p4), .val (.long (Int64.ofNat N)), .second, .val (.int tt), .val (.ref b27), .val (.ref b70), .val (.int ss), .val (.int ee), .unset, .unset, .val (.int e18v), .val (.int nl), .val (.long (0 : Int64)), .second, .val (.int (own_max ss (18 : Int32))), .unset, .unset, .unset]) rfl ht) ?_
      generalize h_tsv : (own_max ss (18 : Int32)) = tsv
      have hts := own_ts hss h_tsv
      refine own_step (U' := (T78.setTop (mkF m 370 #[.val (.long p1), .second, .val (.int p2), .val (.int p3), .val (.int p4), .val (.long (Int64.ofNat N)), .second, .val (.int tt), .val (.ref b27), .val (.ref b70), .val (.int ss), .val (.int ee), .unset, .unset, .val (.int e18v), .val (.int nl), .val (.long (0 : Int64)), .second, .val (.int tsv), .unset, .unset, .unset] [(.int (0 : Int32))]))) (fun t ht => XS.iconst X78.here hx rfl (hb hby at_369) ht) ?_
      refine own_step (U' := (T78.setTop (mkF m 372 #[.val (.long p1), .second, .val (.int p2), .val (.int p3), .val (.int p4), .val (.long (Int64.ofNat N)), .second, .val (.int tt), .val (.ref b27), .val (.ref b70), .val (.int ss), .val (.int ee), .unset, .unset, .val (.int e18v), .val (.int nl), .val (.long (0 : Int64)), .second, .val (.int tsv), .unset, .unset, .unset] [(.int ee), (.int (0 : Int32))]))) (fun t ht => XS.iload X78.here hx rfl (hb hby at_370) rfl ht) ?_
      refine own_step (U' := (T78.setTop (mkF m 374 #[.val (.long p1), .second, .val (.int p2), .val (.int p3), .val (.int p4), .val (.long (Int64.ofNat N)), .second, .val (.int tt), .val (.ref b27), .val (.ref b70), .val (.int ss), .val (.int ee), .unset, .unset, .val (.int e18v), .val (.int nl), .val (.long (0 : Int64)), .second, .val (.int tsv), .unset, .unset, .unset] [(.int tsv), (.int ee), (.int (0 : Int32))]))) (fun t ht => XS.iload X78.here hx rfl (hb hby at_372) rfl ht) ?_
      refine own_step (U' := (T78.setTop (mkF m 375 #[.val (.long p1), .second, .val (.int p2), .val (.int p3), .val (.int p4), .val (.long (Int64.ofNat N)), .second, .val (.int tt), .val (.ref b27), .val (.ref b70), .val (.int ss), .val (.int ee), .unset, .unset, .val (.int e18v), .val (.int nl), .val (.long (0 : Int64)), .second, .val (.int tsv), .unset, .unset, .unset] [(.int (ee - tsv)), (.int (0 : Int32))]))) (fun t ht => XS.isub X78.here hx rfl (hb hby at_374) rfl ht) ?_
      obtain ⟨_, _, ⟨T79, L79, k79, n79⟩, -, X79, ⟨Lc79, hQ79, l79, y79, z79⟩, st79⟩ := Jvm.LawKit.callS X78 hx (y := (⟨"java/lang/Math", "max", "(II)I"⟩ : MethodName)) hown (mvT hZ (hw _ (List.mem_of_getElem? (i := 62) rfl))) (mvT hZ (hw _ (List.mem_of_getElem? (i := 63) rfl))) (mvT hZ (hw _ (List.mem_of_getElem? (i := 60) rfl))) (mvT hZ (hw _ (List.mem_of_getElem? (i := 64) rfl))) (by decide) (backOf (W := 0) (own_m_max l Z a0 hw [] ((0 : Int32)) ((ee - tsv)) T71.heap n0 (Nat.le_trans Z0 K71.1) ) hZ (hw _ (List.mem_of_getElem? (i := 64) rfl)) (hw _ (List.mem_of_getElem? (i := 60) rfl)) (by decide) (by decide)) (g := (mkF m 375 #[.val (.long p1), .second, .val (.int p2), .val (.int p3), .val (.int p4), .val (.long (Int64.ofNat N)), .second, .val (.int tt), .val (.ref b27), .val (.ref b70), .val (.int ss), .val (.int ee), .unset, .unset, .val (.int e18v), .val (.int nl), .val (.long (0 : Int64)), .second, .val (.int tsv), .unset, .unset, .unset] [(.int (ee - tsv)), (.int (0 : Int32))])) rfl (by rw [hml]; rfl) (argsL := [(.int (0 : Int32)), (.int (ee - tsv))]) (rest := []) (lenOf own_pd5 rfl) rfl (by show 2 * 0 + _ ≤ _; exact Nat.le_of_eq rfl) (hb hby at_375) (fun _ _ => ⟨rfl, e78, (by decide : 21 + 0 ≤ _), (by decide : 386 + 0 ≤ _)⟩)
      dsimp only [Pt.U, Pt.locs, Pt.cells, Pt.slots] at X79 l79 y79 z79 st79 hQ79
      subst l79 y79 z79
      obtain ⟨rfl, Nq79, Kq79⟩ := hQ79
      have N79 := Fr.app N78 Nq79
      have e79 : T79.heap = T71.heap := Kq79
      refine own_step (U' := (T79.setTop (mkF m 378 #[.val (.long p1), .second, .val (.int p2), .val (.int p3), .val (.int p4), .val (.long (Int64.ofNat N)), .second, .val (.int tt), .val (.ref b27), .val (.ref b70), .val (.int ss), .val (.int ee), .unset, .unset, .val (.int e18v), .val (.int nl), .val (.long (0 : Int64)), .second, .val (.int tsv), .unset, .unset, .unset] [(.int (own_max (0 : Int32) (ee - tsv)))]))) (fun t ht => st79 _ ht) ?_
      refine own_step (U' := (T79.setTop (mkF m 380 #[.val (.long p1), .second, .val (.int p2), .val (.int p3), .val (.int p4), .val (.long (Int64.ofNat N)), .second, .val (.int tt), .val (.ref b27), .val (.ref b70), .val (.int ss), .val (.int ee), .unset, .unset, .val (.int e18v), .val (.int nl), .val (.long (0 : Int64)), .second, .val (.int tsv), .val (.int (own_max (0 : Int32) (ee - tsv))), .unset, .unset] []))) (fun t ht => XS.istore X79.here hx rfl (hb hby at_378) rfl (l' := #[.val (.long p1), .second, .val (.int p2), .val (.int p3), .val (.int p4), .val (.long (Int64.ofNat N)), .second, .val (.int tt), .val (.ref b27), .val (.ref b70), .val (.int ss), .val (.int ee), .unset, .unset, .val (.int e18v), .val (.int nl), .val (.long (0 : Int64)), .second, .val (.int tsv), .val (.int (own_max (0 : Int32) (ee - tsv))), .unset, .unset]) rfl ht) ?_
      generalize h_tl : (own_max (0 : Int32) (ee - tsv)) = tl
      have htl := own_nl hts (by omega) hee hE h_tl
      refine own_step (U' := (T79.setTop (mkF m 382 #[.val (.long p1), .second, .val (.int p2), .val (.int p3), .val (.int p4), .val (.long (Int64.ofNat N)), .second, .val (.int tt), .val (.ref b27), .val (.ref b70), .val (.int ss), .val (.int ee), .unset, .unset, .val (.int e18v), .val (.int nl), .val (.long (0 : Int64)), .second, .val (.int tsv), .val (.int tl), .unset, .unset] [(.int tl)]))) (fun t ht => XS.iload X79.here hx rfl (hb hby at_380) rfl ht) ?_
      by_cases hc382_80 : tl = 0
      ·
        refine own_step (U' := (T79.setTop (mkF m 385 #[.val (.long p1), .second, .val (.int p2), .val (.int p3), .val (.int p4), .val (.long (Int64.ofNat N)), .second, .val (.int tt), .val (.ref b27), .val (.ref b70), .val (.int ss), .val (.int ee), .unset, .unset, .val (.int e18v), .val (.int nl), .val (.long (0 : Int64)), .second, .val (.int tsv), .val (.int tl), .unset, .unset] []))) (fun t ht => XS.ifNo X79.here hx rfl (hb hby at_382) rfl (XT.i0_ne_f hc382_80) ht) ?_
        refine own_step (U' := (T79.setTop (mkF m 386 #[.val (.long p1), .second, .val (.int p2), .val (.int p3), .val (.int p4), .val (.long (Int64.ofNat N)), .second, .val (.int tt), .val (.ref b27), .val (.ref b70), .val (.int ss), .val (.int ee), .unset, .unset, .val (.int e18v), .val (.int nl), .val (.long (0 : Int64)), .second, .val (.int tsv), .val (.int tl), .unset, .unset] [(.long (0 : Int64))]))) (fun t ht => XT.lconstV X79.here hx rfl (0 : Int64) (hb hby at_385) rfl ht) ?_
        refine own_step (U' := (T79.setTop (mkF m 407 #[.val (.long p1), .second, .val (.int p2), .val (.int p3), .val (.int p4), .val (.long (Int64.ofNat N)), .second, .val (.int tt), .val (.ref b27), .val (.ref b70), .val (.int ss), .val (.int ee), .unset, .unset, .val (.int e18v), .val (.int nl), .val (.long (0 : Int64)), .second, .val (.int tsv), .val (.int tl), .unset, .unset] [(.long (0 : Int64))]))) (fun t ht => XS.goto X79.here hx rfl (pc0 := 386) (pc' := 407) rfl (hb hby at_386) (by decide) (by decide) ht) ?_
        refine own_step (U' := (T79.setTop (mkF m 409 #[.val (.long p1), .second, .val (.int p2), .val (.int p3), .val (.int p4), .val (.long (Int64.ofNat N)), .second, .val (.int tt), .val (.ref b27), .val (.ref b70), .val (.int ss), .val (.int ee), .unset, .unset, .val (.int e18v), .val (.int nl), .val (.long (0 : Int64)), .second, .val (.int tsv), .val (.int tl), .val (.long (0 : Int64)), .second] []))) (fun t ht => XT.lstore X79.here hx rfl (hb hby at_407) rfl (l' := #[.val (.long p1), .second, .val (.int p2), .val (.int p3), .val (.int p4), .val (.long (Int64.ofNat N)), .second, .val (.int tt), .val (.ref b27), .val (.ref b70), .val (.int ss), .val (.int ee), .unset, .unset, .val (.int e18v), .val (.int nl), .val (.long (0 : Int64)), .second, .val (.int tsv), .val (.int tl), .val (.long (0 : Int64)), .second]) rfl ht) ?_
        refine own_step (U' := (T79.setTop (mkF m 411 #[.val (.long p1), .second, .val (.int p2), .val (.int p3), .val (.int p4), .val (.long (Int64.ofNat N)), .second, .val (.int tt), .val (.ref b27), .val (.ref b70), .val (.int ss), .val (.int ee), .unset, .unset, .val (.int e18v), .val (.int nl), .val (.long (0 : Int64)), .second, .val (.int tsv), .val (.int tl), .val (.long (0 : Int64)), .second] [(.long (0 : Int64))]))) (fun t ht => XT.lload X79.here hx rfl (hb hby at_409) rfl ht) ?_
        refine own_step (U' := (T79.setTop (mkF m 413 #[.val (.long p1), .second, .val (.int p2), .val (.int p3), .val (.int p4), .val (.long (Int64.ofNat N)), .second, .val (.int tt), .val (.ref b27), .val (.ref b70), .val (.int ss), .val (.int ee), .unset, .unset, .val (.int e18v), .val (.int nl), .val (.long (0 : Int64)), .second, .val (.int tsv), .val (.int tl), .val (.long (0 : Int64)), .second] [(.int tl), (.long (0 : Int64))]))) (fun t ht => XS.iload X79.here hx rfl (hb hby at_411) rfl ht) ?_
        obtain ⟨_, _, ⟨T81, L81, k81, n81⟩, -, X81, ⟨Lc81, hQ81, l81, y81, z81⟩, st81⟩ := Jvm.LawKit.callS X79 hx (y := (⟨"com/example/version_parser/versionparser/DecimalDigitsValuePinLaw", "pow10", "(I)J"⟩ : MethodName)) hown (mvT hZ (hw _ (List.mem_of_getElem? (i := 8) rfl))) (mvT hZ (hw _ (List.mem_of_getElem? (i := 9) rfl))) (mvT hZ (hw _ (List.mem_of_getElem? (i := 6) rfl))) (mvT hZ (hw _ (List.mem_of_getElem? (i := 10) rfl))) (by decide) (backOf (W := 2) (own_m_p10 l Z a0 hw [] (tl) (EE - max SS 18) T71.heap n0 (Nat.le_trans Z0 K71.1) ⟨htl, by omega⟩) hZ (hw _ (List.mem_of_getElem? (i := 10) rfl)) (hw _ (List.mem_of_getElem? (i := 6) rfl)) (by decide) (by decide)) (g := (mkF m 413 #[.val (.long p1), .second, .val (.int p2), .val (.int p3), .val (.int p4), .val (.long (Int64.ofNat N)), .second, .val (.int tt), .val (.ref b27), .val (.ref b70), .val (.int ss), .val (.int ee), .unset, .unset, .val (.int e18v), .val (.int nl), .val (.long (0 : Int64)), .second, .val (.int tsv), .val (.int tl), .val (.long (0 : Int64)), .second] [(.int tl), (.long (0 : Int64))])) rfl (by rw [hml]; rfl) (argsL := [(.int tl)]) (rest := [(.long (0 : Int64))]) (lenOf own_pd0 rfl) rfl (by show 2 * 0 + _ ≤ _; exact Nat.le_of_eq rfl) (hb hby at_413) (fun _ _ => ⟨rfl, e79, (by decide : 21 + 1 ≤ _), (by decide : 386 + 19 ≤ _)⟩)
        dsimp only [Pt.U, Pt.locs, Pt.cells, Pt.slots] at X81 l81 y81 z81 st81 hQ81
        subst l81 y81 z81
        obtain ⟨rfl, Nq81, Kq81⟩ := hQ81
        have N81 := Fr.app N79 Nq81
        have f81_0 : Sta Z T81.heap "java/lang/String" "COMPACT_STRINGS" "Z" (.int cz) := own_sta_keep f71_0 Kq81 own_pl0
        have f81_1 : Sta Z T81.heap "jdk/internal/util/Preconditions" "SIOOBE_FORMATTER" "Ljava/util/function/BiFunction;" fm := own_sta_keep f71_1 Kq81 own_pl0
        have f81_2 : Arv Z T81.heap b27 k27 .char (20 : Int32) [(.int ((own_dg (Int64.ofNat N) (17 : Int32)).toUInt32.toUInt16.toUInt32.toInt32)), (.int ((own_dg (Int64.ofNat N) (16 : Int32)).toUInt32.toUInt16.toUInt32.toInt32)), (.int ((own_dg (Int64.ofNat N) (15 : Int32)).toUInt32.toUInt16.toUInt32.toInt32)), (.int ((own_dg (Int64.ofNat N) (14 : Int32)).toUInt32.toUInt16.toUInt32.toInt32)), (.int ((own_dg (Int64.ofNat N) (13 : Int32)).toUInt32.toUInt16.toUInt32.toInt32)), (.int ((own_dg (Int64.ofNat N) (12 : Int32)).toUInt32.toUInt16.toUInt32.toInt32)), (.int ((own_dg (Int64.ofNat N) (11 : Int32)).toUInt32.toUInt16.toUInt32.toInt32)), (.int ((own_dg (Int64.ofNat N) (10 : Int32)).toUInt32.toUInt16.toUInt32.toInt32)), (.int ((own_dg (Int64.ofNat N) (9 : Int32)).toUInt32.toUInt16.toUInt32.toInt32)), (.int ((own_dg (Int64.ofNat N) (8 : Int32)).toUInt32.toUInt16.toUInt32.toInt32)), (.int ((own_dg (Int64.ofNat N) (7 : Int32)).toUInt32.toUInt16.toUInt32.toInt32)), (.int ((own_dg (Int64.ofNat N) (6 : Int32)).toUInt32.toUInt16.toUInt32.toInt32)), (.int ((own_dg (Int64.ofNat N) (5 : Int32)).toUInt32.toUInt16.toUInt32.toInt32)), (.int ((own_dg (Int64.ofNat N) (4 : Int32)).toUInt32.toUInt16.toUInt32.toInt32)), (.int ((own_dg (Int64.ofNat N) (3 : Int32)).toUInt32.toUInt16.toUInt32.toInt32)), (.int ((own_dg (Int64.ofNat N) (2 : Int32)).toUInt32.toUInt16.toUInt32.toInt32)), (.int ((own_dg (Int64.ofNat N) (1 : Int32)).toUInt32.toUInt16.toUInt32.toInt32)), (.int ((own_dg (Int64.ofNat N) (0 : Int32)).toUInt32.toUInt16.toUInt32.toInt32)), (.int ((((48 : Int32) + (tt / (10 : Int32))).toUInt32.toUInt16.toUInt32.toInt32).toUInt32.toUInt16.toUInt32.toInt32)), (.int ((((48 : Int32) + (tt % (10 : Int32))).toUInt32.toUInt16.toUInt32.toInt32).toUInt32.toUInt16.toUInt32.toInt32))] (.int (0 : Int32)) := f71_2.keep Kq81 nin0
        have f81_3 : Exa Z T81.heap b70 "java/lang/String" := f71_3.keep Kq81
        have f81_4 : Fld Z T81.heap b70 "java/lang/String" "coder" "B" (.int (0 : Int32)) := Cq71.keep Kq81 nin0
        have f81_5 : Fld Z T81.heap b70 "java/lang/String" "value" "[B" (.ref by71) := Vq71.keep Kq81 nin0
        have f81_6 : Arv Z T81.heap by71 kb71 .byte (20 : Int32) [(.int (((own_dg (Int64.ofNat N) (17 : Int32)).toUInt32.toUInt16.toUInt32.toInt32)).toInt8.toInt32), (.int (((own_dg (Int64.ofNat N) (16 : Int32)).toUInt32.toUInt16.toUInt32.toInt32)).toInt8.toInt32), (.int (((own_dg (Int64.ofNat N) (15 : Int32)).toUInt32.toUInt16.toUInt32.toInt32)).toInt8.toInt32), (.int (((own_dg (Int64.ofNat N) (14 : Int32)).toUInt32.toUInt16.toUInt32.toInt32)).toInt8.toInt32), (.int (((own_dg (Int64.ofNat N) (13 : Int32)).toUInt32.toUInt16.toUInt32.toInt32)).toInt8.toInt32), (.int (((own_dg (Int64.ofNat N) (12 : Int32)).toUInt32.toUInt16.toUInt32.toInt32)).toInt8.toInt32), (.int (((own_dg (Int64.ofNat N) (11 : Int32)).toUInt32.toUInt16.toUInt32.toInt32)).toInt8.toInt32), (.int (((own_dg (Int64.ofNat N) (10 : Int32)).toUInt32.toUInt16.toUInt32.toInt32)).toInt8.toInt32), (.int (((own_dg (Int64.ofNat N) (9 : Int32)).toUInt32.toUInt16.toUInt32.toInt32)).toInt8.toInt32), (.int (((own_dg (Int64.ofNat N) (8 : Int32)).toUInt32.toUInt16.toUInt32.toInt32)).toInt8.toInt32), (.int (((own_dg (Int64.ofNat N) (7 : Int32)).toUInt32.toUInt16.toUInt32.toInt32)).toInt8.toInt32), (.int (((own_dg (Int64.ofNat N) (6 : Int32)).toUInt32.toUInt16.toUInt32.toInt32)).toInt8.toInt32), (.int (((own_dg (Int64.ofNat N) (5 : Int32)).toUInt32.toUInt16.toUInt32.toInt32)).toInt8.toInt32), (.int (((own_dg (Int64.ofNat N) (4 : Int32)).toUInt32.toUInt16.toUInt32.toInt32)).toInt8.toInt32), (.int (((own_dg (Int64.ofNat N) (3 : Int32)).toUInt32.toUInt16.toUInt32.toInt32)).toInt8.toInt32), (.int (((own_dg (Int64.ofNat N) (2 : Int32)).toUInt32.toUInt16.toUInt32.toInt32)).toInt8.toInt32), (.int (((own_dg (Int64.ofNat N) (1 : Int32)).toUInt32.toUInt16.toUInt32.toInt32)).toInt8.toInt32), (.int (((own_dg (Int64.ofNat N) (0 : Int32)).toUInt32.toUInt16.toUInt32.toInt32)).toInt8.toInt32), (.int (((((48 : Int32) + (tt / (10 : Int32))).toUInt32.toUInt16.toUInt32.toInt32).toUInt32.toUInt16.toUInt32.toInt32)).toInt8.toInt32), (.int (((((48 : Int32) + (tt % (10 : Int32))).toUInt32.toUInt16.toUInt32.toInt32).toUInt32.toUInt16.toUInt32.toInt32)).toInt8.toInt32)] (.int (0 : Int32)) := Aq71.keep Kq81 nin0
        have K81 : Keep h0 T81.heap [] := K71.trans Kq81 all0
        refine own_step (U' := (T81.setTop (mkF m 416 #[.val (.long p1), .second, .val (.int p2), .val (.int p3), .val (.int p4), .val (.long (Int64.ofNat N)), .second, .val (.int tt), .val (.ref b27), .val (.ref b70), .val (.int ss), .val (.int ee), .unset, .unset, .val (.int e18v), .val (.int nl), .val (.long (0 : Int64)), .second, .val (.int tsv), .val (.int tl), .val (.long (0 : Int64)), .second] [(.long (own_p10 tl)), (.long (0 : Int64))]))) (fun t ht => st81 _ ht) ?_
        refine own_step (U' := (T81.setTop (mkF m 417 #[.val (.long p1), .second, .val (.int p2), .val (.int p3), .val (.int p4), .val (.long (Int64.ofNat N)), .second, .val (.int tt), .val (.ref b27), .val (.ref b70), .val (.int ss), .val (.int ee), .unset, .unset, .val (.int e18v), .val (.int nl), .val (.long (0 : Int64)), .second, .val (.int tsv), .val (.int tl), .val (.long (0 : Int64)), .second] [(.long ((0 : Int64) * (own_p10 tl)))]))) (fun t ht => XT.lmul X81.here hx rfl (hb hby at_416) rfl ht) ?_
        refine own_step (U' := (T81.setTop (mkF m 419 #[.val (.long p1), .second, .val (.int p2), .val (.int p3), .val (.int p4), .val (.long (Int64.ofNat N)), .second, .val (.int tt), .val (.ref b27), .val (.ref b70), .val (.int ss), .val (.int ee), .unset, .unset, .val (.int e18v), .val (.int nl), .val (.long (0 : Int64)), .second, .val (.int tsv), .val (.int tl), .val (.long (0 : Int64)), .second] [(.long (0 : Int64)), (.long ((0 : Int64) * (own_p10 tl)))]))) (fun t ht => XT.lload X81.here hx rfl (hb hby at_417) rfl ht) ?_
        refine own_step (U' := (T81.setTop (mkF m 420 #[.val (.long p1), .second, .val (.int p2), .val (.int p3), .val (.int p4), .val (.long (Int64.ofNat N)), .second, .val (.int tt), .val (.ref b27), .val (.ref b70), .val (.int ss), .val (.int ee), .unset, .unset, .val (.int e18v), .val (.int nl), .val (.long (0 : Int64)), .second, .val (.int tsv), .val (.int tl), .val (.long (0 : Int64)), .second] [(.long (((0 : Int64) * (own_p10 tl)) + (0 : Int64)))]))) (fun t ht => XT.ladd X81.here hx rfl (hb hby at_419) rfl ht) ?_
        refine own_step (U' := (T81.setTop (mkF m 422 #[.val (.long p1), .second, .val (.int p2), .val (.int p3), .val (.int p4), .val (.long (Int64.ofNat N)), .second, .val (.int tt), .val (.ref b27), .val (.ref b70), .val (.int ss), .val (.int ee), .val (.long (((0 : Int64) * (own_p10 tl)) + (0 : Int64))), .second, .val (.int e18v), .val (.int nl), .val (.long (0 : Int64)), .second, .val (.int tsv), .val (.int tl), .val (.long (0 : Int64)), .second] []))) (fun t ht => XT.lstore X81.here hx rfl (hb hby at_420) rfl (l' := #[.val (.long p1), .second, .val (.int p2), .val (.int p3), .val (.int p4), .val (.long (Int64.ofNat N)), .second, .val (.int tt), .val (.ref b27), .val (.ref b70), .val (.int ss), .val (.int ee), .val (.long (((0 : Int64) * (own_p10 tl)) + (0 : Int64))), .second, .val (.int e18v), .val (.int nl), .val (.long (0 : Int64)), .second, .val (.int tsv), .val (.int tl), .val (.long (0 : Int64)), .second]) rfl ht) ?_
        refine own_step (U' := (T81.setTop (mkF m 424 #[.val (.long p1), .second, .val (.int p2), .val (.int p3), .val (.int p4), .val (.long (Int64.ofNat N)), .second, .val (.int tt), .val (.ref b27), .val (.ref b70), .val (.int ss), .val (.int ee), .val (.long (((0 : Int64) * (own_p10 tl)) + (0 : Int64))), .second, .val (.int e18v), .val (.int nl), .val (.long (0 : Int64)), .second, .val (.int tsv), .val (.int tl), .val (.long (0 : Int64)), .second] [(.ref b70)]))) (fun t ht => XS.aload X81.here hx rfl (hb hby at_422) rfl rfl ht) ?_
        refine own_step (U' := (T81.setTop (mkF m 426 #[.val (.long p1), .second, .val (.int p2), .val (.int p3), .val (.int p4), .val (.long (Int64.ofNat N)), .second, .val (.int tt), .val (.ref b27), .val (.ref b70), .val (.int ss), .val (.int ee), .val (.long (((0 : Int64) * (own_p10 tl)) + (0 : Int64))), .second, .val (.int e18v), .val (.int nl), .val (.long (0 : Int64)), .second, .val (.int tsv), .val (.int tl), .val (.long (0 : Int64)), .second] [(.int ss), (.ref b70)]))) (fun t ht => XS.iload X81.here hx rfl (hb hby at_424) rfl ht) ?_
        refine own_step (U' := (T81.setTop (mkF m 428 #[.val (.long p1), .second, .val (.int p2), .val (.int p3), .val (.int p4), .val (.long (Int64.ofNat N)), .second, .val (.int tt), .val (.ref b27), .val (.ref b70), .val (.int ss), .val (.int ee), .val (.long (((0 : Int64) * (own_p10 tl)) + (0 : Int64))), .second, .val (.int e18v), .val (.int nl), .val (.long (0 : Int64)), .second, .val (.int tsv), .val (.int tl), .val (.long (0 : Int64)), .second] [(.int ee), (.int ss), (.ref b70)]))) (fun t ht => XS.iload X81.here hx rfl (hb hby at_426) rfl ht) ?_
        have hdig81 : ∀ i, i < 20 → ([((own_dg (Int64.ofNat N) (17 : Int32)).toUInt32.toUInt16.toUInt32.toInt32), ((own_dg (Int64.ofNat N) (16 : Int32)).toUInt32.toUInt16.toUInt32.toInt32), ((own_dg (Int64.ofNat N) (15 : Int32)).toUInt32.toUInt16.toUInt32.toInt32), ((own_dg (Int64.ofNat N) (14 : Int32)).toUInt32.toUInt16.toUInt32.toInt32), ((own_dg (Int64.ofNat N) (13 : Int32)).toUInt32.toUInt16.toUInt32.toInt32), ((own_dg (Int64.ofNat N) (12 : Int32)).toUInt32.toUInt16.toUInt32.toInt32), ((own_dg (Int64.ofNat N) (11 : Int32)).toUInt32.toUInt16.toUInt32.toInt32), ((own_dg (Int64.ofNat N) (10 : Int32)).toUInt32.toUInt16.toUInt32.toInt32), ((own_dg (Int64.ofNat N) (9 : Int32)).toUInt32.toUInt16.toUInt32.toInt32), ((own_dg (Int64.ofNat N) (8 : Int32)).toUInt32.toUInt16.toUInt32.toInt32), ((own_dg (Int64.ofNat N) (7 : Int32)).toUInt32.toUInt16.toUInt32.toInt32), ((own_dg (Int64.ofNat N) (6 : Int32)).toUInt32.toUInt16.toUInt32.toInt32), ((own_dg (Int64.ofNat N) (5 : Int32)).toUInt32.toUInt16.toUInt32.toInt32), ((own_dg (Int64.ofNat N) (4 : Int32)).toUInt32.toUInt16.toUInt32.toInt32), ((own_dg (Int64.ofNat N) (3 : Int32)).toUInt32.toUInt16.toUInt32.toInt32), ((own_dg (Int64.ofNat N) (2 : Int32)).toUInt32.toUInt16.toUInt32.toInt32), ((own_dg (Int64.ofNat N) (1 : Int32)).toUInt32.toUInt16.toUInt32.toInt32), ((own_dg (Int64.ofNat N) (0 : Int32)).toUInt32.toUInt16.toUInt32.toInt32), ((((48 : Int32) + (tt / (10 : Int32))).toUInt32.toUInt16.toUInt32.toInt32).toUInt32.toUInt16.toUInt32.toInt32), ((((48 : Int32) + (tt % (10 : Int32))).toUInt32.toUInt16.toUInt32.toInt32).toUInt32.toUInt16.toUInt32.toInt32)] : List Int32).getD i 0 = own_dgN (N * 100 + TT) i := by
          intro i hi
          have hc : i = 0 ∨ i = 1 ∨ i = 2 ∨ i = 3 ∨ i = 4 ∨ i = 5 ∨ i = 6 ∨ i = 7 ∨ i = 8 ∨ i = 9 ∨ i = 10 ∨ i = 11 ∨ i = 12 ∨ i = 13 ∨ i = 14 ∨ i = 15 ∨ i = 16 ∨ i = 17 ∨ i = 18 ∨ i = 19 := by omega
          rcases hc with rfl | rfl | rfl | rfl | rfl | rfl | rfl | rfl | rfl | rfl | rfl | rfl | rfl | rfl | rfl | rfl | rfl | rfl | rfl | rfl
          · show ((own_dg (Int64.ofNat N) (17 : Int32)).toUInt32.toUInt16.toUInt32.toInt32) = _
            exact (own_dgc (T := TT) hN hT (k := (17 : Int32)) (j := 17) ⟨rfl, by decide⟩ (by decide))
          · show ((own_dg (Int64.ofNat N) (16 : Int32)).toUInt32.toUInt16.toUInt32.toInt32) = _
            exact (own_dgc (T := TT) hN hT (k := (16 : Int32)) (j := 16) ⟨rfl, by decide⟩ (by decide))
          · show ((own_dg (Int64.ofNat N) (15 : Int32)).toUInt32.toUInt16.toUInt32.toInt32) = _
            exact (own_dgc (T := TT) hN hT (k := (15 : Int32)) (j := 15) ⟨rfl, by decide⟩ (by decide))
          · show ((own_dg (Int64.ofNat N) (14 : Int32)).toUInt32.toUInt16.toUInt32.toInt32) = _
            exact (own_dgc (T := TT) hN hT (k := (14 : Int32)) (j := 14) ⟨rfl, by decide⟩ (by decide))
          · show ((own_dg (Int64.ofNat N) (13 : Int32)).toUInt32.toUInt16.toUInt32.toInt32) = _
            exact (own_dgc (T := TT) hN hT (k := (13 : Int32)) (j := 13) ⟨rfl, by decide⟩ (by decide))
          · show ((own_dg (Int64.ofNat N) (12 : Int32)).toUInt32.toUInt16.toUInt32.toInt32) = _
            exact (own_dgc (T := TT) hN hT (k := (12 : Int32)) (j := 12) ⟨rfl, by decide⟩ (by decide))
          · show ((own_dg (Int64.ofNat N) (11 : Int32)).toUInt32.toUInt16.toUInt32.toInt32) = _
            exact (own_dgc (T := TT) hN hT (k := (11 : Int32)) (j := 11) ⟨rfl, by decide⟩ (by decide))
          · show ((own_dg (Int64.ofNat N) (10 : Int32)).toUInt32.toUInt16.toUInt32.toInt32) = _
            exact (own_dgc (T := TT) hN hT (k := (10 : Int32)) (j := 10) ⟨rfl, by decide⟩ (by decide))
          · show ((own_dg (Int64.ofNat N) (9 : Int32)).toUInt32.toUInt16.toUInt32.toInt32) = _
            exact (own_dgc (T := TT) hN hT (k := (9 : Int32)) (j := 9) ⟨rfl, by decide⟩ (by decide))
          · show ((own_dg (Int64.ofNat N) (8 : Int32)).toUInt32.toUInt16.toUInt32.toInt32) = _
            exact (own_dgc (T := TT) hN hT (k := (8 : Int32)) (j := 8) ⟨rfl, by decide⟩ (by decide))
          · show ((own_dg (Int64.ofNat N) (7 : Int32)).toUInt32.toUInt16.toUInt32.toInt32) = _
            exact (own_dgc (T := TT) hN hT (k := (7 : Int32)) (j := 7) ⟨rfl, by decide⟩ (by decide))
          · show ((own_dg (Int64.ofNat N) (6 : Int32)).toUInt32.toUInt16.toUInt32.toInt32) = _
            exact (own_dgc (T := TT) hN hT (k := (6 : Int32)) (j := 6) ⟨rfl, by decide⟩ (by decide))
          · show ((own_dg (Int64.ofNat N) (5 : Int32)).toUInt32.toUInt16.toUInt32.toInt32) = _
            exact (own_dgc (T := TT) hN hT (k := (5 : Int32)) (j := 5) ⟨rfl, by decide⟩ (by decide))
          · show ((own_dg (Int64.ofNat N) (4 : Int32)).toUInt32.toUInt16.toUInt32.toInt32) = _
            exact (own_dgc (T := TT) hN hT (k := (4 : Int32)) (j := 4) ⟨rfl, by decide⟩ (by decide))
          · show ((own_dg (Int64.ofNat N) (3 : Int32)).toUInt32.toUInt16.toUInt32.toInt32) = _
            exact (own_dgc (T := TT) hN hT (k := (3 : Int32)) (j := 3) ⟨rfl, by decide⟩ (by decide))
          · show ((own_dg (Int64.ofNat N) (2 : Int32)).toUInt32.toUInt16.toUInt32.toInt32) = _
            exact (own_dgc (T := TT) hN hT (k := (2 : Int32)) (j := 2) ⟨rfl, by decide⟩ (by decide))
          · show ((own_dg (Int64.ofNat N) (1 : Int32)).toUInt32.toUInt16.toUInt32.toInt32) = _
            exact (own_dgc (T := TT) hN hT (k := (1 : Int32)) (j := 1) ⟨rfl, by decide⟩ (by decide))
          · show ((own_dg (Int64.ofNat N) (0 : Int32)).toUInt32.toUInt16.toUInt32.toInt32) = _
            exact (own_dgc (T := TT) hN hT (k := (0 : Int32)) (j := 0) ⟨rfl, by decide⟩ (by decide))
          · show ((((48 : Int32) + (tt / (10 : Int32))).toUInt32.toUInt16.toUInt32.toInt32).toUInt32.toUInt16.toUInt32.toInt32) = _
            exact (own_t18 (N := N) htt hT)
          · show ((((48 : Int32) + (tt % (10 : Int32))).toUInt32.toUInt16.toUInt32.toInt32).toUInt32.toUInt16.toUInt32.toInt32) = _
            exact (own_t19 (N := N) htt hT)
        obtain ⟨_, _, ⟨T82, L82, k82, n82⟩, -, X82, ⟨Lc82, hQ82, l82, y82, z82⟩, st82⟩ := Jvm.LawKit.callS X81 hx (y := (⟨"com/example/version_parser/versionparser/DecimalDigits", "value", "(Ljava/lang/String;II)J"⟩ : MethodName)) hown (mvT hZ (hw _ (List.mem_of_getElem? (i := 65) rfl))) (mvT hZ (hw _ (List.mem_of_getElem? (i := 66) rfl))) (mvT hZ (hw _ (List.mem_of_getElem? (i := 67) rfl))) (mvT hZ (hw _ (List.mem_of_getElem? (i := 68) rfl))) (by decide) (backOf (W := 0) (own_m_dv l Z a0 hw [] (b70) (ss) (ee) (by71) (kb71) ([((own_dg (Int64.ofNat N) (17 : Int32)).toUInt32.toUInt16.toUInt32.toInt32), ((own_dg (Int64.ofNat N) (16 : Int32)).toUInt32.toUInt16.toUInt32.toInt32), ((own_dg (Int64.ofNat N) (15 : Int32)).toUInt32.toUInt16.toUInt32.toInt32), ((own_dg (Int64.ofNat N) (14 : Int32)).toUInt32.toUInt16.toUInt32.toInt32), ((own_dg (Int64.ofNat N) (13 : Int32)).toUInt32.toUInt16.toUInt32.toInt32), ((own_dg (Int64.ofNat N) (12 : Int32)).toUInt32.toUInt16.toUInt32.toInt32), ((own_dg (Int64.ofNat N) (11 : Int32)).toUInt32.toUInt16.toUInt32.toInt32), ((own_dg (Int64.ofNat N) (10 : Int32)).toUInt32.toUInt16.toUInt32.toInt32), ((own_dg (Int64.ofNat N) (9 : Int32)).toUInt32.toUInt16.toUInt32.toInt32), ((own_dg (Int64.ofNat N) (8 : Int32)).toUInt32.toUInt16.toUInt32.toInt32), ((own_dg (Int64.ofNat N) (7 : Int32)).toUInt32.toUInt16.toUInt32.toInt32), ((own_dg (Int64.ofNat N) (6 : Int32)).toUInt32.toUInt16.toUInt32.toInt32), ((own_dg (Int64.ofNat N) (5 : Int32)).toUInt32.toUInt16.toUInt32.toInt32), ((own_dg (Int64.ofNat N) (4 : Int32)).toUInt32.toUInt16.toUInt32.toInt32), ((own_dg (Int64.ofNat N) (3 : Int32)).toUInt32.toUInt16.toUInt32.toInt32), ((own_dg (Int64.ofNat N) (2 : Int32)).toUInt32.toUInt16.toUInt32.toInt32), ((own_dg (Int64.ofNat N) (1 : Int32)).toUInt32.toUInt16.toUInt32.toInt32), ((own_dg (Int64.ofNat N) (0 : Int32)).toUInt32.toUInt16.toUInt32.toInt32), ((((48 : Int32) + (tt / (10 : Int32))).toUInt32.toUInt16.toUInt32.toInt32).toUInt32.toUInt16.toUInt32.toInt32), ((((48 : Int32) + (tt % (10 : Int32))).toUInt32.toUInt16.toUInt32.toInt32).toUInt32.toUInt16.toUInt32.toInt32)]) ((N * 100 + TT)) (SS) (EE) (cz) (fm) T81.heap n0 (Nat.le_trans Z0 K81.1) f81_3 f81_5 f81_4 f81_6 f81_0 f81_1 hcz hfm rfl hdig81 hlat71 hss hee hSE hE) hZ (hw _ (List.mem_of_getElem? (i := 68) rfl)) (hw _ (List.mem_of_getElem? (i := 67) rfl)) (by decide) (by decide)) (g := (mkF m 428 #[.val (.long p1), .second, .val (.int p2), .val (.int p3), .val (.int p4), .val (.long (Int64.ofNat N)), .second, .val (.int tt), .val (.ref b27), .val (.ref b70), .val (.int ss), .val (.int ee), .val (.long (((0 : Int64) * (own_p10 tl)) + (0 : Int64))), .second, .val (.int e18v), .val (.int nl), .val (.long (0 : Int64)), .second, .val (.int tsv), .val (.int tl), .val (.long (0 : Int64)), .second] [(.int ee), (.int ss), (.ref b70)])) rfl (by rw [hml]; rfl) (argsL := [(.ref b70), (.int ss), (.int ee)]) (rest := []) (lenOf own_pd4 rfl) rfl (by show 2 * 0 + _ ≤ _; exact Nat.le_of_eq rfl) (hb hby at_428) (fun _ _ => ⟨rfl, rfl, (by decide : 22 + 0 ≤ _), (by decide : 405 + 0 ≤ _)⟩)
        dsimp only [Pt.U, Pt.locs, Pt.cells, Pt.slots] at X82 l82 y82 z82 st82 hQ82
        subst l82 y82 z82
        obtain ⟨rfl, Nq82, Kq82⟩ := hQ82
        have N82 := Fr.app N81 Nq82
        have f82_0 : Sta Z T82.heap "java/lang/String" "COMPACT_STRINGS" "Z" (.int cz) := own_sta_keep f81_0 Kq82 own_pl0
        have f82_1 : Sta Z T82.heap "jdk/internal/util/Preconditions" "SIOOBE_FORMATTER" "Ljava/util/function/BiFunction;" fm := own_sta_keep f81_1 Kq82 own_pl0
        have f82_2 : Arv Z T82.heap b27 k27 .char (20 : Int32) [(.int ((own_dg (Int64.ofNat N) (17 : Int32)).toUInt32.toUInt16.toUInt32.toInt32)), (.int ((own_dg (Int64.ofNat N) (16 : Int32)).toUInt32.toUInt16.toUInt32.toInt32)), (.int ((own_dg (Int64.ofNat N) (15 : Int32)).toUInt32.toUInt16.toUInt32.toInt32)), (.int ((own_dg (Int64.ofNat N) (14 : Int32)).toUInt32.toUInt16.toUInt32.toInt32)), (.int ((own_dg (Int64.ofNat N) (13 : Int32)).toUInt32.toUInt16.toUInt32.toInt32)), (.int ((own_dg (Int64.ofNat N) (12 : Int32)).toUInt32.toUInt16.toUInt32.toInt32)), (.int ((own_dg (Int64.ofNat N) (11 : Int32)).toUInt32.toUInt16.toUInt32.toInt32)), (.int ((own_dg (Int64.ofNat N) (10 : Int32)).toUInt32.toUInt16.toUInt32.toInt32)), (.int ((own_dg (Int64.ofNat N) (9 : Int32)).toUInt32.toUInt16.toUInt32.toInt32)), (.int ((own_dg (Int64.ofNat N) (8 : Int32)).toUInt32.toUInt16.toUInt32.toInt32)), (.int ((own_dg (Int64.ofNat N) (7 : Int32)).toUInt32.toUInt16.toUInt32.toInt32)), (.int ((own_dg (Int64.ofNat N) (6 : Int32)).toUInt32.toUInt16.toUInt32.toInt32)), (.int ((own_dg (Int64.ofNat N) (5 : Int32)).toUInt32.toUInt16.toUInt32.toInt32)), (.int ((own_dg (Int64.ofNat N) (4 : Int32)).toUInt32.toUInt16.toUInt32.toInt32)), (.int ((own_dg (Int64.ofNat N) (3 : Int32)).toUInt32.toUInt16.toUInt32.toInt32)), (.int ((own_dg (Int64.ofNat N) (2 : Int32)).toUInt32.toUInt16.toUInt32.toInt32)), (.int ((own_dg (Int64.ofNat N) (1 : Int32)).toUInt32.toUInt16.toUInt32.toInt32)), (.int ((own_dg (Int64.ofNat N) (0 : Int32)).toUInt32.toUInt16.toUInt32.toInt32)), (.int ((((48 : Int32) + (tt / (10 : Int32))).toUInt32.toUInt16.toUInt32.toInt32).toUInt32.toUInt16.toUInt32.toInt32)), (.int ((((48 : Int32) + (tt % (10 : Int32))).toUInt32.toUInt16.toUInt32.toInt32).toUInt32.toUInt16.toUInt32.toInt32))] (.int (0 : Int32)) := f81_2.keep Kq82 nin0
        have f82_3 : Exa Z T82.heap b70 "java/lang/String" := f81_3.keep Kq82
        have f82_4 : Fld Z T82.heap b70 "java/lang/String" "coder" "B" (.int (0 : Int32)) := f81_4.keep Kq82 nin0
        have f82_5 : Fld Z T82.heap b70 "java/lang/String" "value" "[B" (.ref by71) := f81_5.keep Kq82 nin0
        have f82_6 : Arv Z T82.heap by71 kb71 .byte (20 : Int32) [(.int (((own_dg (Int64.ofNat N) (17 : Int32)).toUInt32.toUInt16.toUInt32.toInt32)).toInt8.toInt32), (.int (((own_dg (Int64.ofNat N) (16 : Int32)).toUInt32.toUInt16.toUInt32.toInt32)).toInt8.toInt32), (.int (((own_dg (Int64.ofNat N) (15 : Int32)).toUInt32.toUInt16.toUInt32.toInt32)).toInt8.toInt32), (.int (((own_dg (Int64.ofNat N) (14 : Int32)).toUInt32.toUInt16.toUInt32.toInt32)).toInt8.toInt32), (.int (((own_dg (Int64.ofNat N) (13 : Int32)).toUInt32.toUInt16.toUInt32.toInt32)).toInt8.toInt32), (.int (((own_dg (Int64.ofNat N) (12 : Int32)).toUInt32.toUInt16.toUInt32.toInt32)).toInt8.toInt32), (.int (((own_dg (Int64.ofNat N) (11 : Int32)).toUInt32.toUInt16.toUInt32.toInt32)).toInt8.toInt32), (.int (((own_dg (Int64.ofNat N) (10 : Int32)).toUInt32.toUInt16.toUInt32.toInt32)).toInt8.toInt32), (.int (((own_dg (Int64.ofNat N) (9 : Int32)).toUInt32.toUInt16.toUInt32.toInt32)).toInt8.toInt32), (.int (((own_dg (Int64.ofNat N) (8 : Int32)).toUInt32.toUInt16.toUInt32.toInt32)).toInt8.toInt32), (.int (((own_dg (Int64.ofNat N) (7 : Int32)).toUInt32.toUInt16.toUInt32.toInt32)).toInt8.toInt32), (.int (((own_dg (Int64.ofNat N) (6 : Int32)).toUInt32.toUInt16.toUInt32.toInt32)).toInt8.toInt32), (.int (((own_dg (Int64.ofNat N) (5 : Int32)).toUInt32.toUInt16.toUInt32.toInt32)).toInt8.toInt32), (.int (((own_dg (Int64.ofNat N) (4 : Int32)).toUInt32.toUInt16.toUInt32.toInt32)).toInt8.toInt32), (.int (((own_dg (Int64.ofNat N) (3 : Int32)).toUInt32.toUInt16.toUInt32.toInt32)).toInt8.toInt32), (.int (((own_dg (Int64.ofNat N) (2 : Int32)).toUInt32.toUInt16.toUInt32.toInt32)).toInt8.toInt32), (.int (((own_dg (Int64.ofNat N) (1 : Int32)).toUInt32.toUInt16.toUInt32.toInt32)).toInt8.toInt32), (.int (((own_dg (Int64.ofNat N) (0 : Int32)).toUInt32.toUInt16.toUInt32.toInt32)).toInt8.toInt32), (.int (((((48 : Int32) + (tt / (10 : Int32))).toUInt32.toUInt16.toUInt32.toInt32).toUInt32.toUInt16.toUInt32.toInt32)).toInt8.toInt32), (.int (((((48 : Int32) + (tt % (10 : Int32))).toUInt32.toUInt16.toUInt32.toInt32).toUInt32.toUInt16.toUInt32.toInt32)).toInt8.toInt32)] (.int (0 : Int32)) := f81_6.keep Kq82 nin0
        have K82 : Keep h0 T82.heap [] := K81.trans Kq82 all0
        refine own_step (U' := (T82.setTop (mkF m 431 #[.val (.long p1), .second, .val (.int p2), .val (.int p3), .val (.int p4), .val (.long (Int64.ofNat N)), .second, .val (.int tt), .val (.ref b27), .val (.ref b70), .val (.int ss), .val (.int ee), .val (.long (((0 : Int64) * (own_p10 tl)) + (0 : Int64))), .second, .val (.int e18v), .val (.int nl), .val (.long (0 : Int64)), .second, .val (.int tsv), .val (.int tl), .val (.long (0 : Int64)), .second] [(.long (own_vv (N * 100 + TT) SS EE))]))) (fun t ht => st82 _ ht) ?_
        refine own_step (U' := (T82.setTop (mkF m 433 #[.val (.long p1), .second, .val (.int p2), .val (.int p3), .val (.int p4), .val (.long (Int64.ofNat N)), .second, .val (.int tt), .val (.ref b27), .val (.ref b70), .val (.int ss), .val (.int ee), .val (.long (((0 : Int64) * (own_p10 tl)) + (0 : Int64))), .second, .val (.long (own_vv (N * 100 + TT) SS EE)), .second, .val (.long (0 : Int64)), .second, .val (.int tsv), .val (.int tl), .val (.long (0 : Int64)), .second] []))) (fun t ht => XT.lstore X82.here hx rfl (hb hby at_431) rfl (l' := #[.val (.long p1), .second, .val (.int p2), .val (.int p3), .val (.int p4), .val (.long (Int64.ofNat N)), .second, .val (.int tt), .val (.ref b27), .val (.ref b70), .val (.int ss), .val (.int ee), .val (.long (((0 : Int64) * (own_p10 tl)) + (0 : Int64))), .second, .val (.long (own_vv (N * 100 + TT) SS EE)), .second, .val (.long (0 : Int64)), .second, .val (.int tsv), .val (.int tl), .val (.long (0 : Int64)), .second]) rfl ht) ?_
        refine own_step (U' := (T82.setTop (mkF m 435 #[.val (.long p1), .second, .val (.int p2), .val (.int p3), .val (.int p4), .val (.long (Int64.ofNat N)), .second, .val (.int tt), .val (.ref b27), .val (.ref b70), .val (.int ss), .val (.int ee), .val (.long (((0 : Int64) * (own_p10 tl)) + (0 : Int64))), .second, .val (.long (own_vv (N * 100 + TT) SS EE)), .second, .val (.long (0 : Int64)), .second, .val (.int tsv), .val (.int tl), .val (.long (0 : Int64)), .second] [(.long (own_vv (N * 100 + TT) SS EE))]))) (fun t ht => XT.lload X82.here hx rfl (hb hby at_433) rfl ht) ?_
        refine own_step (U' := (T82.setTop (mkF m 437 #[.val (.long p1), .second, .val (.int p2), .val (.int p3), .val (.int p4), .val (.long (Int64.ofNat N)), .second, .val (.int tt), .val (.ref b27), .val (.ref b70), .val (.int ss), .val (.int ee), .val (.long (((0 : Int64) * (own_p10 tl)) + (0 : Int64))), .second, .val (.long (own_vv (N * 100 + TT) SS EE)), .second, .val (.long (0 : Int64)), .second, .val (.int tsv), .val (.int tl), .val (.long (0 : Int64)), .second] [(.long (((0 : Int64) * (own_p10 tl)) + (0 : Int64))), (.long (own_vv (N * 100 + TT) SS EE))]))) (fun t ht => XT.lload X82.here hx rfl (hb hby at_435) rfl ht) ?_
        refine own_step (U' := (T82.setTop (mkF m 438 #[.val (.long p1), .second, .val (.int p2), .val (.int p3), .val (.int p4), .val (.long (Int64.ofNat N)), .second, .val (.int tt), .val (.ref b27), .val (.ref b70), .val (.int ss), .val (.int ee), .val (.long (((0 : Int64) * (own_p10 tl)) + (0 : Int64))), .second, .val (.long (own_vv (N * 100 + TT) SS EE)), .second, .val (.long (0 : Int64)), .second, .val (.int tsv), .val (.int tl), .val (.long (0 : Int64)), .second] [(.int (XT.cmpL (own_vv (N * 100 + TT) SS EE) (((0 : Int64) * (own_p10 tl)) + (0 : Int64))))]))) (fun t ht => XT.lcmp X82.here hx rfl (hb hby at_437) rfl ht) ?_
        refine own_step (U' := (T82.setTop (mkF m 441 #[.val (.long p1), .second, .val (.int p2), .val (.int p3), .val (.int p4), .val (.long (Int64.ofNat N)), .second, .val (.int tt), .val (.ref b27), .val (.ref b70), .val (.int ss), .val (.int ee), .val (.long (((0 : Int64) * (own_p10 tl)) + (0 : Int64))), .second, .val (.long (own_vv (N * 100 + TT) SS EE)), .second, .val (.long (0 : Int64)), .second, .val (.int tsv), .val (.int tl), .val (.long (0 : Int64)), .second] []))) (fun t ht => XS.ifNo X82.here hx rfl (hb hby at_438) rfl (XT.ll_ne_f ((own_fin hT hSE hE (fun q => hc301_73 ((own_gt18 hss hee hSE hE).mpr q)) (by rw [if_pos ((own_nlz hnl).mp hc334_77)]; rfl) (by rw [if_pos ((own_nlz htl).mp hc382_80)]; rfl) ⟨htl, by omega⟩) : (own_vv (N * 100 + TT) SS EE) = (((0 : Int64) * (own_p10 tl)) + (0 : Int64)))) ht) ?_
        refine own_step (U' := (T82.setTop (mkF m 442 #[.val (.long p1), .second, .val (.int p2), .val (.int p3), .val (.int p4), .val (.long (Int64.ofNat N)), .second, .val (.int tt), .val (.ref b27), .val (.ref b70), .val (.int ss), .val (.int ee), .val (.long (((0 : Int64) * (own_p10 tl)) + (0 : Int64))), .second, .val (.long (own_vv (N * 100 + TT) SS EE)), .second, .val (.long (0 : Int64)), .second, .val (.int tsv), .val (.int tl), .val (.long (0 : Int64)), .second] [(.int (1 : Int32))]))) (fun t ht => XS.iconst X82.here hx rfl (hb hby at_441) ht) ?_
        refine own_step (U' := (T82.setTop (mkF m 446 #[.val (.long p1), .second, .val (.int p2), .val (.int p3), .val (.int p4), .val (.long (Int64.ofNat N)), .second, .val (.int tt), .val (.ref b27), .val (.ref b70), .val (.int ss), .val (.int ee), .val (.long (((0 : Int64) * (own_p10 tl)) + (0 : Int64))), .second, .val (.long (own_vv (N * 100 + TT) SS EE)), .second, .val (.long (0 : Int64)), .second, .val (.int tsv), .val (.int tl), .val (.long (0 : Int64)), .second] [(.int (1 : Int32))]))) (fun t ht => XS.goto X82.here hx rfl (pc0 := 442) (pc' := 446) rfl (hb hby at_442) (by decide) (by decide) ht) ?_
        refine own_ret X82 (v := (some (.int (nar .boolean (1 : Int32))))) (fun h => by rw [Bd.returns] at h; cases h) Bd.notSynchronized (by decide) (by decide) ?_ (fun fs hr => retN X82 hx (t := .boolean) Bd.returns (by simp) (hb hby at_446) hr)
        show own_Q_law Z p1 p2 p3 p4 cz fm h0 n0 _ T82.heap _
        show own_Q_law Z p1 p2 p3 p4 cz fm h0 n0 _ T82.heap _
        exact ⟨rfl, N82⟩
      ·
        refine own_step (U' := (T79.setTop (mkF m 389 #[.val (.long p1), .second, .val (.int p2), .val (.int p3), .val (.int p4), .val (.long (Int64.ofNat N)), .second, .val (.int tt), .val (.ref b27), .val (.ref b70), .val (.int ss), .val (.int ee), .unset, .unset, .val (.int e18v), .val (.int nl), .val (.long (0 : Int64)), .second, .val (.int tsv), .val (.int tl), .unset, .unset] []))) (fun t ht => XS.ifYes X79.here hx rfl (pc0 := 382) (pc' := 389) rfl (hb hby at_382) rfl (XT.i0_ne_t hc382_80) (by decide) (by decide) ht) ?_
        refine own_step (U' := (T79.setTop (mkF m 391 #[.val (.long p1), .second, .val (.int p2), .val (.int p3), .val (.int p4), .val (.long (Int64.ofNat N)), .second, .val (.int tt), .val (.ref b27), .val (.ref b70), .val (.int ss), .val (.int ee), .unset, .unset, .val (.int e18v), .val (.int nl), .val (.long (0 : Int64)), .second, .val (.int tsv), .val (.int tl), .unset, .unset] [(.int tt)]))) (fun t ht => XS.iload X79.here hx rfl (hb hby at_389) rfl ht) ?_
        refine own_step (U' := (T79.setTop (mkF m 392 #[.val (.long p1), .second, .val (.int p2), .val (.int p3), .val (.int p4), .val (.long (Int64.ofNat N)), .second, .val (.int tt), .val (.ref b27), .val (.ref b70), .val (.int ss), .val (.int ee), .unset, .unset, .val (.int e18v), .val (.int nl), .val (.long (0 : Int64)), .second, .val (.int tsv), .val (.int tl), .unset, .unset] [(.long (tt.toInt64))]))) (fun t ht => XT.i2l X79.here hx rfl (hb hby at_391) rfl ht) ?_
        refine own_step (U' := (T79.setTop (mkF m 394 #[.val (.long p1), .second, .val (.int p2), .val (.int p3), .val (.int p4), .val (.long (Int64.ofNat N)), .second, .val (.int tt), .val (.ref b27), .val (.ref b70), .val (.int ss), .val (.int ee), .unset, .unset, .val (.int e18v), .val (.int nl), .val (.long (0 : Int64)), .second, .val (.int tsv), .val (.int tl), .unset, .unset] [(.int (20 : Int32)), (.long (tt.toInt64))]))) (fun t ht => XS.bipush X79.here hx rfl (hb hby at_392) ht) ?_
        refine own_step (U' := (T79.setTop (mkF m 396 #[.val (.long p1), .second, .val (.int p2), .val (.int p3), .val (.int p4), .val (.long (Int64.ofNat N)), .second, .val (.int tt), .val (.ref b27), .val (.ref b70), .val (.int ss), .val (.int ee), .unset, .unset, .val (.int e18v), .val (.int nl), .val (.long (0 : Int64)), .second, .val (.int tsv), .val (.int tl), .unset, .unset] [(.int ee), (.int (20 : Int32)), (.long (tt.toInt64))]))) (fun t ht => XS.iload X79.here hx rfl (hb hby at_394) rfl ht) ?_
        refine own_step (U' := (T79.setTop (mkF m 397 #[.val (.long p1), .second, .val (.int p2), .val (.int p3), .val (.int p4), .val (.long (Int64.ofNat N)), .second, .val (.int tt), .val (.ref b27), .val (.ref b70), .val (.int ss), .val (.int ee), .unset, .unset, .val (.int e18v), .val (.int nl), .val (.long (0 : Int64)), .second, .val (.int tsv), .val (.int tl), .unset, .unset] [(.int ((20 : Int32) - ee)), (.long (tt.toInt64))]))) (fun t ht => XS.isub X79.here hx rfl (hb hby at_396) rfl ht) ?_
        obtain ⟨_, _, ⟨T83, L83, k83, n83⟩, -, X83, ⟨Lc83, hQ83, l83, y83, z83⟩, st83⟩ := Jvm.LawKit.callS X79 hx (y := (⟨"com/example/version_parser/versionparser/DecimalDigitsValuePinLaw", "pow10", "(I)J"⟩ : MethodName)) hown (mvT hZ (hw _ (List.mem_of_getElem? (i := 8) rfl))) (mvT hZ (hw _ (List.mem_of_getElem? (i := 9) rfl))) (mvT hZ (hw _ (List.mem_of_getElem? (i := 6) rfl))) (mvT hZ (hw _ (List.mem_of_getElem? (i := 10) rfl))) (by decide) (backOf (W := 2) (own_m_p10 l Z a0 hw [] (((20 : Int32) - ee)) (20 - EE) T71.heap n0 (Nat.le_trans Z0 K71.1) (own_20B hee (by have := mt (own_nlz htl).mpr hc382_80; omega) hE)) hZ (hw _ (List.mem_of_getElem? (i := 10) rfl)) (hw _ (List.mem_of_getElem? (i := 6) rfl)) (by decide) (by decide)) (g := (mkF m 397 #[.val (.long p1), .second, .val (.int p2), .val (.int p3), .val (.int p4), .val (.long (Int64.ofNat N)), .second, .val (.int tt), .val (.ref b27), .val (.ref b70), .val (.int ss), .val (.int ee), .unset, .unset, .val (.int e18v), .val (.int nl), .val (.long (0 : Int64)), .second, .val (.int tsv), .val (.int tl), .unset, .unset] [(.int ((20 : Int32) - ee)), (.long (tt.toInt64))])) rfl (by rw [hml]; rfl) (argsL := [(.int ((20 : Int32) - ee))]) (rest := [(.long (tt.toInt64))]) (lenOf own_pd0 rfl) rfl (by show 2 * 0 + _ ≤ _; exact Nat.le_of_eq rfl) (hb hby at_397) (fun _ _ => ⟨rfl, e79, (by decide : 21 + 1 ≤ _), (by decide : 386 + 19 ≤ _)⟩)
        dsimp only [Pt.U, Pt.locs, Pt.cells, Pt.slots] at X83 l83 y83 z83 st83 hQ83
        subst l83 y83 z83
        obtain ⟨rfl, Nq83, Kq83⟩ := hQ83
        have N83 := Fr.app N79 Nq83
        have f83_0 : Sta Z T83.heap "java/lang/String" "COMPACT_STRINGS" "Z" (.int cz) := own_sta_keep f71_0 Kq83 own_pl0
        have f83_1 : Sta Z T83.heap "jdk/internal/util/Preconditions" "SIOOBE_FORMATTER" "Ljava/util/function/BiFunction;" fm := own_sta_keep f71_1 Kq83 own_pl0
        have f83_2 : Arv Z T83.heap b27 k27 .char (20 : Int32) [(.int ((own_dg (Int64.ofNat N) (17 : Int32)).toUInt32.toUInt16.toUInt32.toInt32)), (.int ((own_dg (Int64.ofNat N) (16 : Int32)).toUInt32.toUInt16.toUInt32.toInt32)), (.int ((own_dg (Int64.ofNat N) (15 : Int32)).toUInt32.toUInt16.toUInt32.toInt32)), (.int ((own_dg (Int64.ofNat N) (14 : Int32)).toUInt32.toUInt16.toUInt32.toInt32)), (.int ((own_dg (Int64.ofNat N) (13 : Int32)).toUInt32.toUInt16.toUInt32.toInt32)), (.int ((own_dg (Int64.ofNat N) (12 : Int32)).toUInt32.toUInt16.toUInt32.toInt32)), (.int ((own_dg (Int64.ofNat N) (11 : Int32)).toUInt32.toUInt16.toUInt32.toInt32)), (.int ((own_dg (Int64.ofNat N) (10 : Int32)).toUInt32.toUInt16.toUInt32.toInt32)), (.int ((own_dg (Int64.ofNat N) (9 : Int32)).toUInt32.toUInt16.toUInt32.toInt32)), (.int ((own_dg (Int64.ofNat N) (8 : Int32)).toUInt32.toUInt16.toUInt32.toInt32)), (.int ((own_dg (Int64.ofNat N) (7 : Int32)).toUInt32.toUInt16.toUInt32.toInt32)), (.int ((own_dg (Int64.ofNat N) (6 : Int32)).toUInt32.toUInt16.toUInt32.toInt32)), (.int ((own_dg (Int64.ofNat N) (5 : Int32)).toUInt32.toUInt16.toUInt32.toInt32)), (.int ((own_dg (Int64.ofNat N) (4 : Int32)).toUInt32.toUInt16.toUInt32.toInt32)), (.int ((own_dg (Int64.ofNat N) (3 : Int32)).toUInt32.toUInt16.toUInt32.toInt32)), (.int ((own_dg (Int64.ofNat N) (2 : Int32)).toUInt32.toUInt16.toUInt32.toInt32)), (.int ((own_dg (Int64.ofNat N) (1 : Int32)).toUInt32.toUInt16.toUInt32.toInt32)), (.int ((own_dg (Int64.ofNat N) (0 : Int32)).toUInt32.toUInt16.toUInt32.toInt32)), (.int ((((48 : Int32) + (tt / (10 : Int32))).toUInt32.toUInt16.toUInt32.toInt32).toUInt32.toUInt16.toUInt32.toInt32)), (.int ((((48 : Int32) + (tt % (10 : Int32))).toUInt32.toUInt16.toUInt32.toInt32).toUInt32.toUInt16.toUInt32.toInt32))] (.int (0 : Int32)) := f71_2.keep Kq83 nin0
        have f83_3 : Exa Z T83.heap b70 "java/lang/String" := f71_3.keep Kq83
        have f83_4 : Fld Z T83.heap b70 "java/lang/String" "coder" "B" (.int (0 : Int32)) := Cq71.keep Kq83 nin0
        have f83_5 : Fld Z T83.heap b70 "java/lang/String" "value" "[B" (.ref by71) := Vq71.keep Kq83 nin0
        have f83_6 : Arv Z T83.heap by71 kb71 .byte (20 : Int32) [(.int (((own_dg (Int64.ofNat N) (17 : Int32)).toUInt32.toUInt16.toUInt32.toInt32)).toInt8.toInt32), (.int (((own_dg (Int64.ofNat N) (16 : Int32)).toUInt32.toUInt16.toUInt32.toInt32)).toInt8.toInt32), (.int (((own_dg (Int64.ofNat N) (15 : Int32)).toUInt32.toUInt16.toUInt32.toInt32)).toInt8.toInt32), (.int (((own_dg (Int64.ofNat N) (14 : Int32)).toUInt32.toUInt16.toUInt32.toInt32)).toInt8.toInt32), (.int (((own_dg (Int64.ofNat N) (13 : Int32)).toUInt32.toUInt16.toUInt32.toInt32)).toInt8.toInt32), (.int (((own_dg (Int64.ofNat N) (12 : Int32)).toUInt32.toUInt16.toUInt32.toInt32)).toInt8.toInt32), (.int (((own_dg (Int64.ofNat N) (11 : Int32)).toUInt32.toUInt16.toUInt32.toInt32)).toInt8.toInt32), (.int (((own_dg (Int64.ofNat N) (10 : Int32)).toUInt32.toUInt16.toUInt32.toInt32)).toInt8.toInt32), (.int (((own_dg (Int64.ofNat N) (9 : Int32)).toUInt32.toUInt16.toUInt32.toInt32)).toInt8.toInt32), (.int (((own_dg (Int64.ofNat N) (8 : Int32)).toUInt32.toUInt16.toUInt32.toInt32)).toInt8.toInt32), (.int (((own_dg (Int64.ofNat N) (7 : Int32)).toUInt32.toUInt16.toUInt32.toInt32)).toInt8.toInt32), (.int (((own_dg (Int64.ofNat N) (6 : Int32)).toUInt32.toUInt16.toUInt32.toInt32)).toInt8.toInt32), (.int (((own_dg (Int64.ofNat N) (5 : Int32)).toUInt32.toUInt16.toUInt32.toInt32)).toInt8.toInt32), (.int (((own_dg (Int64.ofNat N) (4 : Int32)).toUInt32.toUInt16.toUInt32.toInt32)).toInt8.toInt32), (.int (((own_dg (Int64.ofNat N) (3 : Int32)).toUInt32.toUInt16.toUInt32.toInt32)).toInt8.toInt32), (.int (((own_dg (Int64.ofNat N) (2 : Int32)).toUInt32.toUInt16.toUInt32.toInt32)).toInt8.toInt32), (.int (((own_dg (Int64.ofNat N) (1 : Int32)).toUInt32.toUInt16.toUInt32.toInt32)).toInt8.toInt32), (.int (((own_dg (Int64.ofNat N) (0 : Int32)).toUInt32.toUInt16.toUInt32.toInt32)).toInt8.toInt32), (.int (((((48 : Int32) + (tt / (10 : Int32))).toUInt32.toUInt16.toUInt32.toInt32).toUInt32.toUInt16.toUInt32.toInt32)).toInt8.toInt32), (.int (((((48 : Int32) + (tt % (10 : Int32))).toUInt32.toUInt16.toUInt32.toInt32).toUInt32.toUInt16.toUInt32.toInt32)).toInt8.toInt32)] (.int (0 : Int32)) := Aq71.keep Kq83 nin0
        have K83 : Keep h0 T83.heap [] := K71.trans Kq83 all0
        refine own_step (U' := (T83.setTop (mkF m 400 #[.val (.long p1), .second, .val (.int p2), .val (.int p3), .val (.int p4), .val (.long (Int64.ofNat N)), .second, .val (.int tt), .val (.ref b27), .val (.ref b70), .val (.int ss), .val (.int ee), .unset, .unset, .val (.int e18v), .val (.int nl), .val (.long (0 : Int64)), .second, .val (.int tsv), .val (.int tl), .unset, .unset] [(.long (own_p10 ((20 : Int32) - ee))), (.long (tt.toInt64))]))) (fun t ht => st83 _ ht) ?_
        refine own_step (U' := (T83.setTop (mkF m 401 #[.val (.long p1), .second, .val (.int p2), .val (.int p3), .val (.int p4), .val (.long (Int64.ofNat N)), .second, .val (.int tt), .val (.ref b27), .val (.ref b70), .val (.int ss), .val (.int ee), .unset, .unset, .val (.int e18v), .val (.int nl), .val (.long (0 : Int64)), .second, .val (.int tsv), .val (.int tl), .unset, .unset] [(.long ((tt.toInt64) / (own_p10 ((20 : Int32) - ee))))]))) (fun t ht => XT.ldiv X83.here hx rfl (hb hby at_400) rfl (own_p10_nz (own_20B hee (by have := mt (own_nlz htl).mpr hc382_80; omega) hE)) ht) ?_
        refine own_step (U' := (T83.setTop (mkF m 403 #[.val (.long p1), .second, .val (.int p2), .val (.int p3), .val (.int p4), .val (.long (Int64.ofNat N)), .second, .val (.int tt), .val (.ref b27), .val (.ref b70), .val (.int ss), .val (.int ee), .unset, .unset, .val (.int e18v), .val (.int nl), .val (.long (0 : Int64)), .second, .val (.int tsv), .val (.int tl), .unset, .unset] [(.int tl), (.long ((tt.toInt64) / (own_p10 ((20 : Int32) - ee))))]))) (fun t ht => XS.iload X83.here hx rfl (hb hby at_401) rfl ht) ?_
        obtain ⟨_, _, ⟨T84, L84, k84, n84⟩, -, X84, ⟨Lc84, hQ84, l84, y84, z84⟩, st84⟩ := Jvm.LawKit.callS X83 hx (y := (⟨"com/example/version_parser/versionparser/DecimalDigitsValuePinLaw", "pow10", "(I)J"⟩ : MethodName)) hown (mvT hZ (hw _ (List.mem_of_getElem? (i := 8) rfl))) (mvT hZ (hw _ (List.mem_of_getElem? (i := 9) rfl))) (mvT hZ (hw _ (List.mem_of_getElem? (i := 6) rfl))) (mvT hZ (hw _ (List.mem_of_getElem? (i := 10) rfl))) (by decide) (backOf (W := 2) (own_m_p10 l Z a0 hw [] (tl) (EE - max SS 18) T83.heap n0 (Nat.le_trans Z0 K83.1) ⟨htl, by omega⟩) hZ (hw _ (List.mem_of_getElem? (i := 10) rfl)) (hw _ (List.mem_of_getElem? (i := 6) rfl)) (by decide) (by decide)) (g := (mkF m 403 #[.val (.long p1), .second, .val (.int p2), .val (.int p3), .val (.int p4), .val (.long (Int64.ofNat N)), .second, .val (.int tt), .val (.ref b27), .val (.ref b70), .val (.int ss), .val (.int ee), .unset, .unset, .val (.int e18v), .val (.int nl), .val (.long (0 : Int64)), .second, .val (.int tsv), .val (.int tl), .unset, .unset] [(.int tl), (.long ((tt.toInt64) / (own_p10 ((20 : Int32) - ee))))])) rfl (by rw [hml]; rfl) (argsL := [(.int tl)]) (rest := [(.long ((tt.toInt64) / (own_p10 ((20 : Int32) - ee))))]) (lenOf own_pd0 rfl) rfl (by show 2 * 0 + _ ≤ _; exact Nat.le_of_eq rfl) (hb hby at_403) (fun _ _ => ⟨rfl, rfl, (by decide : 22 + 1 ≤ _), (by decide : 405 + 19 ≤ _)⟩)
        dsimp only [Pt.U, Pt.locs, Pt.cells, Pt.slots] at X84 l84 y84 z84 st84 hQ84
        subst l84 y84 z84
        obtain ⟨rfl, Nq84, Kq84⟩ := hQ84
        have N84 := Fr.app N83 Nq84
        have f84_0 : Sta Z T84.heap "java/lang/String" "COMPACT_STRINGS" "Z" (.int cz) := own_sta_keep f83_0 Kq84 own_pl0
        have f84_1 : Sta Z T84.heap "jdk/internal/util/Preconditions" "SIOOBE_FORMATTER" "Ljava/util/function/BiFunction;" fm := own_sta_keep f83_1 Kq84 own_pl0
        have f84_2 : Arv Z T84.heap b27 k27 .char (20 : Int32) [(.int ((own_dg (Int64.ofNat N) (17 : Int32)).toUInt32.toUInt16.toUInt32.toInt32)), (.int ((own_dg (Int64.ofNat N) (16 : Int32)).toUInt32.toUInt16.toUInt32.toInt32)), (.int ((own_dg (Int64.ofNat N) (15 : Int32)).toUInt32.toUInt16.toUInt32.toInt32)), (.int ((own_dg (Int64.ofNat N) (14 : Int32)).toUInt32.toUInt16.toUInt32.toInt32)), (.int ((own_dg (Int64.ofNat N) (13 : Int32)).toUInt32.toUInt16.toUInt32.toInt32)), (.int ((own_dg (Int64.ofNat N) (12 : Int32)).toUInt32.toUInt16.toUInt32.toInt32)), (.int ((own_dg (Int64.ofNat N) (11 : Int32)).toUInt32.toUInt16.toUInt32.toInt32)), (.int ((own_dg (Int64.ofNat N) (10 : Int32)).toUInt32.toUInt16.toUInt32.toInt32)), (.int ((own_dg (Int64.ofNat N) (9 : Int32)).toUInt32.toUInt16.toUInt32.toInt32)), (.int ((own_dg (Int64.ofNat N) (8 : Int32)).toUInt32.toUInt16.toUInt32.toInt32)), (.int ((own_dg (Int64.ofNat N) (7 : Int32)).toUInt32.toUInt16.toUInt32.toInt32)), (.int ((own_dg (Int64.ofNat N) (6 : Int32)).toUInt32.toUInt16.toUInt32.toInt32)), (.int ((own_dg (Int64.ofNat N) (5 : Int32)).toUInt32.toUInt16.toUInt32.toInt32)), (.int ((own_dg (Int64.ofNat N) (4 : Int32)).toUInt32.toUInt16.toUInt32.toInt32)), (.int ((own_dg (Int64.ofNat N) (3 : Int32)).toUInt32.toUInt16.toUInt32.toInt32)), (.int ((own_dg (Int64.ofNat N) (2 : Int32)).toUInt32.toUInt16.toUInt32.toInt32)), (.int ((own_dg (Int64.ofNat N) (1 : Int32)).toUInt32.toUInt16.toUInt32.toInt32)), (.int ((own_dg (Int64.ofNat N) (0 : Int32)).toUInt32.toUInt16.toUInt32.toInt32)), (.int ((((48 : Int32) + (tt / (10 : Int32))).toUInt32.toUInt16.toUInt32.toInt32).toUInt32.toUInt16.toUInt32.toInt32)), (.int ((((48 : Int32) + (tt % (10 : Int32))).toUInt32.toUInt16.toUInt32.toInt32).toUInt32.toUInt16.toUInt32.toInt32))] (.int (0 : Int32)) := f83_2.keep Kq84 nin0
        have f84_3 : Exa Z T84.heap b70 "java/lang/String" := f83_3.keep Kq84
        have f84_4 : Fld Z T84.heap b70 "java/lang/String" "coder" "B" (.int (0 : Int32)) := f83_4.keep Kq84 nin0
        have f84_5 : Fld Z T84.heap b70 "java/lang/String" "value" "[B" (.ref by71) := f83_5.keep Kq84 nin0
        have f84_6 : Arv Z T84.heap by71 kb71 .byte (20 : Int32) [(.int (((own_dg (Int64.ofNat N) (17 : Int32)).toUInt32.toUInt16.toUInt32.toInt32)).toInt8.toInt32), (.int (((own_dg (Int64.ofNat N) (16 : Int32)).toUInt32.toUInt16.toUInt32.toInt32)).toInt8.toInt32), (.int (((own_dg (Int64.ofNat N) (15 : Int32)).toUInt32.toUInt16.toUInt32.toInt32)).toInt8.toInt32), (.int (((own_dg (Int64.ofNat N) (14 : Int32)).toUInt32.toUInt16.toUInt32.toInt32)).toInt8.toInt32), (.int (((own_dg (Int64.ofNat N) (13 : Int32)).toUInt32.toUInt16.toUInt32.toInt32)).toInt8.toInt32), (.int (((own_dg (Int64.ofNat N) (12 : Int32)).toUInt32.toUInt16.toUInt32.toInt32)).toInt8.toInt32), (.int (((own_dg (Int64.ofNat N) (11 : Int32)).toUInt32.toUInt16.toUInt32.toInt32)).toInt8.toInt32), (.int (((own_dg (Int64.ofNat N) (10 : Int32)).toUInt32.toUInt16.toUInt32.toInt32)).toInt8.toInt32), (.int (((own_dg (Int64.ofNat N) (9 : Int32)).toUInt32.toUInt16.toUInt32.toInt32)).toInt8.toInt32), (.int (((own_dg (Int64.ofNat N) (8 : Int32)).toUInt32.toUInt16.toUInt32.toInt32)).toInt8.toInt32), (.int (((own_dg (Int64.ofNat N) (7 : Int32)).toUInt32.toUInt16.toUInt32.toInt32)).toInt8.toInt32), (.int (((own_dg (Int64.ofNat N) (6 : Int32)).toUInt32.toUInt16.toUInt32.toInt32)).toInt8.toInt32), (.int (((own_dg (Int64.ofNat N) (5 : Int32)).toUInt32.toUInt16.toUInt32.toInt32)).toInt8.toInt32), (.int (((own_dg (Int64.ofNat N) (4 : Int32)).toUInt32.toUInt16.toUInt32.toInt32)).toInt8.toInt32), (.int (((own_dg (Int64.ofNat N) (3 : Int32)).toUInt32.toUInt16.toUInt32.toInt32)).toInt8.toInt32), (.int (((own_dg (Int64.ofNat N) (2 : Int32)).toUInt32.toUInt16.toUInt32.toInt32)).toInt8.toInt32), (.int (((own_dg (Int64.ofNat N) (1 : Int32)).toUInt32.toUInt16.toUInt32.toInt32)).toInt8.toInt32), (.int (((own_dg (Int64.ofNat N) (0 : Int32)).toUInt32.toUInt16.toUInt32.toInt32)).toInt8.toInt32), (.int (((((48 : Int32) + (tt / (10 : Int32))).toUInt32.toUInt16.toUInt32.toInt32).toUInt32.toUInt16.toUInt32.toInt32)).toInt8.toInt32), (.int (((((48 : Int32) + (tt % (10 : Int32))).toUInt32.toUInt16.toUInt32.toInt32).toUInt32.toUInt16.toUInt32.toInt32)).toInt8.toInt32)] (.int (0 : Int32)) := f83_6.keep Kq84 nin0
        have K84 : Keep h0 T84.heap [] := K83.trans Kq84 all0
        refine own_step (U' := (T84.setTop (mkF m 406 #[.val (.long p1), .second, .val (.int p2), .val (.int p3), .val (.int p4), .val (.long (Int64.ofNat N)), .second, .val (.int tt), .val (.ref b27), .val (.ref b70), .val (.int ss), .val (.int ee), .unset, .unset, .val (.int e18v), .val (.int nl), .val (.long (0 : Int64)), .second, .val (.int tsv), .val (.int tl), .unset, .unset] [(.long (own_p10 tl)), (.long ((tt.toInt64) / (own_p10 ((20 : Int32) - ee))))]))) (fun t ht => st84 _ ht) ?_
        refine own_step (U' := (T84.setTop (mkF m 407 #[.val (.long p1), .second, .val (.int p2), .val (.int p3), .val (.int p4), .val (.long (Int64.ofNat N)), .second, .val (.int tt), .val (.ref b27), .val (.ref b70), .val (.int ss), .val (.int ee), .unset, .unset, .val (.int e18v), .val (.int nl), .val (.long (0 : Int64)), .second, .val (.int tsv), .val (.int tl), .unset, .unset] [(.long (own_lrem ((tt.toInt64) / (own_p10 ((20 : Int32) - ee))) (own_p10 tl)))]))) (fun t ht => XT.lrem X84.here hx rfl (hb hby at_406) rfl (own_p10_nz (j := EE - max SS 18) ⟨htl, by omega⟩) ht) ?_
        refine own_step (U' := (T84.setTop (mkF m 409 #[.val (.long p1), .second, .val (.int p2), .val (.int p3), .val (.int p4), .val (.long (Int64.ofNat N)), .second, .val (.int tt), .val (.ref b27), .val (.ref b70), .val (.int ss), .val (.int ee), .unset, .unset, .val (.int e18v), .val (.int nl), .val (.long (0 : Int64)), .second, .val (.int tsv), .val (.int tl), .val (.long (own_lrem ((tt.toInt64) / (own_p10 ((20 : Int32) - ee))) (own_p10 tl))), .second] []))) (fun t ht => XT.lstore X84.here hx rfl (hb hby at_407) rfl (l' := #[.val (.long p1), .second, .val (.int p2), .val (.int p3), .val (.int p4), .val (.long (Int64.ofNat N)), .second, .val (.int tt), .val (.ref b27), .val (.ref b70), .val (.int ss), .val (.int ee), .unset, .unset, .val (.int e18v), .val (.int nl), .val (.long (0 : Int64)), .second, .val (.int tsv), .val (.int tl), .val (.long (own_lrem ((tt.toInt64) / (own_p10 ((20 : Int32) - ee))) (own_p10 tl))), .second]) rfl ht) ?_
        refine own_step (U' := (T84.setTop (mkF m 411 #[.val (.long p1), .second, .val (.int p2), .val (.int p3), .val (.int p4), .val (.long (Int64.ofNat N)), .second, .val (.int tt), .val (.ref b27), .val (.ref b70), .val (.int ss), .val (.int ee), .unset, .unset, .val (.int e18v), .val (.int nl), .val (.long (0 : Int64)), .second, .val (.int tsv), .val (.int tl), .val (.long (own_lrem ((tt.toInt64) / (own_p10 ((20 : Int32) - ee))) (own_p10 tl))), .second] [(.long (0 : Int64))]))) (fun t ht => XT.lload X84.here hx rfl (hb hby at_409) rfl ht) ?_
        refine own_step (U' := (T84.setTop (mkF m 413 #[.val (.long p1), .second, .val (.int p2), .val (.int p3), .val (.int p4), .val (.long (Int64.ofNat N)), .second, .val (.int tt), .val (.ref b27), .val (.ref b70), .val (.int ss), .val (.int ee), .unset, .unset, .val (.int e18v), .val (.int nl), .val (.long (0 : Int64)), .second, .val (.int tsv), .val (.int tl), .val (.long (own_lrem ((tt.toInt64) / (own_p10 ((20 : Int32) - ee))) (own_p10 tl))), .second] [(.int tl), (.long (0 : Int64))]))) (fun t ht => XS.iload X84.here hx rfl (hb hby at_411) rfl ht) ?_
        obtain ⟨_, _, ⟨T85, L85, k85, n85⟩, -, X85, ⟨Lc85, hQ85, l85, y85, z85⟩, st85⟩ := Jvm.LawKit.callS X84 hx (y := (⟨"com/example/version_parser/versionparser/DecimalDigitsValuePinLaw", "pow10", "(I)J"⟩ : MethodName)) hown (mvT hZ (hw _ (List.mem_of_getElem? (i := 8) rfl))) (mvT hZ (hw _ (List.mem_of_getElem? (i := 9) rfl))) (mvT hZ (hw _ (List.mem_of_getElem? (i := 6) rfl))) (mvT hZ (hw _ (List.mem_of_getElem? (i := 10) rfl))) (by decide) (backOf (W := 2) (own_m_p10 l Z a0 hw [] (tl) (EE - max SS 18) T84.heap n0 (Nat.le_trans Z0 K84.1) ⟨htl, by omega⟩) hZ (hw _ (List.mem_of_getElem? (i := 10) rfl)) (hw _ (List.mem_of_getElem? (i := 6) rfl)) (by decide) (by decide)) (g := (mkF m 413 #[.val (.long p1), .second, .val (.int p2), .val (.int p3), .val (.int p4), .val (.long (Int64.ofNat N)), .second, .val (.int tt), .val (.ref b27), .val (.ref b70), .val (.int ss), .val (.int ee), .unset, .unset, .val (.int e18v), .val (.int nl), .val (.long (0 : Int64)), .second, .val (.int tsv), .val (.int tl), .val (.long (own_lrem ((tt.toInt64) / (own_p10 ((20 : Int32) - ee))) (own_p10 tl))), .second] [(.int tl), (.long (0 : Int64))])) rfl (by rw [hml]; rfl) (argsL := [(.int tl)]) (rest := [(.long (0 : Int64))]) (lenOf own_pd0 rfl) rfl (by show 2 * 0 + _ ≤ _; exact Nat.le_of_eq rfl) (hb hby at_413) (fun _ _ => ⟨rfl, rfl, (by decide : 23 + 1 ≤ _), (by decide : 424 + 19 ≤ _)⟩)
        dsimp only [Pt.U, Pt.locs, Pt.cells, Pt.slots] at X85 l85 y85 z85 st85 hQ85
        subst l85 y85 z85
        obtain ⟨rfl, Nq85, Kq85⟩ := hQ85
        have N85 := Fr.app N84 Nq85
        have f85_0 : Sta Z T85.heap "java/lang/String" "COMPACT_STRINGS" "Z" (.int cz) := own_sta_keep f84_0 Kq85 own_pl0
        have f85_1 : Sta Z T85.heap "jdk/internal/util/Preconditions" "SIOOBE_FORMATTER" "Ljava/util/function/BiFunction;" fm := own_sta_keep f84_1 Kq85 own_pl0
        have f85_2 : Arv Z T85.heap b27 k27 .char (20 : Int32) [(.int ((own_dg (Int64.ofNat N) (17 : Int32)).toUInt32.toUInt16.toUInt32.toInt32)), (.int ((own_dg (Int64.ofNat N) (16 : Int32)).toUInt32.toUInt16.toUInt32.toInt32)), (.int ((own_dg (Int64.ofNat N) (15 : Int32)).toUInt32.toUInt16.toUInt32.toInt32)), (.int ((own_dg (Int64.ofNat N) (14 : Int32)).toUInt32.toUInt16.toUInt32.toInt32)), (.int ((own_dg (Int64.ofNat N) (13 : Int32)).toUInt32.toUInt16.toUInt32.toInt32)), (.int ((own_dg (Int64.ofNat N) (12 : Int32)).toUInt32.toUInt16.toUInt32.toInt32)), (.int ((own_dg (Int64.ofNat N) (11 : Int32)).toUInt32.toUInt16.toUInt32.toInt32)), (.int ((own_dg (Int64.ofNat N) (10 : Int32)).toUInt32.toUInt16.toUInt32.toInt32)), (.int ((own_dg (Int64.ofNat N) (9 : Int32)).toUInt32.toUInt16.toUInt32.toInt32)), (.int ((own_dg (Int64.ofNat N) (8 : Int32)).toUInt32.toUInt16.toUInt32.toInt32)), (.int ((own_dg (Int64.ofNat N) (7 : Int32)).toUInt32.toUInt16.toUInt32.toInt32)), (.int ((own_dg (Int64.ofNat N) (6 : Int32)).toUInt32.toUInt16.toUInt32.toInt32)), (.int ((own_dg (Int64.ofNat N) (5 : Int32)).toUInt32.toUInt16.toUInt32.toInt32)), (.int ((own_dg (Int64.ofNat N) (4 : Int32)).toUInt32.toUInt16.toUInt32.toInt32)), (.int ((own_dg (Int64.ofNat N) (3 : Int32)).toUInt32.toUInt16.toUInt32.toInt32)), (.int ((own_dg (Int64.ofNat N) (2 : Int32)).toUInt32.toUInt16.toUInt32.toInt32)), (.int ((own_dg (Int64.ofNat N) (1 : Int32)).toUInt32.toUInt16.toUInt32.toInt32)), (.int ((own_dg (Int64.ofNat N) (0 : Int32)).toUInt32.toUInt16.toUInt32.toInt32)), (.int ((((48 : Int32) + (tt / (10 : Int32))).toUInt32.toUInt16.toUInt32.toInt32).toUInt32.toUInt16.toUInt32.toInt32)), (.int ((((48 : Int32) + (tt % (10 : Int32))).toUInt32.toUInt16.toUInt32.toInt32).toUInt32.toUInt16.toUInt32.toInt32))] (.int (0 : Int32)) := f84_2.keep Kq85 nin0
        have f85_3 : Exa Z T85.heap b70 "java/lang/String" := f84_3.keep Kq85
        have f85_4 : Fld Z T85.heap b70 "java/lang/String" "coder" "B" (.int (0 : Int32)) := f84_4.keep Kq85 nin0
        have f85_5 : Fld Z T85.heap b70 "java/lang/String" "value" "[B" (.ref by71) := f84_5.keep Kq85 nin0
        have f85_6 : Arv Z T85.heap by71 kb71 .byte (20 : Int32) [(.int (((own_dg (Int64.ofNat N) (17 : Int32)).toUInt32.toUInt16.toUInt32.toInt32)).toInt8.toInt32), (.int (((own_dg (Int64.ofNat N) (16 : Int32)).toUInt32.toUInt16.toUInt32.toInt32)).toInt8.toInt32), (.int (((own_dg (Int64.ofNat N) (15 : Int32)).toUInt32.toUInt16.toUInt32.toInt32)).toInt8.toInt32), (.int (((own_dg (Int64.ofNat N) (14 : Int32)).toUInt32.toUInt16.toUInt32.toInt32)).toInt8.toInt32), (.int (((own_dg (Int64.ofNat N) (13 : Int32)).toUInt32.toUInt16.toUInt32.toInt32)).toInt8.toInt32), (.int (((own_dg (Int64.ofNat N) (12 : Int32)).toUInt32.toUInt16.toUInt32.toInt32)).toInt8.toInt32), (.int (((own_dg (Int64.ofNat N) (11 : Int32)).toUInt32.toUInt16.toUInt32.toInt32)).toInt8.toInt32), (.int (((own_dg (Int64.ofNat N) (10 : Int32)).toUInt32.toUInt16.toUInt32.toInt32)).toInt8.toInt32), (.int (((own_dg (Int64.ofNat N) (9 : Int32)).toUInt32.toUInt16.toUInt32.toInt32)).toInt8.toInt32), (.int (((own_dg (Int64.ofNat N) (8 : Int32)).toUInt32.toUInt16.toUInt32.toInt32)).toInt8.toInt32), (.int (((own_dg (Int64.ofNat N) (7 : Int32)).toUInt32.toUInt16.toUInt32.toInt32)).toInt8.toInt32), (.int (((own_dg (Int64.ofNat N) (6 : Int32)).toUInt32.toUInt16.toUInt32.toInt32)).toInt8.toInt32), (.int (((own_dg (Int64.ofNat N) (5 : Int32)).toUInt32.toUInt16.toUInt32.toInt32)).toInt8.toInt32), (.int (((own_dg (Int64.ofNat N) (4 : Int32)).toUInt32.toUInt16.toUInt32.toInt32)).toInt8.toInt32), (.int (((own_dg (Int64.ofNat N) (3 : Int32)).toUInt32.toUInt16.toUInt32.toInt32)).toInt8.toInt32), (.int (((own_dg (Int64.ofNat N) (2 : Int32)).toUInt32.toUInt16.toUInt32.toInt32)).toInt8.toInt32), (.int (((own_dg (Int64.ofNat N) (1 : Int32)).toUInt32.toUInt16.toUInt32.toInt32)).toInt8.toInt32), (.int (((own_dg (Int64.ofNat N) (0 : Int32)).toUInt32.toUInt16.toUInt32.toInt32)).toInt8.toInt32), (.int (((((48 : Int32) + (tt / (10 : Int32))).toUInt32.toUInt16.toUInt32.toInt32).toUInt32.toUInt16.toUInt32.toInt32)).toInt8.toInt32), (.int (((((48 : Int32) + (tt % (10 : Int32))).toUInt32.toUInt16.toUInt32.toInt32).toUInt32.toUInt16.toUInt32.toInt32)).toInt8.toInt32)] (.int (0 : Int32)) := f84_6.keep Kq85 nin0
        have K85 : Keep h0 T85.heap [] := K84.trans Kq85 all0
        refine own_step (U' := (T85.setTop (mkF m 416 #[.val (.long p1), .second, .val (.int p2), .val (.int p3), .val (.int p4), .val (.long (Int64.ofNat N)), .second, .val (.int tt), .val (.ref b27), .val (.ref b70), .val (.int ss), .val (.int ee), .unset, .unset, .val (.int e18v), .val (.int nl), .val (.long (0 : Int64)), .second, .val (.int tsv), .val (.int tl), .val (.long (own_lrem ((tt.toInt64) / (own_p10 ((20 : Int32) - ee))) (own_p10 tl))), .second] [(.long (own_p10 tl)), (.long (0 : Int64))]))) (fun t ht => st85 _ ht) ?_
        refine own_step (U' := (T85.setTop (mkF m 417 #[.val (.long p1), .second, .val (.int p2), .val (.int p3), .val (.int p4), .val (.long (Int64.ofNat N)), .second, .val (.int tt), .val (.ref b27), .val (.ref b70), .val (.int ss), .val (.int ee), .unset, .unset, .val (.int e18v), .val (.int nl), .val (.long (0 : Int64)), .second, .val (.int tsv), .val (.int tl), .val (.long (own_lrem ((tt.toInt64) / (own_p10 ((20 : Int32) - ee))) (own_p10 tl))), .second] [(.long ((0 : Int64) * (own_p10 tl)))]))) (fun t ht => XT.lmul X85.here hx rfl (hb hby at_416) rfl ht) ?_
        refine own_step (U' := (T85.setTop (mkF m 419 #[.val (.long p1), .second, .val (.int p2), .val (.int p3), .val (.int p4), .val (.long (Int64.ofNat N)), .second, .val (.int tt), .val (.ref b27), .val (.ref b70), .val (.int ss), .val (.int ee), .unset, .unset, .val (.int e18v), .val (.int nl), .val (.long (0 : Int64)), .second, .val (.int tsv), .val (.int tl), .val (.long (own_lrem ((tt.toInt64) / (own_p10 ((20 : Int32) - ee))) (own_p10 tl))), .second] [(.long (own_lrem ((tt.toInt64) / (own_p10 ((20 : Int32) - ee))) (own_p10 tl))), (.long ((0 : Int64) * (own_p10 tl)))]))) (fun t ht => XT.lload X85.here hx rfl (hb hby at_417) rfl ht) ?_
        refine own_step (U' := (T85.setTop (mkF m 420 #[.val (.long p1), .second, .val (.int p2), .val (.int p3), .val (.int p4), .val (.long (Int64.ofNat N)), .second, .val (.int tt), .val (.ref b27), .val (.ref b70), .val (.int ss), .val (.int ee), .unset, .unset, .val (.int e18v), .val (.int nl), .val (.long (0 : Int64)), .second, .val (.int tsv), .val (.int tl), .val (.long (own_lrem ((tt.toInt64) / (own_p10 ((20 : Int32) - ee))) (own_p10 tl))), .second] [(.long (((0 : Int64) * (own_p10 tl)) + (own_lrem ((tt.toInt64) / (own_p10 ((20 : Int32) - ee))) (own_p10 tl))))]))) (fun t ht => XT.ladd X85.here hx rfl (hb hby at_419) rfl ht) ?_
        refine own_step (U' := (T85.setTop (mkF m 422 #[.val (.long p1), .second, .val (.int p2), .val (.int p3), .val (.int p4), .val (.long (Int64.ofNat N)), .second, .val (.int tt), .val (.ref b27), .val (.ref b70), .val (.int ss), .val (.int ee), .val (.long (((0 : Int64) * (own_p10 tl)) + (own_lrem ((tt.toInt64) / (own_p10 ((20 : Int32) - ee))) (own_p10 tl)))), .second, .val (.int e18v), .val (.int nl), .val (.long (0 : Int64)), .second, .val (.int tsv), .val (.int tl), .val (.long (own_lrem ((tt.toInt64) / (own_p10 ((20 : Int32) - ee))) (own_p10 tl))), .second] []))) (fun t ht => XT.lstore X85.here hx rfl (hb hby at_420) rfl (l' := #[.val (.long p1), .second, .val (.int p2), .val (.int p3), .val (.int p4), .val (.long (Int64.ofNat N)), .second, .val (.int tt), .val (.ref b27), .val (.ref b70), .val (.int ss), .val (.int ee), .val (.long (((0 : Int64) * (own_p10 tl)) + (own_lrem ((tt.toInt64) / (own_p10 ((20 : Int32) - ee))) (own_p10 tl)))), .second, .val (.int e18v), .val (.int nl), .val (.long (0 : Int64)), .second, .val (.int tsv), .val (.int tl), .val (.long (own_lrem ((tt.toInt64) / (own_p10 ((20 : Int32) - ee))) (own_p10 tl))), .second]) rfl ht) ?_
        refine own_step (U' := (T85.setTop (mkF m 424 #[.val (.long p1), .second, .val (.int p2), .val (.int p3), .val (.int p4), .val (.long (Int64.ofNat N)), .second, .val (.int tt), .val (.ref b27), .val (.ref b70), .val (.int ss), .val (.int ee), .val (.long (((0 : Int64) * (own_p10 tl)) + (own_lrem ((tt.toInt64) / (own_p10 ((20 : Int32) - ee))) (own_p10 tl)))), .second, .val (.int e18v), .val (.int nl), .val (.long (0 : Int64)), .second, .val (.int tsv), .val (.int tl), .val (.long (own_lrem ((tt.toInt64) / (own_p10 ((20 : Int32) - ee))) (own_p10 tl))), .second] [(.ref b70)]))) (fun t ht => XS.aload X85.here hx rfl (hb hby at_422) rfl rfl ht) ?_
        refine own_step (U' := (T85.setTop (mkF m 426 #[.val (.long p1), .second, .val (.int p2), .val (.int p3), .val (.int p4), .val (.long (Int64.ofNat N)), .second, .val (.int tt), .val (.ref b27), .val (.ref b70), .val (.int ss), .val (.int ee), .val (.long (((0 : Int64) * (own_p10 tl)) + (own_lrem ((tt.toInt64) / (own_p10 ((20 : Int32) - ee))) (own_p10 tl)))), .second, .val (.int e18v), .val (.int nl), .val (.long (0 : Int64)), .second, .val (.int tsv), .val (.int tl), .val (.long (own_lrem ((tt.toInt64) / (own_p10 ((20 : Int32) - ee))) (own_p10 tl))), .second] [(.int ss), (.ref b70)]))) (fun t ht => XS.iload X85.here hx rfl (hb hby at_424) rfl ht) ?_
        refine own_step (U' := (T85.setTop (mkF m 428 #[.val (.long p1), .second, .val (.int p2), .val (.int p3), .val (.int p4), .val (.long (Int64.ofNat N)), .second, .val (.int tt), .val (.ref b27), .val (.ref b70), .val (.int ss), .val (.int ee), .val (.long (((0 : Int64) * (own_p10 tl)) + (own_lrem ((tt.toInt64) / (own_p10 ((20 : Int32) - ee))) (own_p10 tl)))), .second, .val (.int e18v), .val (.int nl), .val (.long (0 : Int64)), .second, .val (.int tsv), .val (.int tl), .val (.long (own_lrem ((tt.toInt64) / (own_p10 ((20 : Int32) - ee))) (own_p10 tl))), .second] [(.int ee), (.int ss), (.ref b70)]))) (fun t ht => XS.iload X85.here hx rfl (hb hby at_426) rfl ht) ?_
        have hdig85 : ∀ i, i < 20 → ([((own_dg (Int64.ofNat N) (17 : Int32)).toUInt32.toUInt16.toUInt32.toInt32), ((own_dg (Int64.ofNat N) (16 : Int32)).toUInt32.toUInt16.toUInt32.toInt32), ((own_dg (Int64.ofNat N) (15 : Int32)).toUInt32.toUInt16.toUInt32.toInt32), ((own_dg (Int64.ofNat N) (14 : Int32)).toUInt32.toUInt16.toUInt32.toInt32), ((own_dg (Int64.ofNat N) (13 : Int32)).toUInt32.toUInt16.toUInt32.toInt32), ((own_dg (Int64.ofNat N) (12 : Int32)).toUInt32.toUInt16.toUInt32.toInt32), ((own_dg (Int64.ofNat N) (11 : Int32)).toUInt32.toUInt16.toUInt32.toInt32), ((own_dg (Int64.ofNat N) (10 : Int32)).toUInt32.toUInt16.toUInt32.toInt32), ((own_dg (Int64.ofNat N) (9 : Int32)).toUInt32.toUInt16.toUInt32.toInt32), ((own_dg (Int64.ofNat N) (8 : Int32)).toUInt32.toUInt16.toUInt32.toInt32), ((own_dg (Int64.ofNat N) (7 : Int32)).toUInt32.toUInt16.toUInt32.toInt32), ((own_dg (Int64.ofNat N) (6 : Int32)).toUInt32.toUInt16.toUInt32.toInt32), ((own_dg (Int64.ofNat N) (5 : Int32)).toUInt32.toUInt16.toUInt32.toInt32), ((own_dg (Int64.ofNat N) (4 : Int32)).toUInt32.toUInt16.toUInt32.toInt32), ((own_dg (Int64.ofNat N) (3 : Int32)).toUInt32.toUInt16.toUInt32.toInt32), ((own_dg (Int64.ofNat N) (2 : Int32)).toUInt32.toUInt16.toUInt32.toInt32), ((own_dg (Int64.ofNat N) (1 : Int32)).toUInt32.toUInt16.toUInt32.toInt32), ((own_dg (Int64.ofNat N) (0 : Int32)).toUInt32.toUInt16.toUInt32.toInt32), ((((48 : Int32) + (tt / (10 : Int32))).toUInt32.toUInt16.toUInt32.toInt32).toUInt32.toUInt16.toUInt32.toInt32), ((((48 : Int32) + (tt % (10 : Int32))).toUInt32.toUInt16.toUInt32.toInt32).toUInt32.toUInt16.toUInt32.toInt32)] : List Int32).getD i 0 = own_dgN (N * 100 + TT) i := by
          intro i hi
          have hc : i = 0 ∨ i = 1 ∨ i = 2 ∨ i = 3 ∨ i = 4 ∨ i = 5 ∨ i = 6 ∨ i = 7 ∨ i = 8 ∨ i = 9 ∨ i = 10 ∨ i = 11 ∨ i = 12 ∨ i = 13 ∨ i = 14 ∨ i = 15 ∨ i = 16 ∨ i = 17 ∨ i = 18 ∨ i = 19 := by omega
          rcases hc with rfl | rfl | rfl | rfl | rfl | rfl | rfl | rfl | rfl | rfl | rfl | rfl | rfl | rfl | rfl | rfl | rfl | rfl | rfl | rfl
          · show ((own_dg (Int64.ofNat N) (17 : Int32)).toUInt32.toUInt16.toUInt32.toInt32) = _
            exact (own_dgc (T := TT) hN hT (k := (17 : Int32)) (j := 17) ⟨rfl, by decide⟩ (by decide))
          · show ((own_dg (Int64.ofNat N) (16 : Int32)).toUInt32.toUInt16.toUInt32.toInt32) = _
            exact (own_dgc (T := TT) hN hT (k := (16 : Int32)) (j := 16) ⟨rfl, by decide⟩ (by decide))
          · show ((own_dg (Int64.ofNat N) (15 : Int32)).toUInt32.toUInt16.toUInt32.toInt32) = _
            exact (own_dgc (T := TT) hN hT (k := (15 : Int32)) (j := 15) ⟨rfl, by decide⟩ (by decide))
          · show ((own_dg (Int64.ofNat N) (14 : Int32)).toUInt32.toUInt16.toUInt32.toInt32) = _
            exact (own_dgc (T := TT) hN hT (k := (14 : Int32)) (j := 14) ⟨rfl, by decide⟩ (by decide))
          · show ((own_dg (Int64.ofNat N) (13 : Int32)).toUInt32.toUInt16.toUInt32.toInt32) = _
            exact (own_dgc (T := TT) hN hT (k := (13 : Int32)) (j := 13) ⟨rfl, by decide⟩ (by decide))
          · show ((own_dg (Int64.ofNat N) (12 : Int32)).toUInt32.toUInt16.toUInt32.toInt32) = _
            exact (own_dgc (T := TT) hN hT (k := (12 : Int32)) (j := 12) ⟨rfl, by decide⟩ (by decide))
          · show ((own_dg (Int64.ofNat N) (11 : Int32)).toUInt32.toUInt16.toUInt32.toInt32) = _
            exact (own_dgc (T := TT) hN hT (k := (11 : Int32)) (j := 11) ⟨rfl, by decide⟩ (by decide))
          · show ((own_dg (Int64.ofNat N) (10 : Int32)).toUInt32.toUInt16.toUInt32.toInt32) = _
            exact (own_dgc (T := TT) hN hT (k := (10 : Int32)) (j := 10) ⟨rfl, by decide⟩ (by decide))
          · show ((own_dg (Int64.ofNat N) (9 : Int32)).toUInt32.toUInt16.toUInt32.toInt32) = _
            exact (own_dgc (T := TT) hN hT (k := (9 : Int32)) (j := 9) ⟨rfl, by decide⟩ (by decide))
          · show ((own_dg (Int64.ofNat N) (8 : Int32)).toUInt32.toUInt16.toUInt32.toInt32) = _
            exact (own_dgc (T := TT) hN hT (k := (8 : Int32)) (j := 8) ⟨rfl, by decide⟩ (by decide))
          · show ((own_dg (Int64.ofNat N) (7 : Int32)).toUInt32.toUInt16.toUInt32.toInt32) = _
            exact (own_dgc (T := TT) hN hT (k := (7 : Int32)) (j := 7) ⟨rfl, by decide⟩ (by decide))
          · show ((own_dg (Int64.ofNat N) (6 : Int32)).toUInt32.toUInt16.toUInt32.toInt32) = _
            exact (own_dgc (T := TT) hN hT (k := (6 : Int32)) (j := 6) ⟨rfl, by decide⟩ (by decide))
          · show ((own_dg (Int64.ofNat N) (5 : Int32)).toUInt32.toUInt16.toUInt32.toInt32) = _
            exact (own_dgc (T := TT) hN hT (k := (5 : Int32)) (j := 5) ⟨rfl, by decide⟩ (by decide))
          · show ((own_dg (Int64.ofNat N) (4 : Int32)).toUInt32.toUInt16.toUInt32.toInt32) = _
            exact (own_dgc (T := TT) hN hT (k := (4 : Int32)) (j := 4) ⟨rfl, by decide⟩ (by decide))
          · show ((own_dg (Int64.ofNat N) (3 : Int32)).toUInt32.toUInt16.toUInt32.toInt32) = _
            exact (own_dgc (T := TT) hN hT (k := (3 : Int32)) (j := 3) ⟨rfl, by decide⟩ (by decide))
          · show ((own_dg (Int64.ofNat N) (2 : Int32)).toUInt32.toUInt16.toUInt32.toInt32) = _
            exact (own_dgc (T := TT) hN hT (k := (2 : Int32)) (j := 2) ⟨rfl, by decide⟩ (by decide))
          · show ((own_dg (Int64.ofNat N) (1 : Int32)).toUInt32.toUInt16.toUInt32.toInt32) = _
            exact (own_dgc (T := TT) hN hT (k := (1 : Int32)) (j := 1) ⟨rfl, by decide⟩ (by decide))
          · show ((own_dg (Int64.ofNat N) (0 : Int32)).toUInt32.toUInt16.toUInt32.toInt32) = _
            exact (own_dgc (T := TT) hN hT (k := (0 : Int32)) (j := 0) ⟨rfl, by decide⟩ (by decide))
          · show ((((48 : Int32) + (tt / (10 : Int32))).toUInt32.toUInt16.toUInt32.toInt32).toUInt32.toUInt16.toUInt32.toInt32) = _
            exact (own_t18 (N := N) htt hT)
          · show ((((48 : Int32) + (tt % (10 : Int32))).toUInt32.toUInt16.toUInt32.toInt32).toUInt32.toUInt16.toUInt32.toInt32) = _
            exact (own_t19 (N := N) htt hT)
        obtain ⟨_, _, ⟨T86, L86, k86, n86⟩, -, X86, ⟨Lc86, hQ86, l86, y86, z86⟩, st86⟩ := Jvm.LawKit.callS X85 hx (y := (⟨"com/example/version_parser/versionparser/DecimalDigits", "value", "(Ljava/lang/String;II)J"⟩ : MethodName)) hown (mvT hZ (hw _ (List.mem_of_getElem? (i := 65) rfl))) (mvT hZ (hw _ (List.mem_of_getElem? (i := 66) rfl))) (mvT hZ (hw _ (List.mem_of_getElem? (i := 67) rfl))) (mvT hZ (hw _ (List.mem_of_getElem? (i := 68) rfl))) (by decide) (backOf (W := 0) (own_m_dv l Z a0 hw [] (b70) (ss) (ee) (by71) (kb71) ([((own_dg (Int64.ofNat N) (17 : Int32)).toUInt32.toUInt16.toUInt32.toInt32), ((own_dg (Int64.ofNat N) (16 : Int32)).toUInt32.toUInt16.toUInt32.toInt32), ((own_dg (Int64.ofNat N) (15 : Int32)).toUInt32.toUInt16.toUInt32.toInt32), ((own_dg (Int64.ofNat N) (14 : Int32)).toUInt32.toUInt16.toUInt32.toInt32), ((own_dg (Int64.ofNat N) (13 : Int32)).toUInt32.toUInt16.toUInt32.toInt32), ((own_dg (Int64.ofNat N) (12 : Int32)).toUInt32.toUInt16.toUInt32.toInt32), ((own_dg (Int64.ofNat N) (11 : Int32)).toUInt32.toUInt16.toUInt32.toInt32), ((own_dg (Int64.ofNat N) (10 : Int32)).toUInt32.toUInt16.toUInt32.toInt32), ((own_dg (Int64.ofNat N) (9 : Int32)).toUInt32.toUInt16.toUInt32.toInt32), ((own_dg (Int64.ofNat N) (8 : Int32)).toUInt32.toUInt16.toUInt32.toInt32), ((own_dg (Int64.ofNat N) (7 : Int32)).toUInt32.toUInt16.toUInt32.toInt32), ((own_dg (Int64.ofNat N) (6 : Int32)).toUInt32.toUInt16.toUInt32.toInt32), ((own_dg (Int64.ofNat N) (5 : Int32)).toUInt32.toUInt16.toUInt32.toInt32), ((own_dg (Int64.ofNat N) (4 : Int32)).toUInt32.toUInt16.toUInt32.toInt32), ((own_dg (Int64.ofNat N) (3 : Int32)).toUInt32.toUInt16.toUInt32.toInt32), ((own_dg (Int64.ofNat N) (2 : Int32)).toUInt32.toUInt16.toUInt32.toInt32), ((own_dg (Int64.ofNat N) (1 : Int32)).toUInt32.toUInt16.toUInt32.toInt32), ((own_dg (Int64.ofNat N) (0 : Int32)).toUInt32.toUInt16.toUInt32.toInt32), ((((48 : Int32) + (tt / (10 : Int32))).toUInt32.toUInt16.toUInt32.toInt32).toUInt32.toUInt16.toUInt32.toInt32), ((((48 : Int32) + (tt % (10 : Int32))).toUInt32.toUInt16.toUInt32.toInt32).toUInt32.toUInt16.toUInt32.toInt32)]) ((N * 100 + TT)) (SS) (EE) (cz) (fm) T85.heap n0 (Nat.le_trans Z0 K85.1) f85_3 f85_5 f85_4 f85_6 f85_0 f85_1 hcz hfm rfl hdig85 hlat71 hss hee hSE hE) hZ (hw _ (List.mem_of_getElem? (i := 68) rfl)) (hw _ (List.mem_of_getElem? (i := 67) rfl)) (by decide) (by decide)) (g := (mkF m 428 #[.val (.long p1), .second, .val (.int p2), .val (.int p3), .val (.int p4), .val (.long (Int64.ofNat N)), .second, .val (.int tt), .val (.ref b27), .val (.ref b70), .val (.int ss), .val (.int ee), .val (.long (((0 : Int64) * (own_p10 tl)) + (own_lrem ((tt.toInt64) / (own_p10 ((20 : Int32) - ee))) (own_p10 tl)))), .second, .val (.int e18v), .val (.int nl), .val (.long (0 : Int64)), .second, .val (.int tsv), .val (.int tl), .val (.long (own_lrem ((tt.toInt64) / (own_p10 ((20 : Int32) - ee))) (own_p10 tl))), .second] [(.int ee), (.int ss), (.ref b70)])) rfl (by rw [hml]; rfl) (argsL := [(.ref b70), (.int ss), (.int ee)]) (rest := []) (lenOf own_pd4 rfl) rfl (by show 2 * 0 + _ ≤ _; exact Nat.le_of_eq rfl) (hb hby at_428) (fun _ _ => ⟨rfl, rfl, (by decide : 24 + 0 ≤ _), (by decide : 443 + 0 ≤ _)⟩)
        dsimp only [Pt.U, Pt.locs, Pt.cells, Pt.slots] at X86 l86 y86 z86 st86 hQ86
        subst l86 y86 z86
        obtain ⟨rfl, Nq86, Kq86⟩ := hQ86
        have N86 := Fr.app N85 Nq86
        have f86_0 : Sta Z T86.heap "java/lang/String" "COMPACT_STRINGS" "Z" (.int cz) := own_sta_keep f85_0 Kq86 own_pl0
        have f86_1 : Sta Z T86.heap "jdk/internal/util/Preconditions" "SIOOBE_FORMATTER" "Ljava/util/function/BiFunction;" fm := own_sta_keep f85_1 Kq86 own_pl0
        have f86_2 : Arv Z T86.heap b27 k27 .char (20 : Int32) [(.int ((own_dg (Int64.ofNat N) (17 : Int32)).toUInt32.toUInt16.toUInt32.toInt32)), (.int ((own_dg (Int64.ofNat N) (16 : Int32)).toUInt32.toUInt16.toUInt32.toInt32)), (.int ((own_dg (Int64.ofNat N) (15 : Int32)).toUInt32.toUInt16.toUInt32.toInt32)), (.int ((own_dg (Int64.ofNat N) (14 : Int32)).toUInt32.toUInt16.toUInt32.toInt32)), (.int ((own_dg (Int64.ofNat N) (13 : Int32)).toUInt32.toUInt16.toUInt32.toInt32)), (.int ((own_dg (Int64.ofNat N) (12 : Int32)).toUInt32.toUInt16.toUInt32.toInt32)), (.int ((own_dg (Int64.ofNat N) (11 : Int32)).toUInt32.toUInt16.toUInt32.toInt32)), (.int ((own_dg (Int64.ofNat N) (10 : Int32)).toUInt32.toUInt16.toUInt32.toInt32)), (.int ((own_dg (Int64.ofNat N) (9 : Int32)).toUInt32.toUInt16.toUInt32.toInt32)), (.int ((own_dg (Int64.ofNat N) (8 : Int32)).toUInt32.toUInt16.toUInt32.toInt32)), (.int ((own_dg (Int64.ofNat N) (7 : Int32)).toUInt32.toUInt16.toUInt32.toInt32)), (.int ((own_dg (Int64.ofNat N) (6 : Int32)).toUInt32.toUInt16.toUInt32.toInt32)), (.int ((own_dg (Int64.ofNat N) (5 : Int32)).toUInt32.toUInt16.toUInt32.toInt32)), (.int ((own_dg (Int64.ofNat N) (4 : Int32)).toUInt32.toUInt16.toUInt32.toInt32)), (.int ((own_dg (Int64.ofNat N) (3 : Int32)).toUInt32.toUInt16.toUInt32.toInt32)), (.int ((own_dg (Int64.ofNat N) (2 : Int32)).toUInt32.toUInt16.toUInt32.toInt32)), (.int ((own_dg (Int64.ofNat N) (1 : Int32)).toUInt32.toUInt16.toUInt32.toInt32)), (.int ((own_dg (Int64.ofNat N) (0 : Int32)).toUInt32.toUInt16.toUInt32.toInt32)), (.int ((((48 : Int32) + (tt / (10 : Int32))).toUInt32.toUInt16.toUInt32.toInt32).toUInt32.toUInt16.toUInt32.toInt32)), (.int ((((48 : Int32) + (tt % (10 : Int32))).toUInt32.toUInt16.toUInt32.toInt32).toUInt32.toUInt16.toUInt32.toInt32))] (.int (0 : Int32)) := f85_2.keep Kq86 nin0
        have f86_3 : Exa Z T86.heap b70 "java/lang/String" := f85_3.keep Kq86
        have f86_4 : Fld Z T86.heap b70 "java/lang/String" "coder" "B" (.int (0 : Int32)) := f85_4.keep Kq86 nin0
        have f86_5 : Fld Z T86.heap b70 "java/lang/String" "value" "[B" (.ref by71) := f85_5.keep Kq86 nin0
        have f86_6 : Arv Z T86.heap by71 kb71 .byte (20 : Int32) [(.int (((own_dg (Int64.ofNat N) (17 : Int32)).toUInt32.toUInt16.toUInt32.toInt32)).toInt8.toInt32), (.int (((own_dg (Int64.ofNat N) (16 : Int32)).toUInt32.toUInt16.toUInt32.toInt32)).toInt8.toInt32), (.int (((own_dg (Int64.ofNat N) (15 : Int32)).toUInt32.toUInt16.toUInt32.toInt32)).toInt8.toInt32), (.int (((own_dg (Int64.ofNat N) (14 : Int32)).toUInt32.toUInt16.toUInt32.toInt32)).toInt8.toInt32), (.int (((own_dg (Int64.ofNat N) (13 : Int32)).toUInt32.toUInt16.toUInt32.toInt32)).toInt8.toInt32), (.int (((own_dg (Int64.ofNat N) (12 : Int32)).toUInt32.toUInt16.toUInt32.toInt32)).toInt8.toInt32), (.int (((own_dg (Int64.ofNat N) (11 : Int32)).toUInt32.toUInt16.toUInt32.toInt32)).toInt8.toInt32), (.int (((own_dg (Int64.ofNat N) (10 : Int32)).toUInt32.toUInt16.toUInt32.toInt32)).toInt8.toInt32), (.int (((own_dg (Int64.ofNat N) (9 : Int32)).toUInt32.toUInt16.toUInt32.toInt32)).toInt8.toInt32), (.int (((own_dg (Int64.ofNat N) (8 : Int32)).toUInt32.toUInt16.toUInt32.toInt32)).toInt8.toInt32), (.int (((own_dg (Int64.ofNat N) (7 : Int32)).toUInt32.toUInt16.toUInt32.toInt32)).toInt8.toInt32), (.int (((own_dg (Int64.ofNat N) (6 : Int32)).toUInt32.toUInt16.toUInt32.toInt32)).toInt8.toInt32), (.int (((own_dg (Int64.ofNat N) (5 : Int32)).toUInt32.toUInt16.toUInt32.toInt32)).toInt8.toInt32), (.int (((own_dg (Int64.ofNat N) (4 : Int32)).toUInt32.toUInt16.toUInt32.toInt32)).toInt8.toInt32), (.int (((own_dg (Int64.ofNat N) (3 : Int32)).toUInt32.toUInt16.toUInt32.toInt32)).toInt8.toInt32), (.int (((own_dg (Int64.ofNat N) (2 : Int32)).toUInt32.toUInt16.toUInt32.toInt32)).toInt8.toInt32), (.int (((own_dg (Int64.ofNat N) (1 : Int32)).toUInt32.toUInt16.toUInt32.toInt32)).toInt8.toInt32), (.int (((own_dg (Int64.ofNat N) (0 : Int32)).toUInt32.toUInt16.toUInt32.toInt32)).toInt8.toInt32), (.int (((((48 : Int32) + (tt / (10 : Int32))).toUInt32.toUInt16.toUInt32.toInt32).toUInt32.toUInt16.toUInt32.toInt32)).toInt8.toInt32), (.int (((((48 : Int32) + (tt % (10 : Int32))).toUInt32.toUInt16.toUInt32.toInt32).toUInt32.toUInt16.toUInt32.toInt32)).toInt8.toInt32)] (.int (0 : Int32)) := f85_6.keep Kq86 nin0
        have K86 : Keep h0 T86.heap [] := K85.trans Kq86 all0
        refine own_step (U' := (T86.setTop (mkF m 431 #[.val (.long p1), .second, .val (.int p2), .val (.int p3), .val (.int p4), .val (.long (Int64.ofNat N)), .second, .val (.int tt), .val (.ref b27), .val (.ref b70), .val (.int ss), .val (.int ee), .val (.long (((0 : Int64) * (own_p10 tl)) + (own_lrem ((tt.toInt64) / (own_p10 ((20 : Int32) - ee))) (own_p10 tl)))), .second, .val (.int e18v), .val (.int nl), .val (.long (0 : Int64)), .second, .val (.int tsv), .val (.int tl), .val (.long (own_lrem ((tt.toInt64) / (own_p10 ((20 : Int32) - ee))) (own_p10 tl))), .second] [(.long (own_vv (N * 100 + TT) SS EE))]))) (fun t ht => st86 _ ht) ?_
        refine own_step (U' := (T86.setTop (mkF m 433 #[.val (.long p1), .second, .val (.int p2), .val (.int p3), .val (.int p4), .val (.long (Int64.ofNat N)), .second, .val (.int tt), .val (.ref b27), .val (.ref b70), .val (.int ss), .val (.int ee), .val (.long (((0 : Int64) * (own_p10 tl)) + (own_lrem ((tt.toInt64) / (own_p10 ((20 : Int32) - ee))) (own_p10 tl)))), .second, .val (.long (own_vv (N * 100 + TT) SS EE)), .second, .val (.long (0 : Int64)), .second, .val (.int tsv), .val (.int tl), .val (.long (own_lrem ((tt.toInt64) / (own_p10 ((20 : Int32) - ee))) (own_p10 tl))), .second] []))) (fun t ht => XT.lstore X86.here hx rfl (hb hby at_431) rfl (l' := #[.val (.long p1), .second, .val (.int p2), .val (.int p3), .val (.int p4), .val (.long (Int64.ofNat N)), .second, .val (.int tt), .val (.ref b27), .val (.ref b70), .val (.int ss), .val (.int ee), .val (.long (((0 : Int64) * (own_p10 tl)) + (own_lrem ((tt.toInt64) / (own_p10 ((20 : Int32) - ee))) (own_p10 tl)))), .second, .val (.long (own_vv (N * 100 + TT) SS EE)), .second, .val (.long (0 : Int64)), .second, .val (.int tsv), .val (.int tl), .val (.long (own_lrem ((tt.toInt64) / (own_p10 ((20 : Int32) - ee))) (own_p10 tl))), .second]) rfl ht) ?_
        refine own_step (U' := (T86.setTop (mkF m 435 #[.val (.long p1), .second, .val (.int p2), .val (.int p3), .val (.int p4), .val (.long (Int64.ofNat N)), .second, .val (.int tt), .val (.ref b27), .val (.ref b70), .val (.int ss), .val (.int ee), .val (.long (((0 : Int64) * (own_p10 tl)) + (own_lrem ((tt.toInt64) / (own_p10 ((20 : Int32) - ee))) (own_p10 tl)))), .second, .val (.long (own_vv (N * 100 + TT) SS EE)), .second, .val (.long (0 : Int64)), .second, .val (.int tsv), .val (.int tl), .val (.long (own_lrem ((tt.toInt64) / (own_p10 ((20 : Int32) - ee))) (own_p10 tl))), .second] [(.long (own_vv (N * 100 + TT) SS EE))]))) (fun t ht => XT.lload X86.here hx rfl (hb hby at_433) rfl ht) ?_
        refine own_step (U' := (T86.setTop (mkF m 437 #[.val (.long p1), .second, .val (.int p2), .val (.int p3), .val (.int p4), .val (.long (Int64.ofNat N)), .second, .val (.int tt), .val (.ref b27), .val (.ref b70), .val (.int ss), .val (.int ee), .val (.long (((0 : Int64) * (own_p10 tl)) + (own_lrem ((tt.toInt64) / (own_p10 ((20 : Int32) - ee))) (own_p10 tl)))), .second, .val (.long (own_vv (N * 100 + TT) SS EE)), .second, .val (.long (0 : Int64)), .second, .val (.int tsv), .val (.int tl), .val (.long (own_lrem ((tt.toInt64) / (own_p10 ((20 : Int32) - ee))) (own_p10 tl))), .second] [(.long (((0 : Int64) * (own_p10 tl)) + (own_lrem ((tt.toInt64) / (own_p10 ((20 : Int32) - ee))) (own_p10 tl)))), (.long (own_vv (N * 100 + TT) SS EE))]))) (fun t ht => XT.lload X86.here hx rfl (hb hby at_435) rfl ht) ?_
        refine own_step (U' := (T86.setTop (mkF m 438 #[.val (.long p1), .second, .val (.int p2), .val (.int p3), .val (.int p4), .val (.long (Int64.ofNat N)), .second, .val (.int tt), .val (.ref b27), .val (.ref b70), .val (.int ss), .val (.int ee), .val (.long (((0 : Int64) * (own_p10 tl)) + (own_lrem ((tt.toInt64) / (own_p10 ((20 : Int32) - ee))) (own_p10 tl)))), .second, .val (.long (own_vv (N * 100 + TT) SS EE)), .second, .val (.long (0 : Int64)), .second, .val (.int tsv), .val (.int tl), .val (.long (own_lrem ((tt.toInt64) / (own_p10 ((20 : Int32) - ee))) (own_p10 tl))), .second] [(.int (XT.cmpL (own_vv (N * 100 + TT) SS EE) (((0 : Int64) * (own_p10 tl)) + (own_lrem ((tt.toInt64) / (own_p10 ((20 : Int32) - ee))) (own_p10 tl)))))]))) (fun t ht => XT.lcmp X86.here hx rfl (hb hby at_437) rfl ht) ?_
        refine own_step (U' := (T86.setTop (mkF m 441 #[.val (.long p1), .second, .val (.int p2), .val (.int p3), .val (.int p4), .val (.long (Int64.ofNat N)), .second, .val (.int tt), .val (.ref b27), .val (.ref b70), .val (.int ss), .val (.int ee), .val (.long (((0 : Int64) * (own_p10 tl)) + (own_lrem ((tt.toInt64) / (own_p10 ((20 : Int32) - ee))) (own_p10 tl)))), .second, .val (.long (own_vv (N * 100 + TT) SS EE)), .second, .val (.long (0 : Int64)), .second, .val (.int tsv), .val (.int tl), .val (.long (own_lrem ((tt.toInt64) / (own_p10 ((20 : Int32) - ee))) (own_p10 tl))), .second] []))) (fun t ht => XS.ifNo X86.here hx rfl (hb hby at_438) rfl (XT.ll_ne_f ((own_fin hT hSE hE (fun q => hc301_73 ((own_gt18 hss hee hSE hE).mpr q)) (by rw [if_pos ((own_nlz hnl).mp hc334_77)]; rfl) (by rw [if_neg (mt (own_nlz htl).mpr hc382_80), own_t64 htt hT]; exact own_part (by omega) (own_20B hee (by have := mt (own_nlz htl).mpr hc382_80; omega) hE) ⟨htl, by omega⟩) ⟨htl, by omega⟩) : (own_vv (N * 100 + TT) SS EE) = (((0 : Int64) * (own_p10 tl)) + (own_lrem ((tt.toInt64) / (own_p10 ((20 : Int32) - ee))) (own_p10 tl))))) ht) ?_
        refine own_step (U' := (T86.setTop (mkF m 442 #[.val (.long p1), .second, .val (.int p2), .val (.int p3), .val (.int p4), .val (.long (Int64.ofNat N)), .second, .val (.int tt), .val (.ref b27), .val (.ref b70), .val (.int ss), .val (.int ee), .val (.long (((0 : Int64) * (own_p10 tl)) + (own_lrem ((tt.toInt64) / (own_p10 ((20 : Int32) - ee))) (own_p10 tl)))), .second, .val (.long (own_vv (N * 100 + TT) SS EE)), .second, .val (.long (0 : Int64)), .second, .val (.int tsv), .val (.int tl), .val (.long (own_lrem ((tt.toInt64) / (own_p10 ((20 : Int32) - ee))) (own_p10 tl))), .second] [(.int (1 : Int32))]))) (fun t ht => XS.iconst X86.here hx rfl (hb hby at_441) ht) ?_
        refine own_step (U' := (T86.setTop (mkF m 446 #[.val (.long p1), .second, .val (.int p2), .val (.int p3), .val (.int p4), .val (.long (Int64.ofNat N)), .second, .val (.int tt), .val (.ref b27), .val (.ref b70), .val (.int ss), .val (.int ee), .val (.long (((0 : Int64) * (own_p10 tl)) + (own_lrem ((tt.toInt64) / (own_p10 ((20 : Int32) - ee))) (own_p10 tl)))), .second, .val (.long (own_vv (N * 100 + TT) SS EE)), .second, .val (.long (0 : Int64)), .second, .val (.int tsv), .val (.int tl), .val (.long (own_lrem ((tt.toInt64) / (own_p10 ((20 : Int32) - ee))) (own_p10 tl))), .second] [(.int (1 : Int32))]))) (fun t ht => XS.goto X86.here hx rfl (pc0 := 442) (pc' := 446) rfl (hb hby at_442) (by decide) (by decide) ht) ?_
        refine own_ret X86 (v := (some (.int (nar .boolean (1 : Int32))))) (fun h => by rw [Bd.returns] at h; cases h) Bd.notSynchronized (by decide) (by decide) ?_ (fun fs hr => retN X86 hx (t := .boolean) Bd.returns (by simp) (hb hby at_446) hr)
        show own_Q_law Z p1 p2 p3 p4 cz fm h0 n0 _ T86.heap _
        show own_Q_law Z p1 p2 p3 p4 cz fm h0 n0 _ T86.heap _
        exact ⟨rfl, N86⟩
    ·
      refine own_step (U' := (T76.setTop (mkF m 341 #[.val (.long p1), .second, .val (.int p2), .val (.int p3), .val (.int p4), .val (.long (Int64.ofNat N)), .second, .val (.int tt), .val (.ref b27), .val (.ref b70), .val (.int ss), .val (.int ee), .unset, .unset, .val (.int e18v), .val (.int nl), .unset, .unset, .unset, .unset, .unset, .unset] []))) (fun t ht => XS.ifYes X76.here hx rfl (pc0 := 334) (pc' := 341) rfl (hb hby at_334) rfl (XT.i0_ne_t hc334_77) (by decide) (by decide) ht) ?_
      refine own_step (U' := (T76.setTop (mkF m 343 #[.val (.long p1), .second, .val (.int p2), .val (.int p3), .val (.int p4), .val (.long (Int64.ofNat N)), .second, .val (.int tt), .val (.ref b27), .val (.ref b70), .val (.int ss), .val (.int ee), .unset, .unset, .val (.int e18v), .val (.int nl), .unset, .unset, .unset, .unset, .unset, .unset] [(.long (Int64.ofNat N))]))) (fun t ht => XT.lload X76.here hx rfl (hb hby at_341) rfl ht) ?_
      refine own_step (U' := (T76.setTop (mkF m 345 #[.val (.long p1), .second, .val (.int p2), .val (.int p3), .val (.int p4), .val (.long (Int64.ofNat N)), .second, .val (.int tt), .val (.ref b27), .val (.ref b70), .val (.int ss), .val (.int ee), .unset, .unset, .val (.int e18v), .val (.int nl), .unset, .unset, .unset, .unset, .unset, .unset] [(.int (18 : Int32)), (.long (Int64.ofNat N))]))) (fun t ht => XS.bipush X76.here hx rfl (hb hby at_343) ht) ?_
      refine own_step (U' := (T76.setTop (mkF m 347 #[.val (.long p1), .second, .val (.int p2), .val (.int p3), .val (.int p4), .val (.long (Int64.ofNat N)), .second, .val (.int tt), .val (.ref b27), .val (.ref b70), .val (.int ss), .val (.int ee), .unset, .unset, .val (.int e18v), .val (.int nl), .unset, .unset, .unset, .unset, .unset, .unset] [(.int e18v), (.int (18 : Int32)), (.long (Int64.ofNat N))]))) (fun t ht => XS.iload X76.here hx rfl (hb hby at_345) rfl ht) ?_
      refine own_step (U' := (T76.setTop (mkF m 348 #[.val (.long p1), .second, .val (.int p2), .val (.int p3), .val (.int p4), .val (.long (Int64.ofNat N)), .second, .val (.int tt), .val (.ref b27), .val (.ref b70), .val (.int ss), .val (.int ee), .unset, .unset, .val (.int e18v), .val (.int nl), .unset, .unset, .unset, .unset, .unset, .unset] [(.int ((18 : Int32) - e18v)), (.long (Int64.ofNat N))]))) (fun t ht => XS.isub X76.here hx rfl (hb hby at_347) rfl ht) ?_
      obtain ⟨_, _, ⟨T87, L87, k87, n87⟩, -, X87, ⟨Lc87, hQ87, l87, y87, z87⟩, st87⟩ := Jvm.LawKit.callS X76 hx (y := (⟨"com/example/version_parser/versionparser/DecimalDigitsValuePinLaw", "pow10", "(I)J"⟩ : MethodName)) hown (mvT hZ (hw _ (List.mem_of_getElem? (i := 8) rfl))) (mvT hZ (hw _ (List.mem_of_getElem? (i := 9) rfl))) (mvT hZ (hw _ (List.mem_of_getElem? (i := 6) rfl))) (mvT hZ (hw _ (List.mem_of_getElem? (i := 10) rfl))) (by decide) (backOf (W := 2) (own_m_p10 l Z a0 hw [] (((18 : Int32) - e18v)) (18 - min EE 18) T71.heap n0 (Nat.le_trans Z0 K71.1) (own_18B he18 (by omega))) hZ (hw _ (List.mem_of_getElem? (i := 10) rfl)) (hw _ (List.mem_of_getElem? (i := 6) rfl)) (by decide) (by decide)) (g := (mkF m 348 #[.val (.long p1), .second, .val (.int p2), .val (.int p3), .val (.int p4), .val (.long (Int64.ofNat N)), .second, .val (.int tt), .val (.ref b27), .val (.ref b70), .val (.int ss), .val (.int ee), .unset, .unset, .val (.int e18v), .val (.int nl), .unset, .unset, .unset, .unset, .unset, .unset] [(.int ((18 : Int32) - e18v)), (.long (Int64.ofNat N))])) rfl (by rw [hml]; rfl) (argsL := [(.int ((18 : Int32) - e18v))]) (rest := [(.long (Int64.ofNat N))]) (lenOf own_pd0 rfl) rfl (by show 2 * 0 + _ ≤ _; exact Nat.le_of_eq rfl) (hb hby at_348) (fun _ _ => ⟨rfl, e76, (by decide : 21 + 1 ≤ _), (by decide : 386 + 19 ≤ _)⟩)
      dsimp only [Pt.U, Pt.locs, Pt.cells, Pt.slots] at X87 l87 y87 z87 st87 hQ87
      subst l87 y87 z87
      obtain ⟨rfl, Nq87, Kq87⟩ := hQ87
      have N87 := Fr.app N76 Nq87
      have f87_0 : Sta Z T87.heap "java/lang/String" "COMPACT_STRINGS" "Z" (.int cz) := own_sta_keep f71_0 Kq87 own_pl0
      have f87_1 : Sta Z T87.heap "jdk/internal/util/Preconditions" "SIOOBE_FORMATTER" "Ljava/util/function/BiFunction;" fm := own_sta_keep f71_1 Kq87 own_pl0
      have f87_2 : Arv Z T87.heap b27 k27 .char (20 : Int32) [(.int ((own_dg (Int64.ofNat N) (17 : Int32)).toUInt32.toUInt16.toUInt32.toInt32)), (.int ((own_dg (Int64.ofNat N) (16 : Int32)).toUInt32.toUInt16.toUInt32.toInt32)), (.int ((own_dg (Int64.ofNat N) (15 : Int32)).toUInt32.toUInt16.toUInt32.toInt32)), (.int ((own_dg (Int64.ofNat N) (14 : Int32)).toUInt32.toUInt16.toUInt32.toInt32)), (.int ((own_dg (Int64.ofNat N) (13 : Int32)).toUInt32.toUInt16.toUInt32.toInt32)), (.int ((own_dg (Int64.ofNat N) (12 : Int32)).toUInt32.toUInt16.toUInt32.toInt32)), (.int ((own_dg (Int64.ofNat N) (11 : Int32)).toUInt32.toUInt16.toUInt32.toInt32)), (.int ((own_dg (Int64.ofNat N) (10 : Int32)).toUInt32.toUInt16.toUInt32.toInt32)), (.int ((own_dg (Int64.ofNat N) (9 : Int32)).toUInt32.toUInt16.toUInt32.toInt32)), (.int ((own_dg (Int64.ofNat N) (8 : Int32)).toUInt32.toUInt16.toUInt32.toInt32)), (.int ((own_dg (Int64.ofNat N) (7 : Int32)).toUInt32.toUInt16.toUInt32.toInt32)), (.int ((own_dg (Int64.ofNat N) (6 : Int32)).toUInt32.toUInt16.toUInt32.toInt32)), (.int ((own_dg (Int64.ofNat N) (5 : Int32)).toUInt32.toUInt16.toUInt32.toInt32)), (.int ((own_dg (Int64.ofNat N) (4 : Int32)).toUInt32.toUInt16.toUInt32.toInt32)), (.int ((own_dg (Int64.ofNat N) (3 : Int32)).toUInt32.toUInt16.toUInt32.toInt32)), (.int ((own_dg (Int64.ofNat N) (2 : Int32)).toUInt32.toUInt16.toUInt32.toInt32)), (.int ((own_dg (Int64.ofNat N) (1 : Int32)).toUInt32.toUInt16.toUInt32.toInt32)), (.int ((own_dg (Int64.ofNat N) (0 : Int32)).toUInt32.toUInt16.toUInt32.toInt32)), (.int ((((48 : Int32) + (tt / (10 : Int32))).toUInt32.toUInt16.toUInt32.toInt32).toUInt32.toUInt16.toUInt32.toInt32)), (.int ((((48 : Int32) + (tt % (10 : Int32))).toUInt32.toUInt16.toUInt32.toInt32).toUInt32.toUInt16.toUInt32.toInt32))] (.int (0 : Int32)) := f71_2.keep Kq87 nin0
      have f87_3 : Exa Z T87.heap b70 "java/lang/String" := f71_3.keep Kq87
      have f87_4 : Fld Z T87.heap b70 "java/lang/String" "coder" "B" (.int (0 : Int32)) := Cq71.keep Kq87 nin0
      have f87_5 : Fld Z T87.heap b70 "java/lang/String" "value" "[B" (.ref by71) := Vq71.keep Kq87 nin0
      have f87_6 : Arv Z T87.heap by71 kb71 .byte (20 : Int32) [(.int (((own_dg (Int64.ofNat N) (17 : Int32)).toUInt32.toUInt16.toUInt32.toInt32)).toInt8.toInt32), (.int (((own_dg (Int64.ofNat N) (16 : Int32)).toUInt32.toUInt16.toUInt32.toInt32)).toInt8.toInt32), (.int (((own_dg (Int64.ofNat N) (15 : Int32)).toUInt32.toUInt16.toUInt32.toInt32)).toInt8.toInt32), (.int (((own_dg (Int64.ofNat N) (14 : Int32)).toUInt32.toUInt16.toUInt32.toInt32)).toInt8.toInt32), (.int (((own_dg (Int64.ofNat N) (13 : Int32)).toUInt32.toUInt16.toUInt32.toInt32)).toInt8.toInt32), (.int (((own_dg (Int64.ofNat N) (12 : Int32)).toUInt32.toUInt16.toUInt32.toInt32)).toInt8.toInt32), (.int (((own_dg (Int64.ofNat N) (11 : Int32)).toUInt32.toUInt16.toUInt32.toInt32)).toInt8.toInt32), (.int (((own_dg (Int64.ofNat N) (10 : Int32)).toUInt32.toUInt16.toUInt32.toInt32)).toInt8.toInt32), (.int (((own_dg (Int64.ofNat N) (9 : Int32)).toUInt32.toUInt16.toUInt32.toInt32)).toInt8.toInt32), (.int (((own_dg (Int64.ofNat N) (8 : Int32)).toUInt32.toUInt16.toUInt32.toInt32)).toInt8.toInt32), (.int (((own_dg (Int64.ofNat N) (7 : Int32)).toUInt32.toUInt16.toUInt32.toInt32)).toInt8.toInt32), (.int (((own_dg (Int64.ofNat N) (6 : Int32)).toUInt32.toUInt16.toUInt32.toInt32)).toInt8.toInt32), (.int (((own_dg (Int64.ofNat N) (5 : Int32)).toUInt32.toUInt16.toUInt32.toInt32)).toInt8.toInt32), (.int (((own_dg (Int64.ofNat N) (4 : Int32)).toUInt32.toUInt16.toUInt32.toInt32)).toInt8.toInt32), (.int (((own_dg (Int64.ofNat N) (3 : Int32)).toUInt32.toUInt16.toUInt32.toInt32)).toInt8.toInt32), (.int (((own_dg (Int64.ofNat N) (2 : Int32)).toUInt32.toUInt16.toUInt32.toInt32)).toInt8.toInt32), (.int (((own_dg (Int64.ofNat N) (1 : Int32)).toUInt32.toUInt16.toUInt32.toInt32)).toInt8.toInt32), (.int (((own_dg (Int64.ofNat N) (0 : Int32)).toUInt32.toUInt16.toUInt32.toInt32)).toInt8.toInt32), (.int (((((48 : Int32) + (tt / (10 : Int32))).toUInt32.toUInt16.toUInt32.toInt32).toUInt32.toUInt16.toUInt32.toInt32)).toInt8.toInt32), (.int (((((48 : Int32) + (tt % (10 : Int32))).toUInt32.toUInt16.toUInt32.toInt32).toUInt32.toUInt16.toUInt32.toInt32)).toInt8.toInt32)] (.int (0 : Int32)) := Aq71.keep Kq87 nin0
      have K87 : Keep h0 T87.heap [] := K71.trans Kq87 all0
      refine own_step (U' := (T87.setTop (mkF m 351 #[.val (.long p1), .second, .val (.int p2), .val (.int p3), .val (.int p4), .val (.long (Int64.ofNat N)), .second, .val (.int tt), .val (.ref b27), .val (.ref b70), .val (.int ss), .val (.int ee), .unset, .unset, .val (.int e18v), .val (.int nl), .unset, .unset, .unset, .unset, .unset, .unset] [(.long (own_p10 ((18 : Int32) - e18v))), (.long (Int64.ofNat N))]))) (fun t ht => st87 _ ht) ?_
      refine own_step (U' := (T87.setTop (mkF m 352 #[.val (.long p1), .second, .val (.int p2), .val (.int p3), .val (.int p4), .val (.long (Int64.ofNat N)), .second, .val (.int tt), .val (.ref b27), .val (.ref b70), .val (.int ss), .val (.int ee), .unset, .unset, .val (.int e18v), .val (.int nl), .unset, .unset, .unset, .unset, .unset, .unset] [(.long ((Int64.ofNat N) / (own_p10 ((18 : Int32) - e18v))))]))) (fun t ht => XT.ldiv X87.here hx rfl (hb hby at_351) rfl (own_p10_nz (own_18B he18 (by omega))) ht) ?_
      refine own_step (U' := (T87.setTop (mkF m 354 #[.val (.long p1), .second, .val (.int p2), .val (.int p3), .val (.int p4), .val (.long (Int64.ofNat N)), .second, .val (.int tt), .val (.ref b27), .val (.ref b70), .val (.int ss), .val (.int ee), .unset, .unset, .val (.int e18v), .val (.int nl), .unset, .unset, .unset, .unset, .unset, .unset] [(.int nl), (.long ((Int64.ofNat N) / (own_p10 ((18 : Int32) - e18v))))]))) (fun t ht => XS.iload X87.here hx rfl (hb hby at_352) rfl ht) ?_
      obtain ⟨_, _, ⟨T88, L88, k88, n88⟩, -, X88, ⟨Lc88, hQ88, l88, y88, z88⟩, st88⟩ := Jvm.LawKit.callS X87 hx (y := (⟨"com/example/version_parser/versionparser/DecimalDigitsValuePinLaw", "pow10", "(I)J"⟩ : MethodName)) hown (mvT hZ (hw _ (List.mem_of_getElem? (i := 8) rfl))) (mvT hZ (hw _ (List.mem_of_getElem? (i := 9) rfl))) (mvT hZ (hw _ (List.mem_of_getElem? (i := 6) rfl))) (mvT hZ (hw _ (List.mem_of_getElem? (i := 10) rfl))) (by decide) (backOf (W := 2) (own_m_p10 l Z a0 hw [] (nl) (min EE 18 - SS) T87.heap n0 (Nat.le_trans Z0 K87.1) ⟨hnl, by omega⟩) hZ (hw _ (List.mem_of_getElem? (i := 10) rfl)) (hw _ (List.mem_of_getElem? (i := 6) rfl)) (by decide) (by decide)) (g := (mkF m 354 #[.val (.long p1), .second, .val (.int p2), .val (.int p3), .val (.int p4), .val (.long (Int64.ofNat N)), .second, .val (.int tt), .val (.ref b27), .val (.ref b70), .val (.int ss), .val (.int ee), .unset, .unset, .val (.int e18v), .val (.int nl), .unset, .unset, .unset, .unset, .unset, .unset] [(.int nl), (.long ((Int64.ofNat N) / (own_p10 ((18 : Int32) - e18v))))])) rfl (by rw [hml]; rfl) (argsL := [(.int nl)]) (rest := [(.long ((Int64.ofNat N) / (own_p10 ((18 : Int32) - e18v))))]) (lenOf own_pd0 rfl) rfl (by show 2 * 0 + _ ≤ _; exact Nat.le_of_eq rfl) (hb hby at_354) (fun _ _ => ⟨rfl, rfl, (by decide : 22 + 1 ≤ _), (by decide : 405 + 19 ≤ _)⟩)
      dsimp only [Pt.U, Pt.locs, Pt.cells, Pt.slots] at X88 l88 y88 z88 st88 hQ88
      subst l88 y88 z88
      obtain ⟨rfl, Nq88, Kq88⟩ := hQ88
      have N88 := Fr.app N87 Nq88
      have f88_0 : Sta Z T88.heap "java/lang/String" "COMPACT_STRINGS" "Z" (.int cz) := own_sta_keep f87_0 Kq88 own_pl0
      have f88_1 : Sta Z T88.heap "jdk/internal/util/Preconditions" "SIOOBE_FORMATTER" "Ljava/util/function/BiFunction;" fm := own_sta_keep f87_1 Kq88 own_pl0
      have f88_2 : Arv Z T88.heap b27 k27 .char (20 : Int32) [(.int ((own_dg (Int64.ofNat N) (17 : Int32)).toUInt32.toUInt16.toUInt32.toInt32)), (.int ((own_dg (Int64.ofNat N) (16 : Int32)).toUInt32.toUInt16.toUInt32.toInt32)), (.int ((own_dg (Int64.ofNat N) (15 : Int32)).toUInt32.toUInt16.toUInt32.toInt32)), (.int ((own_dg (Int64.ofNat N) (14 : Int32)).toUInt32.toUInt16.toUInt32.toInt32)), (.int ((own_dg (Int64.ofNat N) (13 : Int32)).toUInt32.toUInt16.toUInt32.toInt32)), (.int ((own_dg (Int64.ofNat N) (12 : Int32)).toUInt32.toUInt16.toUInt32.toInt32)), (.int ((own_dg (Int64.ofNat N) (11 : Int32)).toUInt32.toUInt16.toUInt32.toInt32)), (.int ((own_dg (Int64.ofNat N) (10 : Int32)).toUInt32.toUInt16.toUInt32.toInt32)), (.int ((own_dg (Int64.ofNat N) (9 : Int32)).toUInt32.toUInt16.toUInt32.toInt32)), (.int ((own_dg (Int64.ofNat N) (8 : Int32)).toUInt32.toUInt16.toUInt32.toInt32)), (.int ((own_dg (Int64.ofNat N) (7 : Int32)).toUInt32.toUInt16.toUInt32.toInt32)), (.int ((own_dg (Int64.ofNat N) (6 : Int32)).toUInt32.toUInt16.toUInt32.toInt32)), (.int ((own_dg (Int64.ofNat N) (5 : Int32)).toUInt32.toUInt16.toUInt32.toInt32)), (.int ((own_dg (Int64.ofNat N) (4 : Int32)).toUInt32.toUInt16.toUInt32.toInt32)), (.int ((own_dg (Int64.ofNat N) (3 : Int32)).toUInt32.toUInt16.toUInt32.toInt32)), (.int ((own_dg (Int64.ofNat N) (2 : Int32)).toUInt32.toUInt16.toUInt32.toInt32)), (.int ((own_dg (Int64.ofNat N) (1 : Int32)).toUInt32.toUInt16.toUInt32.toInt32)), (.int ((own_dg (Int64.ofNat N) (0 : Int32)).toUInt32.toUInt16.toUInt32.toInt32)), (.int ((((48 : Int32) + (tt / (10 : Int32))).toUInt32.toUInt16.toUInt32.toInt32).toUInt32.toUInt16.toUInt32.toInt32)), (.int ((((48 : Int32) + (tt % (10 : Int32))).toUInt32.toUInt16.toUInt32.toInt32).toUInt32.toUInt16.toUInt32.toInt32))] (.int (0 : Int32)) := f87_2.keep Kq88 nin0
      have f88_3 : Exa Z T88.heap b70 "java/lang/String" := f87_3.keep Kq88
      have f88_4 : Fld Z T88.heap b70 "java/lang/String" "coder" "B" (.int (0 : Int32)) := f87_4.keep Kq88 nin0
      have f88_5 : Fld Z T88.heap b70 "java/lang/String" "value" "[B" (.ref by71) := f87_5.keep Kq88 nin0
      have f88_6 : Arv Z T88.heap by71 kb71 .byte (20 : Int32) [(.int (((own_dg (Int64.ofNat N) (17 : Int32)).toUInt32.toUInt16.toUInt32.toInt32)).toInt8.toInt32), (.int (((own_dg (Int64.ofNat N) (16 : Int32)).toUInt32.toUInt16.toUInt32.toInt32)).toInt8.toInt32), (.int (((own_dg (Int64.ofNat N) (15 : Int32)).toUInt32.toUInt16.toUInt32.toInt32)).toInt8.toInt32), (.int (((own_dg (Int64.ofNat N) (14 : Int32)).toUInt32.toUInt16.toUInt32.toInt32)).toInt8.toInt32), (.int (((own_dg (Int64.ofNat N) (13 : Int32)).toUInt32.toUInt16.toUInt32.toInt32)).toInt8.toInt32), (.int (((own_dg (Int64.ofNat N) (12 : Int32)).toUInt32.toUInt16.toUInt32.toInt32)).toInt8.toInt32), (.int (((own_dg (Int64.ofNat N) (11 : Int32)).toUInt32.toUInt16.toUInt32.toInt32)).toInt8.toInt32), (.int (((own_dg (Int64.ofNat N) (10 : Int32)).toUInt32.toUInt16.toUInt32.toInt32)).toInt8.toInt32), (.int (((own_dg (Int64.ofNat N) (9 : Int32)).toUInt32.toUInt16.toUInt32.toInt32)).toInt8.toInt32), (.int (((own_dg (Int64.ofNat N) (8 : Int32)).toUInt32.toUInt16.toUInt32.toInt32)).toInt8.toInt32), (.int (((own_dg (Int64.ofNat N) (7 : Int32)).toUInt32.toUInt16.toUInt32.toInt32)).toInt8.toInt32), (.int (((own_dg (Int64.ofNat N) (6 : Int32)).toUInt32.toUInt16.toUInt32.toInt32)).toInt8.toInt32), (.int (((own_dg (Int64.ofNat N) (5 : Int32)).toUInt32.toUInt16.toUInt32.toInt32)).toInt8.toInt32), (.int (((own_dg (Int64.ofNat N) (4 : Int32)).toUInt32.toUInt16.toUInt32.toInt32)).toInt8.toInt32), (.int (((own_dg (Int64.ofNat N) (3 : Int32)).toUInt32.toUInt16.toUInt32.toInt32)).toInt8.toInt32), (.int (((own_dg (Int64.ofNat N) (2 : Int32)).toUInt32.toUInt16.toUInt32.toInt32)).toInt8.toInt32), (.int (((own_dg (Int64.ofNat N) (1 : Int32)).toUInt32.toUInt16.toUInt32.toInt32)).toInt8.toInt32), (.int (((own_dg (Int64.ofNat N) (0 : Int32)).toUInt32.toUInt16.toUInt32.toInt32)).toInt8.toInt32), (.int (((((48 : Int32) + (tt / (10 : Int32))).toUInt32.toUInt16.toUInt32.toInt32).toUInt32.toUInt16.toUInt32.toInt32)).toInt8.toInt32), (.int (((((48 : Int32) + (tt % (10 : Int32))).toUInt32.toUInt16.toUInt32.toInt32).toUInt32.toUInt16.toUInt32.toInt32)).toInt8.toInt32)] (.int (0 : Int32)) := f87_6.keep Kq88 nin0
      have K88 : Keep h0 T88.heap [] := K87.trans Kq88 all0
      refine own_step (U' := (T88.setTop (mkF m 357 #[.val (.long p1), .second, .val (.int p2), .val (.int p3), .val (.int p4), .val (.long (Int64.ofNat N)), .second, .val (.int tt), .val (.ref b27), .val (.ref b70), .val (.int ss), .val (.int ee), .unset, .unset, .val (.int e18v), .val (.int nl), .unset, .unset, .unset, .unset, .unset, .unset] [(.long (own_p10 nl)), (.long ((Int64.ofNat N) / (own_p10 ((18 : Int32) - e18v))))]))) (fun t ht => st88 _ ht) ?_
      refine own_step (U' := (T88.setTop (mkF m 358 #[.val (.long p1), .second, .val (.int p2), .val (.int p3), .val (.int p4), .val (.long (Int64.ofNat N)), .second, .val (.int tt), .val (.ref b27), .val (.ref b70), .val (.int ss), .val (.int ee), .unset, .unset, .val (.int e18v), .val (.int nl), .unset, .unset, .unset, .unset, .unset, .unset] [(.long (own_lrem ((Int64.ofNat N) / (own_p10 ((18 : Int32) - e18v))) (own_p10 nl)))]))) (fun t ht => XT.lrem X88.here hx rfl (hb hby at_357) rfl (own_p10_nz (j := min EE 18 - SS) ⟨hnl, by omega⟩) ht) ?_
      refine own_step (U' := (T88.setTop (mkF m 360 #[.val (.long p1), .second, .val (.int p2), .val (.int p3), .val (.int p4), .val (.long (Int64.ofNat N)), .second, .val (.int tt), .val (.ref b27), .val (.ref b70), .val (.int ss), .val (.int ee), .unset, .unset, .val (.int e18v), .val (.int nl), .val (.long (own_lrem ((Int64.ofNat N) / (own_p10 ((18 : Int32) - e18v))) (own_p10 nl))), .second, .unset, .unset, .unset, .unset] []))) (fun t ht => XT.lstore X88.here hx rfl (hb hby at_358) rfl (l' := #[.val (.long p1), .second, .val (.int p2), .val (.int p3), .val (.int p4), .val (.long (Int64.ofNat N)), .second, .val (.int tt), .val (.ref b27), .val (.ref b70), .val (.int ss), .val (.int ee), .unset, .unset, .val (.int e18v), .val (.int nl), .val (.long (own_lrem ((Int64.ofNat N) / (own_p10 ((18 : Int32) - e18v))) (own_p10 nl))), .second, .unset, .unset, .unset, .unset]) rfl ht) ?_
      refine own_step (U' := (T88.setTop (mkF m 362 #[.val (.long p1), .second, .val (.int p2), .val (.int p3), .val (.int p4), .val (.long (Int64.ofNat N)), .second, .val (.int tt), .val (.ref b27), .val (.ref b70), .val (.int ss), .val (.int ee), .unset, .unset, .val (.int e18v), .val (.int nl), .val (.long (own_lrem ((Int64.ofNat N) / (own_p10 ((18 : Int32) - e18v))) (own_p10 nl))), .second, .unset, .unset, .unset, .unset] [(.int ss)]))) (fun t ht => XS.iload X88.here hx rfl (hb hby at_360) rfl ht) ?_
      refine own_step (U' := (T88.setTop (mkF m 364 #[.val (.long p1), .second, .val (.int p2), .val (.int p3), .val (.int p4), .val (.long (Int64.ofNat N)), .second, .val (.int tt), .val (.ref b27), .val (.ref b70), .val (.int ss), .val (.int ee), .unset, .unset, .val (.int e18v), .val (.int nl), .val (.long (own_lrem ((Int64.ofNat N) / (own_p10 ((18 : Int32) - e18v))) (own_p10 nl))), .second, .unset, .unset, .unset, .unset] [(.int (18 : Int32)), (.int ss)]))) (fun t ht => XS.bipush X88.here hx rfl (hb hby at_362) ht) ?_
      obtain ⟨_, _, ⟨T89, L89, k89, n89⟩, -, X89, ⟨Lc89, hQ89, l89, y89, z89⟩, st89⟩ := Jvm.LawKit.callS X88 hx (y := (⟨"java/lang/Math", "max", "(II)I"⟩ : MethodName)) hown (mvT hZ (hw _ (List.mem_of_getElem? (i := 62) rfl))) (mvT hZ (hw _ (List.mem_of_getElem? (i := 63) rfl))) (mvT hZ (hw _ (List.mem_of_getElem? (i := 60) rfl))) (mvT hZ (hw _ (List.mem_of_getElem? (i := 64) rfl))) (by decide) (backOf (W := 0) (own_m_max l Z a0 hw [] (ss) ((18 : Int32)) T88.heap n0 (Nat.le_trans Z0 K88.1) ) hZ (hw _ (List.mem_of_getElem? (i := 64) rfl)) (hw _ (List.mem_of_getElem? (i := 60) rfl)) (by decide) (by decide)) (g := (mkF m 364 #[.val (.long p1), .second, .val (.int p2), .val (.int p3), .val (.int p4), .val (.long (Int64.ofNat N)), .second, .val (.int tt), .val (.ref b27), .val (.ref b70), .val (.int ss), .val (.int ee), .unset, .unset, .val (.int e18v), .val (.int nl), .val (.long (own_lrem ((Int64.ofNat N) / (own_p10 ((18 : Int32) - e18v))) (own_p10 nl))), .second, .unset, .unset, .unset, .unset] [(.int (18 : Int32)), (.int ss)])) rfl (by rw [hml]; rfl) (argsL := [(.int ss), (.int (18 : Int32))]) (rest := []) (lenOf own_pd5 rfl) rfl (by show 2 * 0 + _ ≤ _; exact Nat.le_of_eq rfl) (hb hby at_364) (fun _ _ => ⟨rfl, rfl, (by decide : 23 + 0 ≤ _), (by decide : 424 + 0 ≤ _)⟩)
      dsimp only [Pt.U, Pt.locs, Pt.cells, Pt.slots] at X89 l89 y89 z89 st89 hQ89
      subst l89 y89 z89
      obtain ⟨rfl, Nq89, Kq89⟩ := hQ89
      have N89 := Fr.app N88 Nq89
      have e89 : T89.heap = T88.heap := Kq89
      refine own_step (U' := (T89.setTop (mkF m 367 #[.val (.long p1), .second, .val (.int p2), .val (.int p3), .val (.int p4), .val (.long (Int64.ofNat N)), .second, .val (.int tt), .val (.ref b27), .val (.ref b70), .val (.int ss), .val (.int ee), .unset, .unset, .val (.int e18v), .val (.int nl), .val (.long (own_lrem ((Int64.ofNat N) / (own_p10 ((18 : Int32) - e18v))) (own_p10 nl))), .second, .unset, .unset, .unset, .unset] [(.int (own_max ss (18 : Int32)))]))) (fun t ht => st89 _ ht) ?_
      refine own_step (U' := (T89.setTop (mkF m 369 #[.val (.long p1), .second, .val (.int p2), .val (.int p3), .val (.int p4), .val (.long (Int64.ofNat N)), .second, .val (.int tt), .val (.ref b27), .val (.ref b70), .val (.int ss), .val (.int ee), .unset, .unset, .val (.int e18v), .val (.int nl), .val (.long (own_lrem ((Int64.ofNat N) / (own_p10 ((18 : Int32) - e18v))) (own_p10 nl))), .second, .val (.int (own_max ss (18 : Int32))), .unset, .unset, .unset] []))) (fun t ht => XS.istore X89.here hx rfl (hb hby at_367) rfl (l' := #[.val (.long p1), .second, .val (.int p2), .val (.int p3), .val (.int p4), .val (.long (Int64.ofNat N)), .second, .val (.int tt), .val (.ref b27), .val (.ref b70), .val (.int ss), .val (.int ee), .unset, .unset, .val (.int e18v), .val (.int nl), .val (.long (own_lrem ((Int64.ofNat N) / (own_p10 ((18 : Int32) - e18v))) (own_p10 nl))), .second, .val (.int (own_max ss (18 : Int32))), .unset, .unset, .unset]) rfl ht) ?_
      generalize h_tsv : (own_max ss (18 : Int32)) = tsv
      have hts := own_ts hss h_tsv
      refine own_step (U' := (T89.setTop (mkF m 370 #[.val (.long p1), .second, .val (.int p2), .val (.int p3), .val (.int p4), .val (.long (Int64.ofNat N)), .second, .val (.int tt), .val (.ref b27), .val (.ref b70), .val (.int ss), .val (.int ee), .unset, .unset, .val (.int e18v), .val (.int nl), .val (.long (own_lrem ((Int64.ofNat N) / (own_p10 ((18 : Int32) - e18v))) (own_p10 nl))), .second, .val (.int tsv), .unset, .unset, .unset] [(.int (0 : Int32))]))) (fun t ht => XS.iconst X89.here hx rfl (hb hby at_369) ht) ?_
      refine own_step (U' := (T89.setTop (mkF m 372 #[.val (.long p1), .second, .val (.int p2), .val (.int p3), .val (.int p4), .val (.long (Int64.ofNat N)), .second, .val (.int tt), .val (.ref b27), .val (.ref b70), .val (.int ss), .val (.int ee), .unset, .unset, .val (.int e18v), .val (.int nl), .val (.long (own_lrem ((Int64.ofNat N) / (own_p10 ((18 : Int32) - e18v))) (own_p10 nl))), .second, .val (.int tsv), .unset, .unset, .unset] [(.int ee), (.int (0 : Int32))]))) (fun t ht => XS.iload X89.here hx rfl (hb hby at_370) rfl ht) ?_
      refine own_step (U' := (T89.setTop (mkF m 374 #[.val (.long p1), .second, .val (.int p2), .val (.int p3), .val (.int p4), .val (.long (Int64.ofNat N)), .second, .val (.int tt), .val (.ref b27), .val (.ref b70), .val (.int ss), .val (.int ee), .unset, .unset, .val (.int e18v), .val (.int nl), .val (.long (own_lrem ((Int64.ofNat N) / (own_p10 ((18 : Int32) - e18v))) (own_p10 nl))), .second, .val (.int tsv), .unset, .unset, .unset] [(.int tsv), (.int ee), (.int (0 : Int32))]))) (fun t ht => XS.iload X89.here hx rfl (hb hby at_372) rfl ht) ?_
      refine own_step (U' := (T89.setTop (mkF m 375 #[.val (.long p1), .second, .val (.int p2), .val (.int p3), .val (.int p4), .val (.long (Int64.ofNat N)), .second, .val (.int tt), .val (.ref b27), .val (.ref b70), .val (.int ss), .val (.int ee), .unset, .unset, .val (.int e18v), .val (.int nl), .val (.long (own_lrem ((Int64.ofNat N) / (own_p10 ((18 : Int32) - e18v))) (own_p10 nl))), .second, .val (.int tsv), .unset, .unset, .unset] [(.int (ee - tsv)), (.int (0 : Int32))]))) (fun t ht => XS.isub X89.here hx rfl (hb hby at_374) rfl ht) ?_
      obtain ⟨_, _, ⟨T90, L90, k90, n90⟩, -, X90, ⟨Lc90, hQ90, l90, y90, z90⟩, st90⟩ := Jvm.LawKit.callS X89 hx (y := (⟨"java/lang/Math", "max", "(II)I"⟩ : MethodName)) hown (mvT hZ (hw _ (List.mem_of_getElem? (i := 62) rfl))) (mvT hZ (hw _ (List.mem_of_getElem? (i := 63) rfl))) (mvT hZ (hw _ (List.mem_of_getElem? (i := 60) rfl))) (mvT hZ (hw _ (List.mem_of_getElem? (i := 64) rfl))) (by decide) (backOf (W := 0) (own_m_max l Z a0 hw [] ((0 : Int32)) ((ee - tsv)) T88.heap n0 (Nat.le_trans Z0 K88.1) ) hZ (hw _ (List.mem_of_getElem? (i := 64) rfl)) (hw _ (List.mem_of_getElem? (i := 60) rfl)) (by decide) (by decide)) (g := (mkF m 375 #[.val (.long p1), .second, .val (.int p2), .val (.int p3), .val (.int p4), .val (.long (Int64.ofNat N)), .second, .val (.int tt), .val (.ref b27), .val (.ref b70), .val (.int ss), .val (.int ee), .unset, .unset, .val (.int e18v), .val (.int nl), .val (.long (own_lrem ((Int64.ofNat N) / (own_p10 ((18 : Int32) - e18v))) (own_p10 nl))), .second, .val (.int tsv), .unset, .unset, .unset] [(.int (ee - tsv)), (.int (0 : Int32))])) rfl (by rw [hml]; rfl) (argsL := [(.int (0 : Int32)), (.int (ee - tsv))]) (rest := []) (lenOf own_pd5 rfl) rfl (by show 2 * 0 + _ ≤ _; exact Nat.le_of_eq rfl) (hb hby at_375) (fun _ _ => ⟨rfl, e89, (by decide : 23 + 0 ≤ _), (by decide : 424 + 0 ≤ _)⟩)
      dsimp only [Pt.U, Pt.locs, Pt.cells, Pt.slots] at X90 l90 y90 z90 st90 hQ90
      subst l90 y90 z90
      obtain ⟨rfl, Nq90, Kq90⟩ := hQ90
      have N90 := Fr.app N89 Nq90
      have e90 : T90.heap = T88.heap := Kq90
      refine own_step (U' := (T90.setTop (mkF m 378 #[.val (.long p1), .second, .val (.int p2), .val (.int p3), .val (.int p4), .val (.long (Int64.ofNat N)), .second, .val (.int tt), .val (.ref b27), .val (.ref b70), .val (.int ss), .val (.int ee), .unset, .unset, .val (.int e18v), .val (.int nl), .val (.long (own_lrem ((Int64.ofNat N) / (own_p10 ((18 : Int32) - e18v))) (own_p10 nl))), .second, .val (.int tsv), .unset, .unset, .unset] [(.int (own_max (0 : Int32) (ee - tsv)))]))) (fun t ht => st90 _ ht) ?_
      refine own_step (U' := (T90.setTop (mkF m 380 #[.val (.long p1), .second, .val (.int p2), .val (.int p3), .val (.int p4), .val (.long (Int64.ofNat N)), .second, .val (.int tt), .val (.ref b27), .val (.ref b70), .val (.int ss), .val (.int ee), .unset, .unset, .val (.int e18v), .val (.int nl), .val (.long (own_lrem ((Int64.ofNat N) / (own_p10 ((18 : Int32) - e18v))) (own_p10 nl))), .second, .val (.int tsv), .val (.int (own_max (0 : Int32) (ee - tsv))), .unset, .unset] []))) (fun t ht => XS.istore X90.here hx rfl (hb hby at_378) rfl (l' := #[.val (.long p1), .second, .val (.int p2), .val (.int p3), .val (.int p4), .val (.long (Int64.ofNat N)), .second, .val (.int tt), .val (.ref b27), .val (.ref b70), .val (.int ss), .val (.int ee), .unset, .unset, .val (.int e18v), .val (.int nl), .val (.long (own_lrem ((Int64.ofNat N) / (own_p10 ((18 : Int32) - e18v))) (own_p10 nl))), .second, .val (.int tsv), .val (.int (own_max (0 : Int32) (ee - tsv))), .unset, .unset]) rfl ht) ?_
      generalize h_tl : (own_max (0 : Int32) (ee - tsv)) = tl
      have htl := own_nl hts (by omega) hee hE h_tl
      refine own_step (U' := (T90.setTop (mkF m 382 #[.val (.long p1), .second, .val (.int p2), .val (.int p3), .val (.int p4), .val (.long (Int64.ofNat N)), .second, .val (.int tt), .val (.ref b27), .val (.ref b70), .val (.int ss), .val (.int ee), .unset, .unset, .val (.int e18v), .val (.int nl), .val (.long (own_lrem ((Int64.ofNat N) / (own_p10 ((18 : Int32) - e18v))) (own_p10 nl))), .second, .val (.int tsv), .val (.int tl), .unset, .unset] [(.int tl)]))) (fun t ht => XS.iload X90.here hx rfl (hb hby at_380) rfl ht) ?_
      by_cases hc382_91 : tl = 0
      ·
        refine own_step (U' := (T90.setTop (mkF m 385 #[.val (.long p1), .second, .val (.int p2), .val (.int p3), .val (.int p4), .val (.long (Int64.ofNat N)), .second, .val (.int tt), .val (.ref b27), .val (.ref b70), .val (.int ss), .val (.int ee), .unset, .unset, .val (.int e18v), .val (.int nl), .val (.long (own_lrem ((Int64.ofNat N) / (own_p10 ((18 : Int32) - e18v))) (own_p10 nl))), .second, .val (.int tsv), .val (.int tl), .unset, .unset] []))) (fun t ht => XS.ifNo X90.here hx rfl (hb hby at_382) rfl (XT.i0_ne_f hc382_91) ht) ?_
        refine own_step (U' := (T90.setTop (mkF m 386 #[.val (.long p1), .second, .val (.int p2), .val (.int p3), .val (.int p4), .val (.long (Int64.ofNat N)), .second, .val (.int tt), .val (.ref b27), .val (.ref b70), .val (.int ss), .val (.int ee), .unset, .unset, .val (.int e18v), .val (.int nl), .val (.long (own_lrem ((Int64.ofNat N) / (own_p10 ((18 : Int32) - e18v))) (own_p10 nl))), .second, .val (.int tsv), .val (.int tl), .unset, .unset] [(.long (0 : Int64))]))) (fun t ht => XT.lconstV X90.here hx rfl (0 : Int64) (hb hby at_385) rfl ht) ?_
        refine own_step (U' := (T90.setTop (mkF m 407 #[.val (.long p1), .second, .val (.int p2), .val (.int p3), .val (.int p4), .val (.long (Int64.ofNat N)), .second, .val (.int tt), .val (.ref b27), .val (.ref b70), .val (.int ss), .val (.int ee), .unset, .unset, .val (.int e18v), .val (.int nl), .val (.long (own_lrem ((Int64.ofNat N) / (own_p10 ((18 : Int32) - e18v))) (own_p10 nl))), .second, .val (.int tsv), .val (.int tl), .unset, .unset] [(.long (0 : Int64))]))) (fun t ht => XS.goto X90.here hx rfl (pc0 := 386) (pc' := 407) rfl (hb hby at_386) (by decide) (by decide) ht) ?_
        refine own_step (U' := (T90.setTop (mkF m 409 #[.val (.long p1), .second, .val (.int p2), .val (.int p3), .val (.int p4), .val (.long (Int64.ofNat N)), .second, .val (.int tt), .val (.ref b27), .val (.ref b70), .val (.int ss), .val (.int ee), .unset, .unset, .val (.int e18v), .val (.int nl), .val (.long (own_lrem ((Int64.ofNat N) / (own_p10 ((18 : Int32) - e18v))) (own_p10 nl))), .second, .val (.int tsv), .val (.int tl), .val (.long (0 : Int64)), .second] []))) (fun t ht => XT.lstore X90.here hx rfl (hb hby at_407) rfl (l' := #[.val (.long p1), .second, .val (.int p2), .val (.int p3), .val (.int p4), .val (.long (Int64.ofNat N)), .second, .val (.int tt), .val (.ref b27), .val (.ref b70), .val (.int ss), .val (.int ee), .unset, .unset, .val (.int e18v), .val (.int nl), .val (.long (own_lrem ((Int64.ofNat N) / (own_p10 ((18 : Int32) - e18v))) (own_p10 nl))), .second, .val (.int tsv), .val (.int tl), .val (.long (0 : Int64)), .second]) rfl ht) ?_
        refine own_step (U' := (T90.setTop (mkF m 411 #[.val (.long p1), .second, .val (.int p2), .val (.int p3), .val (.int p4), .val (.long (Int64.ofNat N)), .second, .val (.int tt), .val (.ref b27), .val (.ref b70), .val (.int ss), .val (.int ee), .unset, .unset, .val (.int e18v), .val (.int nl), .val (.long (own_lrem ((Int64.ofNat N) / (own_p10 ((18 : Int32) - e18v))) (own_p10 nl))), .second, .val (.int tsv), .val (.int tl), .val (.long (0 : Int64)), .second] [(.long (own_lrem ((Int64.ofNat N) / (own_p10 ((18 : Int32) - e18v))) (own_p10 nl)))]))) (fun t ht => XT.lload X90.here hx rfl (hb hby at_409) rfl ht) ?_
        refine own_step (U' := (T90.setTop (mkF m 413 #[.val (.long p1), .second, .val (.int p2), .val (.int p3), .val (.int p4), .val (.long (Int64.ofNat N)), .second, .val (.int tt), .val (.ref b27), .val (.ref b70), .val (.int ss), .val (.int ee), .unset, .unset, .val (.int e18v), .val (.int nl), .val (.long (own_lrem ((Int64.ofNat N) / (own_p10 ((18 : Int32) - e18v))) (own_p10 nl))), .second, .val (.int tsv), .val (.int tl), .val (.long (0 : Int64)), .second] [(.int tl), (.long (own_lrem ((Int64.ofNat N) / (own_p10 ((18 : Int32) - e18v))) (own_p10 nl)))]))) (fun t ht => XS.iload X90.here hx rfl (hb hby at_411) rfl ht) ?_
        obtain ⟨_, _, ⟨T92, L92, k92, n92⟩, -, X92, ⟨Lc92, hQ92, l92, y92, z92⟩, st92⟩ := Jvm.LawKit.callS X90 hx (y := (⟨"com/example/version_parser/versionparser/DecimalDigitsValuePinLaw", "pow10", "(I)J"⟩ : MethodName)) hown (mvT hZ (hw _ (List.mem_of_getElem? (i := 8) rfl))) (mvT hZ (hw _ (List.mem_of_getElem? (i := 9) rfl))) (mvT hZ (hw _ (List.mem_of_getElem? (i := 6) rfl))) (mvT hZ (hw _ (List.mem_of_getElem? (i := 10) rfl))) (by decide) (backOf (W := 2) (own_m_p10 l Z a0 hw [] (tl) (EE - max SS 18) T88.heap n0 (Nat.le_trans Z0 K88.1) ⟨htl, by omega⟩) hZ (hw _ (List.mem_of_getElem? (i := 10) rfl)) (hw _ (List.mem_of_getElem? (i := 6) rfl)) (by decide) (by decide)) (g := (mkF m 413 #[.val (.long p1), .second, .val (.int p2), .val (.int p3), .val (.int p4), .val (.long (Int64.ofNat N)), .second, .val (.int tt), .val (.ref b27), .val (.ref b70), .val (.int ss), .val (.int ee), .unset, .unset, .val (.int e18v), .val (.int nl), .val (.long (own_lrem ((Int64.ofNat N) / (own_p10 ((18 : Int32) - e18v))) (own_p10 nl))), .second, .val (.int tsv), .val (.int tl), .val (.long (0 : Int64)), .second] [(.int tl), (.long (own_lrem ((Int64.ofNat N) / (own_p10 ((18 : Int32) - e18v))) (own_p10 nl)))])) rfl (by rw [hml]; rfl) (argsL := [(.int tl)]) (rest := [(.long (own_lrem ((Int64.ofNat N) / (own_p10 ((18 : Int32) - e18v))) (own_p10 nl)))]) (lenOf own_pd0 rfl) rfl (by show 2 * 0 + _ ≤ _; exact Nat.le_of_eq rfl) (hb hby at_413) (fun _ _ => ⟨rfl, e90, (by decide : 23 + 1 ≤ _), (by decide : 424 + 19 ≤ _)⟩)
        dsimp only [Pt.U, Pt.locs, Pt.cells, Pt.slots] at X92 l92 y92 z92 st92 hQ92
        subst l92 y92 z92
        obtain ⟨rfl, Nq92, Kq92⟩ := hQ92
        have N92 := Fr.app N90 Nq92
        have f92_0 : Sta Z T92.heap "java/lang/String" "COMPACT_STRINGS" "Z" (.int cz) := own_sta_keep f88_0 Kq92 own_pl0
        have f92_1 : Sta Z T92.heap "jdk/internal/util/Preconditions" "SIOOBE_FORMATTER" "Ljava/util/function/BiFunction;" fm := own_sta_keep f88_1 Kq92 own_pl0
        have f92_2 : Arv Z T92.heap b27 k27 .char (20 : Int32) [(.int ((own_dg (Int64.ofNat N) (17 : Int32)).toUInt32.toUInt16.toUInt32.toInt32)), (.int ((own_dg (Int64.ofNat N) (16 : Int32)).toUInt32.toUInt16.toUInt32.toInt32)), (.int ((own_dg (Int64.ofNat N) (15 : Int32)).toUInt32.toUInt16.toUInt32.toInt32)), (.int ((own_dg (Int64.ofNat N) (14 : Int32)).toUInt32.toUInt16.toUInt32.toInt32)), (.int ((own_dg (Int64.ofNat N) (13 : Int32)).toUInt32.toUInt16.toUInt32.toInt32)), (.int ((own_dg (Int64.ofNat N) (12 : Int32)).toUInt32.toUInt16.toUInt32.toInt32)), (.int ((own_dg (Int64.ofNat N) (11 : Int32)).toUInt32.toUInt16.toUInt32.toInt32)), (.int ((own_dg (Int64.ofNat N) (10 : Int32)).toUInt32.toUInt16.toUInt32.toInt32)), (.int ((own_dg (Int64.ofNat N) (9 : Int32)).toUInt32.toUInt16.toUInt32.toInt32)), (.int ((own_dg (Int64.ofNat N) (8 : Int32)).toUInt32.toUInt16.toUInt32.toInt32)), (.int ((own_dg (Int64.ofNat N) (7 : Int32)).toUInt32.toUInt16.toUInt32.toInt32)), (.int ((own_dg (Int64.ofNat N) (6 : Int32)).toUInt32.toUInt16.toUInt32.toInt32)), (.int ((own_dg (Int64.ofNat N) (5 : Int32)).toUInt32.toUInt16.toUInt32.toInt32)), (.int ((own_dg (Int64.ofNat N) (4 : Int32)).toUInt32.toUInt16.toUInt32.toInt32)), (.int ((own_dg (Int64.ofNat N) (3 : Int32)).toUInt32.toUInt16.toUInt32.toInt32)), (.int ((own_dg (Int64.ofNat N) (2 : Int32)).toUInt32.toUInt16.toUInt32.toInt32)), (.int ((own_dg (Int64.ofNat N) (1 : Int32)).toUInt32.toUInt16.toUInt32.toInt32)), (.int ((own_dg (Int64.ofNat N) (0 : Int32)).toUInt32.toUInt16.toUInt32.toInt32)), (.int ((((48 : Int32) + (tt / (10 : Int32))).toUInt32.toUInt16.toUInt32.toInt32).toUInt32.toUInt16.toUInt32.toInt32)), (.int ((((48 : Int32) + (tt % (10 : Int32))).toUInt32.toUInt16.toUInt32.toInt32).toUInt32.toUInt16.toUInt32.toInt32))] (.int (0 : Int32)) := f88_2.keep Kq92 nin0
        have f92_3 : Exa Z T92.heap b70 "java/lang/String" := f88_3.keep Kq92
        have f92_4 : Fld Z T92.heap b70 "java/lang/String" "coder" "B" (.int (0 : Int32)) := f88_4.keep Kq92 nin0
        have f92_5 : Fld Z T92.heap b70 "java/lang/String" "value" "[B" (.ref by71) := f88_5.keep Kq92 nin0
        have f92_6 : Arv Z T92.heap by71 kb71 .byte (20 : Int32) [(.int (((own_dg (Int64.ofNat N) (17 : Int32)).toUInt32.toUInt16.toUInt32.toInt32)).toInt8.toInt32), (.int (((own_dg (Int64.ofNat N) (16 : Int32)).toUInt32.toUInt16.toUInt32.toInt32)).toInt8.toInt32), (.int (((own_dg (Int64.ofNat N) (15 : Int32)).toUInt32.toUInt16.toUInt32.toInt32)).toInt8.toInt32), (.int (((own_dg (Int64.ofNat N) (14 : Int32)).toUInt32.toUInt16.toUInt32.toInt32)).toInt8.toInt32), (.int (((own_dg (Int64.ofNat N) (13 : Int32)).toUInt32.toUInt16.toUInt32.toInt32)).toInt8.toInt32), (.int (((own_dg (Int64.ofNat N) (12 : Int32)).toUInt32.toUInt16.toUInt32.toInt32)).toInt8.toInt32), (.int (((own_dg (Int64.ofNat N) (11 : Int32)).toUInt32.toUInt16.toUInt32.toInt32)).toInt8.toInt32), (.int (((own_dg (Int64.ofNat N) (10 : Int32)).toUInt32.toUInt16.toUInt32.toInt32)).toInt8.toInt32), (.int (((own_dg (Int64.ofNat N) (9 : Int32)).toUInt32.toUInt16.toUInt32.toInt32)).toInt8.toInt32), (.int (((own_dg (Int64.ofNat N) (8 : Int32)).toUInt32.toUInt16.toUInt32.toInt32)).toInt8.toInt32), (.int (((own_dg (Int64.ofNat N) (7 : Int32)).toUInt32.toUInt16.toUInt32.toInt32)).toInt8.toInt32), (.int (((own_dg (Int64.ofNat N) (6 : Int32)).toUInt32.toUInt16.toUInt32.toInt32)).toInt8.toInt32), (.int (((own_dg (Int64.ofNat N) (5 : Int32)).toUInt32.toUInt16.toUInt32.toInt32)).toInt8.toInt32), (.int (((own_dg (Int64.ofNat N) (4 : Int32)).toUInt32.toUInt16.toUInt32.toInt32)).toInt8.toInt32), (.int (((own_dg (Int64.ofNat N) (3 : Int32)).toUInt32.toUInt16.toUInt32.toInt32)).toInt8.toInt32), (.int (((own_dg (Int64.ofNat N) (2 : Int32)).toUInt32.toUInt16.toUInt32.toInt32)).toInt8.toInt32), (.int (((own_dg (Int64.ofNat N) (1 : Int32)).toUInt32.toUInt16.toUInt32.toInt32)).toInt8.toInt32), (.int (((own_dg (Int64.ofNat N) (0 : Int32)).toUInt32.toUInt16.toUInt32.toInt32)).toInt8.toInt32), (.int (((((48 : Int32) + (tt / (10 : Int32))).toUInt32.toUInt16.toUInt32.toInt32).toUInt32.toUInt16.toUInt32.toInt32)).toInt8.toInt32), (.int (((((48 : Int32) + (tt % (10 : Int32))).toUInt32.toUInt16.toUInt32.toInt32).toUInt32.toUInt16.toUInt32.toInt32)).toInt8.toInt32)] (.int (0 : Int32)) := f88_6.keep Kq92 nin0
        have K92 : Keep h0 T92.heap [] := K88.trans Kq92 all0
        refine own_step (U' := (T92.setTop (mkF m 416 #[.val (.long p1), .second, .val (.int p2), .val (.int p3), .val (.int p4), .val (.long (Int64.ofNat N)), .second, .val (.int tt), .val (.ref b27), .val (.ref b70), .val (.int ss), .val (.int ee), .unset, .unset, .val (.int e18v), .val (.int nl), .val (.long (own_lrem ((Int64.ofNat N) / (own_p10 ((18 : Int32) - e18v))) (own_p10 nl))), .second, .val (.int tsv), .val (.int tl), .val (.long (0 : Int64)), .second] [(.long (own_p10 tl)), (.long (own_lrem ((Int64.ofNat N) / (own_p10 ((18 : Int32) - e18v))) (own_p10 nl)))]))) (fun t ht => st92 _ ht) ?_
        refine own_step (U' := (T92.setTop (mkF m 417 #[.val (.long p1), .second, .val (.int p2), .val (.int p3), .val (.int p4), .val (.long (Int64.ofNat N)), .second, .val (.int tt), .val (.ref b27), .val (.ref b70), .val (.int ss), .val (.int ee), .unset, .unset, .val (.int e18v), .val (.int nl), .val (.long (own_lrem ((Int64.ofNat N) / (own_p10 ((18 : Int32) - e18v))) (own_p10 nl))), .second, .val (.int tsv), .val (.int tl), .val (.long (0 : Int64)), .second] [(.long ((own_lrem ((Int64.ofNat N) / (own_p10 ((18 : Int32) - e18v))) (own_p10 nl)) * (own_p10 tl)))]))) (fun t ht => XT.lmul X92.here hx rfl (hb hby at_416) rfl ht) ?_
        refine own_step (U' := (T92.setTop (mkF m 419 #[.val (.long p1), .second, .val (.int p2), .val (.int p3), .val (.int p4), .val (.long (Int64.ofNat N)), .second, .val (.int tt), .val (.ref b27), .val (.ref b70), .val (.int ss), .val (.int ee), .unset, .unset, .val (.int e18v), .val (.int nl), .val (.long (own_lrem ((Int64.ofNat N) / (own_p10 ((18 : Int32) - e18v))) (own_p10 nl))), .second, .val (.int tsv), .val (.int tl), .val (.long (0 : Int64)), .second] [(.long (0 : Int64)), (.long ((own_lrem ((Int64.ofNat N) / (own_p10 ((18 : Int32) - e18v))) (own_p10 nl)) * (own_p10 tl)))]))) (fun t ht => XT.lload X92.here hx rfl (hb hby at_417) rfl ht) ?_
        refine own_step (U' := (T92.setTop (mkF m 420 #[.val (.long p1), .second, .val (.int p2), .val (.int p3), .val (.int p4), .val (.long (Int64.ofNat N)), .second, .val (.int tt), .val (.ref b27), .val (.ref b70), .val (.int ss), .val (.int ee), .unset, .unset, .val (.int e18v), .val (.int nl), .val (.long (own_lrem ((Int64.ofNat N) / (own_p10 ((18 : Int32) - e18v))) (own_p10 nl))), .second, .val (.int tsv), .val (.int tl), .val (.long (0 : Int64)), .second] [(.long (((own_lrem ((Int64.ofNat N) / (own_p10 ((18 : Int32) - e18v))) (own_p10 nl)) * (own_p10 tl)) + (0 : Int64)))]))) (fun t ht => XT.ladd X92.here hx rfl (hb hby at_419) rfl ht) ?_
        refine own_step (U' := (T92.setTop (mkF m 422 #[.val (.long p1), .second, .val (.int p2), .val (.int p3), .val (.int p4), .val (.long (Int64.ofNat N)), .second, .val (.int tt), .val (.ref b27), .val (.ref b70), .val (.int ss), .val (.int ee), .val (.long (((own_lrem ((Int64.ofNat N) / (own_p10 ((18 : Int32) - e18v))) (own_p10 nl)) * (own_p10 tl)) + (0 : Int64))), .second, .val (.int e18v), .val (.int nl), .val (.long (own_lrem ((Int64.ofNat N) / (own_p10 ((18 : Int32) - e18v))) (own_p10 nl))), .second, .val (.int tsv), .val (.int tl), .val (.long (0 : Int64)), .second] []))) (fun t ht => XT.lstore X92.here hx rfl (hb hby at_420) rfl (l' := #[.val (.long p1), .second, .val (.int p2), .val (.int p3), .val (.int p4), .val (.long (Int64.ofNat N)), .second, .val (.int tt), .val (.ref b27), .val (.ref b70), .val (.int ss), .val (.int ee), .val (.long (((own_lrem ((Int64.ofNat N) / (own_p10 ((18 : Int32) - e18v))) (own_p10 nl)) * (own_p10 tl)) + (0 : Int64))), .second, .val (.int e18v), .val (.int nl), .val (.long (own_lrem ((Int64.ofNat N) / (own_p10 ((18 : Int32) - e18v))) (own_p10 nl))), .second, .val (.int tsv), .val (.int tl), .val (.long (0 : Int64)), .second]) rfl ht) ?_
        refine own_step (U' := (T92.setTop (mkF m 424 #[.val (.long p1), .second, .val (.int p2), .val (.int p3), .val (.int p4), .val (.long (Int64.ofNat N)), .second, .val (.int tt), .val (.ref b27), .val (.ref b70), .val (.int ss), .val (.int ee), .val (.long (((own_lrem ((Int64.ofNat N) / (own_p10 ((18 : Int32) - e18v))) (own_p10 nl)) * (own_p10 tl)) + (0 : Int64))), .second, .val (.int e18v), .val (.int nl), .val (.long (own_lrem ((Int64.ofNat N) / (own_p10 ((18 : Int32) - e18v))) (own_p10 nl))), .second, .val (.int tsv), .val (.int tl), .val (.long (0 : Int64)), .second] [(.ref b70)]))) (fun t ht => XS.aload X92.here hx rfl (hb hby at_422) rfl rfl ht) ?_
        refine own_step (U' := (T92.setTop (mkF m 426 #[.val (.long p1), .second, .val (.int p2), .val (.int p3), .val (.int p4), .val (.long (Int64.ofNat N)), .second, .val (.int tt), .val (.ref b27), .val (.ref b70), .val (.int ss), .val (.int ee), .val (.long (((own_lrem ((Int64.ofNat N) / (own_p10 ((18 : Int32) - e18v))) (own_p10 nl)) * (own_p10 tl)) + (0 : Int64))), .second, .val (.int e18v), .val (.int nl), .val (.long (own_lrem ((Int64.ofNat N) / (own_p10 ((18 : Int32) - e18v))) (own_p10 nl))), .second, .val (.int tsv), .val (.int tl), .val (.long (0 : Int64)), .second] [(.int ss), (.ref b70)]))) (fun t ht => XS.iload X92.here hx rfl (hb hby at_424) rfl ht) ?_
        refine own_step (U' := (T92.setTop (mkF m 428 #[.val (.long p1), .second, .val (.int p2), .val (.int p3), .val (.int p4), .val (.long (Int64.ofNat N)), .second, .val (.int tt), .val (.ref b27), .val (.ref b70), .val (.int ss), .val (.int ee), .val (.long (((own_lrem ((Int64.ofNat N) / (own_p10 ((18 : Int32) - e18v))) (own_p10 nl)) * (own_p10 tl)) + (0 : Int64))), .second, .val (.int e18v), .val (.int nl), .val (.long (own_lrem ((Int64.ofNat N) / (own_p10 ((18 : Int32) - e18v))) (own_p10 nl))), .second, .val (.int tsv), .val (.int tl), .val (.long (0 : Int64)), .second] [(.int ee), (.int ss), (.ref b70)]))) (fun t ht => XS.iload X92.here hx rfl (hb hby at_426) rfl ht) ?_
        have hdig92 : ∀ i, i < 20 → ([((own_dg (Int64.ofNat N) (17 : Int32)).toUInt32.toUInt16.toUInt32.toInt32), ((own_dg (Int64.ofNat N) (16 : Int32)).toUInt32.toUInt16.toUInt32.toInt32), ((own_dg (Int64.ofNat N) (15 : Int32)).toUInt32.toUInt16.toUInt32.toInt32), ((own_dg (Int64.ofNat N) (14 : Int32)).toUInt32.toUInt16.toUInt32.toInt32), ((own_dg (Int64.ofNat N) (13 : Int32)).toUInt32.toUInt16.toUInt32.toInt32), ((own_dg (Int64.ofNat N) (12 : Int32)).toUInt32.toUInt16.toUInt32.toInt32), ((own_dg (Int64.ofNat N) (11 : Int32)).toUInt32.toUInt16.toUInt32.toInt32), ((own_dg (Int64.ofNat N) (10 : Int32)).toUInt32.toUInt16.toUInt32.toInt32), ((own_dg (Int64.ofNat N) (9 : Int32)).toUInt32.toUInt16.toUInt32.toInt32), ((own_dg (Int64.ofNat N) (8 : Int32)).toUInt32.toUInt16.toUInt32.toInt32), ((own_dg (Int64.ofNat N) (7 : Int32)).toUInt32.toUInt16.toUInt32.toInt32), ((own_dg (Int64.ofNat N) (6 : Int32)).toUInt32.toUInt16.toUInt32.toInt32), ((own_dg (Int64.ofNat N) (5 : Int32)).toUInt32.toUInt16.toUInt32.toInt32), ((own_dg (Int64.ofNat N) (4 : Int32)).toUInt32.toUInt16.toUInt32.toInt32), ((own_dg (Int64.ofNat N) (3 : Int32)).toUInt32.toUInt16.toUInt32.toInt32), ((own_dg (Int64.ofNat N) (2 : Int32)).toUInt32.toUInt16.toUInt32.toInt32), ((own_dg (Int64.ofNat N) (1 : Int32)).toUInt32.toUInt16.toUInt32.toInt32), ((own_dg (Int64.ofNat N) (0 : Int32)).toUInt32.toUInt16.toUInt32.toInt32), ((((48 : Int32) + (tt / (10 : Int32))).toUInt32.toUInt16.toUInt32.toInt32).toUInt32.toUInt16.toUInt32.toInt32), ((((48 : Int32) + (tt % (10 : Int32))).toUInt32.toUInt16.toUInt32.toInt32).toUInt32.toUInt16.toUInt32.toInt32)] : List Int32).getD i 0 = own_dgN (N * 100 + TT) i := by
          intro i hi
          have hc : i = 0 ∨ i = 1 ∨ i = 2 ∨ i = 3 ∨ i = 4 ∨ i = 5 ∨ i = 6 ∨ i = 7 ∨ i = 8 ∨ i = 9 ∨ i = 10 ∨ i = 11 ∨ i = 12 ∨ i = 13 ∨ i = 14 ∨ i = 15 ∨ i = 16 ∨ i = 17 ∨ i = 18 ∨ i = 19 := by omega
          rcases hc with rfl | rfl | rfl | rfl | rfl | rfl | rfl | rfl | rfl | rfl | rfl | rfl | rfl | rfl | rfl | rfl | rfl | rfl | rfl | rfl
          · show ((own_dg (Int64.ofNat N) (17 : Int32)).toUInt32.toUInt16.toUInt32.toInt32) = _
            exact (own_dgc (T := TT) hN hT (k := (17 : Int32)) (j := 17) ⟨rfl, by decide⟩ (by decide))
          · show ((own_dg (Int64.ofNat N) (16 : Int32)).toUInt32.toUInt16.toUInt32.toInt32) = _
            exact (own_dgc (T := TT) hN hT (k := (16 : Int32)) (j := 16) ⟨rfl, by decide⟩ (by decide))
          · show ((own_dg (Int64.ofNat N) (15 : Int32)).toUInt32.toUInt16.toUInt32.toInt32) = _
            exact (own_dgc (T := TT) hN hT (k := (15 : Int32)) (j := 15) ⟨rfl, by decide⟩ (by decide))
          · show ((own_dg (Int64.ofNat N) (14 : Int32)).toUInt32.toUInt16.toUInt32.toInt32) = _
            exact (own_dgc (T := TT) hN hT (k := (14 : Int32)) (j := 14) ⟨rfl, by decide⟩ (by decide))
          · show ((own_dg (Int64.ofNat N) (13 : Int32)).toUInt32.toUInt16.toUInt32.toInt32) = _
            exact (own_dgc (T := TT) hN hT (k := (13 : Int32)) (j := 13) ⟨rfl, by decide⟩ (by decide))
          · show ((own_dg (Int64.ofNat N) (12 : Int32)).toUInt32.toUInt16.toUInt32.toInt32) = _
            exact (own_dgc (T := TT) hN hT (k := (12 : Int32)) (j := 12) ⟨rfl, by decide⟩ (by decide))
          · show ((own_dg (Int64.ofNat N) (11 : Int32)).toUInt32.toUInt16.toUInt32.toInt32) = _
            exact (own_dgc (T := TT) hN hT (k := (11 : Int32)) (j := 11) ⟨rfl, by decide⟩ (by decide))
          · show ((own_dg (Int64.ofNat N) (10 : Int32)).toUInt32.toUInt16.toUInt32.toInt32) = _
            exact (own_dgc (T := TT) hN hT (k := (10 : Int32)) (j := 10) ⟨rfl, by decide⟩ (by decide))
          · show ((own_dg (Int64.ofNat N) (9 : Int32)).toUInt32.toUInt16.toUInt32.toInt32) = _
            exact (own_dgc (T := TT) hN hT (k := (9 : Int32)) (j := 9) ⟨rfl, by decide⟩ (by decide))
          · show ((own_dg (Int64.ofNat N) (8 : Int32)).toUInt32.toUInt16.toUInt32.toInt32) = _
            exact (own_dgc (T := TT) hN hT (k := (8 : Int32)) (j := 8) ⟨rfl, by decide⟩ (by decide))
          · show ((own_dg (Int64.ofNat N) (7 : Int32)).toUInt32.toUInt16.toUInt32.toInt32) = _
            exact (own_dgc (T := TT) hN hT (k := (7 : Int32)) (j := 7) ⟨rfl, by decide⟩ (by decide))
          · show ((own_dg (Int64.ofNat N) (6 : Int32)).toUInt32.toUInt16.toUInt32.toInt32) = _
            exact (own_dgc (T := TT) hN hT (k := (6 : Int32)) (j := 6) ⟨rfl, by decide⟩ (by decide))
          · show ((own_dg (Int64.ofNat N) (5 : Int32)).toUInt32.toUInt16.toUInt32.toInt32) = _
            exact (own_dgc (T := TT) hN hT (k := (5 : Int32)) (j := 5) ⟨rfl, by decide⟩ (by decide))
          · show ((own_dg (Int64.ofNat N) (4 : Int32)).toUInt32.toUInt16.toUInt32.toInt32) = _
            exact (own_dgc (T := TT) hN hT (k := (4 : Int32)) (j := 4) ⟨rfl, by decide⟩ (by decide))
          · show ((own_dg (Int64.ofNat N) (3 : Int32)).toUInt32.toUInt16.toUInt32.toInt32) = _
            exact (own_dgc (T := TT) hN hT (k := (3 : Int32)) (j := 3) ⟨rfl, by decide⟩ (by decide))
          · show ((own_dg (Int64.ofNat N) (2 : Int32)).toUInt32.toUInt16.toUInt32.toInt32) = _
            exact (own_dgc (T := TT) hN hT (k := (2 : Int32)) (j := 2) ⟨rfl, by decide⟩ (by decide))
          · show ((own_dg (Int64.ofNat N) (1 : Int32)).toUInt32.toUInt16.toUInt32.toInt32) = _
            exact (own_dgc (T := TT) hN hT (k := (1 : Int32)) (j := 1) ⟨rfl, by decide⟩ (by decide))
          · show ((own_dg (Int64.ofNat N) (0 : Int32)).toUInt32.toUInt16.toUInt32.toInt32) = _
            exact (own_dgc (T := TT) hN hT (k := (0 : Int32)) (j := 0) ⟨rfl, by decide⟩ (by decide))
          · show ((((48 : Int32) + (tt / (10 : Int32))).toUInt32.toUInt16.toUInt32.toInt32).toUInt32.toUInt16.toUInt32.toInt32) = _
            exact (own_t18 (N := N) htt hT)
          · show ((((48 : Int32) + (tt % (10 : Int32))).toUInt32.toUInt16.toUInt32.toInt32).toUInt32.toUInt16.toUInt32.toInt32) = _
            exact (own_t19 (N := N) htt hT)
        obtain ⟨_, _, ⟨T93, L93, k93, n93⟩, -, X93, ⟨Lc93, hQ93, l93, y93, z93⟩, st93⟩ := Jvm.LawKit.callS X92 hx (y := (⟨"com/example/version_parser/versionparser/DecimalDigits", "value", "(Ljava/lang/String;II)J"⟩ : MethodName)) hown (mvT hZ (hw _ (List.mem_of_getElem? (i := 65) rfl))) (mvT hZ (hw _ (List.mem_of_getElem? (i := 66) rfl))) (mvT hZ (hw _ (List.mem_of_getElem? (i := 67) rfl))) (mvT hZ (hw _ (List.mem_of_getElem? (i := 68) rfl))) (by decide) (backOf (W := 0) (own_m_dv l Z a0 hw [] (b70) (ss) (ee) (by71) (kb71) ([((own_dg (Int64.ofNat N) (17 : Int32)).toUInt32.toUInt16.toUInt32.toInt32), ((own_dg (Int64.ofNat N) (16 : Int32)).toUInt32.toUInt16.toUInt32.toInt32), ((own_dg (Int64.ofNat N) (15 : Int32)).toUInt32.toUInt16.toUInt32.toInt32), ((own_dg (Int64.ofNat N) (14 : Int32)).toUInt32.toUInt16.toUInt32.toInt32), ((own_dg (Int64.ofNat N) (13 : Int32)).toUInt32.toUInt16.toUInt32.toInt32), ((own_dg (Int64.ofNat N) (12 : Int32)).toUInt32.toUInt16.toUInt32.toInt32), ((own_dg (Int64.ofNat N) (11 : Int32)).toUInt32.toUInt16.toUInt32.toInt32), ((own_dg (Int64.ofNat N) (10 : Int32)).toUInt32.toUInt16.toUInt32.toInt32), ((own_dg (Int64.ofNat N) (9 : Int32)).toUInt32.toUInt16.toUInt32.toInt32), ((own_dg (Int64.ofNat N) (8 : Int32)).toUInt32.toUInt16.toUInt32.toInt32), ((own_dg (Int64.ofNat N) (7 : Int32)).toUInt32.toUInt16.toUInt32.toInt32), ((own_dg (Int64.ofNat N) (6 : Int32)).toUInt32.toUInt16.toUInt32.toInt32), ((own_dg (Int64.ofNat N) (5 : Int32)).toUInt32.toUInt16.toUInt32.toInt32), ((own_dg (Int64.ofNat N) (4 : Int32)).toUInt32.toUInt16.toUInt32.toInt32), ((own_dg (Int64.ofNat N) (3 : Int32)).toUInt32.toUInt16.toUInt32.toInt32), ((own_dg (Int64.ofNat N) (2 : Int32)).toUInt32.toUInt16.toUInt32.toInt32), ((own_dg (Int64.ofNat N) (1 : Int32)).toUInt32.toUInt16.toUInt32.toInt32), ((own_dg (Int64.ofNat N) (0 : Int32)).toUInt32.toUInt16.toUInt32.toInt32), ((((48 : Int32) + (tt / (10 : Int32))).toUInt32.toUInt16.toUInt32.toInt32).toUInt32.toUInt16.toUInt32.toInt32), ((((48 : Int32) + (tt % (10 : Int32))).toUInt32.toUInt16.toUInt32.toInt32).toUInt32.toUInt16.toUInt32.toInt32)]) ((N * 100 + TT)) (SS) (EE) (cz) (fm) T92.heap n0 (Nat.le_trans Z0 K92.1) f92_3 f92_5 f92_4 f92_6 f92_0 f92_1 hcz hfm rfl hdig92 hlat71 hss hee hSE hE) hZ (hw _ (List.mem_of_getElem? (i := 68) rfl)) (hw _ (List.mem_of_getElem? (i := 67) rfl)) (by decide) (by decide)) (g := (mkF m 428 #[.val (.long p1), .second, .val (.int p2), .val (.int p3), .val (.int p4), .val (.long (Int64.ofNat N)), .second, .val (.int tt), .val (.ref b27), .val (.ref b70), .val (.int ss), .val (.int ee), .val (.long (((own_lrem ((Int64.ofNat N) / (own_p10 ((18 : Int32) - e18v))) (own_p10 nl)) * (own_p10 tl)) + (0 : Int64))), .second, .val (.int e18v), .val (.int nl), .val (.long (own_lrem ((Int64.ofNat N) / (own_p10 ((18 : Int32) - e18v))) (own_p10 nl))), .second, .val (.int tsv), .val (.int tl), .val (.long (0 : Int64)), .second] [(.int ee), (.int ss), (.ref b70)])) rfl (by rw [hml]; rfl) (argsL := [(.ref b70), (.int ss), (.int ee)]) (rest := []) (lenOf own_pd4 rfl) rfl (by show 2 * 0 + _ ≤ _; exact Nat.le_of_eq rfl) (hb hby at_428) (fun _ _ => ⟨rfl, rfl, (by decide : 24 + 0 ≤ _), (by decide : 443 + 0 ≤ _)⟩)
        dsimp only [Pt.U, Pt.locs, Pt.cells, Pt.slots] at X93 l93 y93 z93 st93 hQ93
        subst l93 y93 z93
        obtain ⟨rfl, Nq93, Kq93⟩ := hQ93
        have N93 := Fr.app N92 Nq93
        have f93_0 : Sta Z T93.heap "java/lang/String" "COMPACT_STRINGS" "Z" (.int cz) := own_sta_keep f92_0 Kq93 own_pl0
        have f93_1 : Sta Z T93.heap "jdk/internal/util/Preconditions" "SIOOBE_FORMATTER" "Ljava/util/function/BiFunction;" fm := own_sta_keep f92_1 Kq93 own_pl0
        have f93_2 : Arv Z T93.heap b27 k27 .char (20 : Int32) [(.int ((own_dg (Int64.ofNat N) (17 : Int32)).toUInt32.toUInt16.toUInt32.toInt32)), (.int ((own_dg (Int64.ofNat N) (16 : Int32)).toUInt32.toUInt16.toUInt32.toInt32)), (.int ((own_dg (Int64.ofNat N) (15 : Int32)).toUInt32.toUInt16.toUInt32.toInt32)), (.int ((own_dg (Int64.ofNat N) (14 : Int32)).toUInt32.toUInt16.toUInt32.toInt32)), (.int ((own_dg (Int64.ofNat N) (13 : Int32)).toUInt32.toUInt16.toUInt32.toInt32)), (.int ((own_dg (Int64.ofNat N) (12 : Int32)).toUInt32.toUInt16.toUInt32.toInt32)), (.int ((own_dg (Int64.ofNat N) (11 : Int32)).toUInt32.toUInt16.toUInt32.toInt32)), (.int ((own_dg (Int64.ofNat N) (10 : Int32)).toUInt32.toUInt16.toUInt32.toInt32)), (.int ((own_dg (Int64.ofNat N) (9 : Int32)).toUInt32.toUInt16.toUInt32.toInt32)), (.int ((own_dg (Int64.ofNat N) (8 : Int32)).toUInt32.toUInt16.toUInt32.toInt32)), (.int ((own_dg (Int64.ofNat N) (7 : Int32)).toUInt32.toUInt16.toUInt32.toInt32)), (.int ((own_dg (Int64.ofNat N) (6 : Int32)).toUInt32.toUInt16.toUInt32.toInt32)), (.int ((own_dg (Int64.ofNat N) (5 : Int32)).toUInt32.toUInt16.toUInt32.toInt32)), (.int ((own_dg (Int64.ofNat N) (4 : Int32)).toUInt32.toUInt16.toUInt32.toInt32)), (.int ((own_dg (Int64.ofNat N) (3 : Int32)).toUInt32.toUInt16.toUInt32.toInt32)), (.int ((own_dg (Int64.ofNat N) (2 : Int32)).toUInt32.toUInt16.toUInt32.toInt32)), (.int ((own_dg (Int64.ofNat N) (1 : Int32)).toUInt32.toUInt16.toUInt32.toInt32)), (.int ((own_dg (Int64.ofNat N) (0 : Int32)).toUInt32.toUInt16.toUInt32.toInt32)), (.int ((((48 : Int32) + (tt / (10 : Int32))).toUInt32.toUInt16.toUInt32.toInt32).toUInt32.toUInt16.toUInt32.toInt32)), (.int ((((48 : Int32) + (tt % (10 : Int32))).toUInt32.toUInt16.toUInt32.toInt32).toUInt32.toUInt16.toUInt32.toInt32))] (.int (0 : Int32)) := f92_2.keep Kq93 nin0
        have f93_3 : Exa Z T93.heap b70 "java/lang/String" := f92_3.keep Kq93
        have f93_4 : Fld Z T93.heap b70 "java/lang/String" "coder" "B" (.int (0 : Int32)) := f92_4.keep Kq93 nin0
        have f93_5 : Fld Z T93.heap b70 "java/lang/String" "value" "[B" (.ref by71) := f92_5.keep Kq93 nin0
        have f93_6 : Arv Z T93.heap by71 kb71 .byte (20 : Int32) [(.int (((own_dg (Int64.ofNat N) (17 : Int32)).toUInt32.toUInt16.toUInt32.toInt32)).toInt8.toInt32), (.int (((own_dg (Int64.ofNat N) (16 : Int32)).toUInt32.toUInt16.toUInt32.toInt32)).toInt8.toInt32), (.int (((own_dg (Int64.ofNat N) (15 : Int32)).toUInt32.toUInt16.toUInt32.toInt32)).toInt8.toInt32), (.int (((own_dg (Int64.ofNat N) (14 : Int32)).toUInt32.toUInt16.toUInt32.toInt32)).toInt8.toInt32), (.int (((own_dg (Int64.ofNat N) (13 : Int32)).toUInt32.toUInt16.toUInt32.toInt32)).toInt8.toInt32), (.int (((own_dg (Int64.ofNat N) (12 : Int32)).toUInt32.toUInt16.toUInt32.toInt32)).toInt8.toInt32), (.int (((own_dg (Int64.ofNat N) (11 : Int32)).toUInt32.toUInt16.toUInt32.toInt32)).toInt8.toInt32), (.int (((own_dg (Int64.ofNat N) (10 : Int32)).toUInt32.toUInt16.toUInt32.toInt32)).toInt8.toInt32), (.int (((own_dg (Int64.ofNat N) (9 : Int32)).toUInt32.toUInt16.toUInt32.toInt32)).toInt8.toInt32), (.int (((own_dg (Int64.ofNat N) (8 : Int32)).toUInt32.toUInt16.toUInt32.toInt32)).toInt8.toInt32), (.int (((own_dg (Int64.ofNat N) (7 : Int32)).toUInt32.toUInt16.toUInt32.toInt32)).toInt8.toInt32), (.int (((own_dg (Int64.ofNat N) (6 : Int32)).toUInt32.toUInt16.toUInt32.toInt32)).toInt8.toInt32), (.int (((own_dg (Int64.ofNat N) (5 : Int32)).toUInt32.toUInt16.toUInt32.toInt32)).toInt8.toInt32), (.int (((own_dg (Int64.ofNat N) (4 : Int32)).toUInt32.toUInt16.toUInt32.toInt32)).toInt8.toInt32), (.int (((own_dg (Int64.ofNat N) (3 : Int32)).toUInt32.toUInt16.toUInt32.toInt32)).toInt8.toInt32), (.int (((own_dg (Int64.ofNat N) (2 : Int32)).toUInt32.toUInt16.toUInt32.toInt32)).toInt8.toInt32), (.int (((own_dg (Int64.ofNat N) (1 : Int32)).toUInt32.toUInt16.toUInt32.toInt32)).toInt8.toInt32), (.int (((own_dg (Int64.ofNat N) (0 : Int32)).toUInt32.toUInt16.toUInt32.toInt32)).toInt8.toInt32), (.int (((((48 : Int32) + (tt / (10 : Int32))).toUInt32.toUInt16.toUInt32.toInt32).toUInt32.toUInt16.toUInt32.toInt32)).toInt8.toInt32), (.int (((((48 : Int32) + (tt % (10 : Int32))).toUInt32.toUInt16.toUInt32.toInt32).toUInt32.toUInt16.toUInt32.toInt32)).toInt8.toInt32)] (.int (0 : Int32)) := f92_6.keep Kq93 nin0
        have K93 : Keep h0 T93.heap [] := K92.trans Kq93 all0
        refine own_step (U' := (T93.setTop (mkF m 431 #[.val (.long p1), .second, .val (.int p2), .val (.int p3), .val (.int p4), .val (.long (Int64.ofNat N)), .second, .val (.int tt), .val (.ref b27), .val (.ref b70), .val (.int ss), .val (.int ee), .val (.long (((own_lrem ((Int64.ofNat N) / (own_p10 ((18 : Int32) - e18v))) (own_p10 nl)) * (own_p10 tl)) + (0 : Int64))), .second, .val (.int e18v), .val (.int nl), .val (.long (own_lrem ((Int64.ofNat N) / (own_p10 ((18 : Int32) - e18v))) (own_p10 nl))), .second, .val (.int tsv), .val (.int tl), .val (.long (0 : Int64)), .second] [(.long (own_vv (N * 100 + TT) SS EE))]))) (fun t ht => st93 _ ht) ?_
        refine own_step (U' := (T93.setTop (mkF m 433 #[.val (.long p1), .second, .val (.int p2), .val (.int p3), .val (.int p4), .val (.long (Int64.ofNat N)), .second, .val (.int tt), .val (.ref b27), .val (.ref b70), .val (.int ss), .val (.int ee), .val (.long (((own_lrem ((Int64.ofNat N) / (own_p10 ((18 : Int32) - e18v))) (own_p10 nl)) * (own_p10 tl)) + (0 : Int64))), .second, .val (.long (own_vv (N * 100 + TT) SS EE)), .second, .val (.long (own_lrem ((Int64.ofNat N) / (own_p10 ((18 : Int32) - e18v))) (own_p10 nl))), .second, .val (.int tsv), .val (.int tl), .val (.long (0 : Int64)), .second] []))) (fun t ht => XT.lstore X93.here hx rfl (hb hby at_431) rfl (l' := #[.val (.long p1), .second, .val (.int p2), .val (.int p3), .val (.int p4), .val (.long (Int64.ofNat N)), .second, .val (.int tt), .val (.ref b27), .val (.ref b70), .val (.int ss), .val (.int ee), .val (.long (((own_lrem ((Int64.ofNat N) / (own_p10 ((18 : Int32) - e18v))) (own_p10 nl)) * (own_p10 tl)) + (0 : Int64))), .second, .val (.long (own_vv (N * 100 + TT) SS EE)), .second, .val (.long (own_lrem ((Int64.ofNat N) / (own_p10 ((18 : Int32) - e18v))) (own_p10 nl))), .second, .val (.int tsv), .val (.int tl), .val (.long (0 : Int64)), .second]) rfl ht) ?_
        refine own_step (U' := (T93.setTop (mkF m 435 #[.val (.long p1), .second, .val (.int p2), .val (.int p3), .val (.int p4), .val (.long (Int64.ofNat N)), .second, .val (.int tt), .val (.ref b27), .val (.ref b70), .val (.int ss), .val (.int ee), .val (.long (((own_lrem ((Int64.ofNat N) / (own_p10 ((18 : Int32) - e18v))) (own_p10 nl)) * (own_p10 tl)) + (0 : Int64))), .second, .val (.long (own_vv (N * 100 + TT) SS EE)), .second, .val (.long (own_lrem ((Int64.ofNat N) / (own_p10 ((18 : Int32) - e18v))) (own_p10 nl))), .second, .val (.int tsv), .val (.int tl), .val (.long (0 : Int64)), .second] [(.long (own_vv (N * 100 + TT) SS EE))]))) (fun t ht => XT.lload X93.here hx rfl (hb hby at_433) rfl ht) ?_
        refine own_step (U' := (T93.setTop (mkF m 437 #[.val (.long p1), .second, .val (.int p2), .val (.int p3), .val (.int p4), .val (.long (Int64.ofNat N)), .second, .val (.int tt), .val (.ref b27), .val (.ref b70), .val (.int ss), .val (.int ee), .val (.long (((own_lrem ((Int64.ofNat N) / (own_p10 ((18 : Int32) - e18v))) (own_p10 nl)) * (own_p10 tl)) + (0 : Int64))), .second, .val (.long (own_vv (N * 100 + TT) SS EE)), .second, .val (.long (own_lrem ((Int64.ofNat N) / (own_p10 ((18 : Int32) - e18v))) (own_p10 nl))), .second, .val (.int tsv), .val (.int tl), .val (.long (0 : Int64)), .second] [(.long (((own_lrem ((Int64.ofNat N) / (own_p10 ((18 : Int32) - e18v))) (own_p10 nl)) * (own_p10 tl)) + (0 : Int64))), (.long (own_vv (N * 100 + TT) SS EE))]))) (fun t ht => XT.lload X93.here hx rfl (hb hby at_435) rfl ht) ?_
        refine own_step (U' := (T93.setTop (mkF m 438 #[.val (.long p1), .second, .val (.int p2), .val (.int p3), .val (.int p4), .val (.long (Int64.ofNat N)), .second, .val (.int tt), .val (.ref b27), .val (.ref b70), .val (.int ss), .val (.int ee), .val (.long (((own_lrem ((Int64.ofNat N) / (own_p10 ((18 : Int32) - e18v))) (own_p10 nl)) * (own_p10 tl)) + (0 : Int64))), .second, .val (.long (own_vv (N * 100 + TT) SS EE)), .second, .val (.long (own_lrem ((Int64.ofNat N) / (own_p10 ((18 : Int32) - e18v))) (own_p10 nl))), .second, .val (.int tsv), .val (.int tl), .val (.long (0 : Int64)), .second] [(.int (XT.cmpL (own_vv (N * 100 + TT) SS EE) (((own_lrem ((Int64.ofNat N) / (own_p10 ((18 : Int32) - e18v))) (own_p10 nl)) * (own_p10 tl)) + (0 : Int64))))]))) (fun t ht => XT.lcmp X93.here hx rfl (hb hby at_437) rfl ht) ?_
        refine own_step (U' := (T93.setTop (mkF m 441 #[.val (.long p1), .second, .val (.int p2), .val (.int p3), .val (.int p4), .val (.long (Int64.ofNat N)), .second, .val (.int tt), .val (.ref b27), .val (.ref b70), .val (.int ss), .val (.int ee), .val (.long (((own_lrem ((Int64.ofNat N) / (own_p10 ((18 : Int32) - e18v))) (own_p10 nl)) * (own_p10 tl)) + (0 : Int64))), .second, .val (.long (own_vv (N * 100 + TT) SS EE)), .second, .val (.long (own_lrem ((Int64.ofNat N) / (own_p10 ((18 : Int32) - e18v))) (own_p10 nl))), .second, .val (.int tsv), .val (.int tl), .val (.long (0 : Int64)), .second] []))) (fun t ht => XS.ifNo X93.here hx rfl (hb hby at_438) rfl (XT.ll_ne_f ((own_fin hT hSE hE (fun q => hc301_73 ((own_gt18 hss hee hSE hE).mpr q)) (by rw [if_neg (mt (own_nlz hnl).mpr hc334_77)]; exact own_part hN (own_18B he18 (by omega)) ⟨hnl, by omega⟩) (by rw [if_pos ((own_nlz htl).mp hc382_91)]; rfl) ⟨htl, by omega⟩) : (own_vv (N * 100 + TT) SS EE) = (((own_lrem ((Int64.ofNat N) / (own_p10 ((18 : Int32) - e18v))) (own_p10 nl)) * (own_p10 tl)) + (0 : Int64)))) ht) ?_
        refine own_step (U' := (T93.setTop (mkF m 442 #[.val (.long p1), .second, .val (.int p2), .val (.int p3), .val (.int p4), .val (.long (Int64.ofNat N)), .second, .val (.int tt), .val (.ref b27), .val (.ref b70), .val (.int ss), .val (.int ee), .val (.long (((own_lrem ((Int64.ofNat N) / (own_p10 ((18 : Int32) - e18v))) (own_p10 nl)) * (own_p10 tl)) + (0 : Int64))), .second, .val (.long (own_vv (N * 100 + TT) SS EE)), .second, .val (.long (own_lrem ((Int64.ofNat N) / (own_p10 ((18 : Int32) - e18v))) (own_p10 nl))), .second, .val (.int tsv), .val (.int tl), .val (.long (0 : Int64)), .second] [(.int (1 : Int32))]))) (fun t ht => XS.iconst X93.here hx rfl (hb hby at_441) ht) ?_
        refine own_step (U' := (T93.setTop (mkF m 446 #[.val (.long p1), .second, .val (.int p2), .val (.int p3), .val (.int p4), .val (.long (Int64.ofNat N)), .second, .val (.int tt), .val (.ref b27), .val (.ref b70), .val (.int ss), .val (.int ee), .val (.long (((own_lrem ((Int64.ofNat N) / (own_p10 ((18 : Int32) - e18v))) (own_p10 nl)) * (own_p10 tl)) + (0 : Int64))), .second, .val (.long (own_vv (N * 100 + TT) SS EE)), .second, .val (.long (own_lrem ((Int64.ofNat N) / (own_p10 ((18 : Int32) - e18v))) (own_p10 nl))), .second, .val (.int tsv), .val (.int tl), .val (.long (0 : Int64)), .second] [(.int (1 : Int32))]))) (fun t ht => XS.goto X93.here hx rfl (pc0 := 442) (pc' := 446) rfl (hb hby at_442) (by decide) (by decide) ht) ?_
        refine own_ret X93 (v := (some (.int (nar .boolean (1 : Int32))))) (fun h => by rw [Bd.returns] at h; cases h) Bd.notSynchronized (by decide) (by decide) ?_ (fun fs hr => retN X93 hx (t := .boolean) Bd.returns (by simp) (hb hby at_446) hr)
        show own_Q_law Z p1 p2 p3 p4 cz fm h0 n0 _ T93.heap _
        show own_Q_law Z p1 p2 p3 p4 cz fm h0 n0 _ T93.heap _
        exact ⟨rfl, N93⟩
      ·
        refine own_step (U' := (T90.setTop (mkF m 389 #[.val (.long p1), .second, .val (.int p2), .val (.int p3), .val (.int p4), .val (.long (Int64.ofNat N)), .second, .val (.int tt), .val (.ref b27), .val (.ref b70), .val (.int ss), .val (.int ee), .unset, .unset, .val (.int e18v), .val (.int nl), .val (.long (own_lrem ((Int64.ofNat N) / (own_p10 ((18 : Int32) - e18v))) (own_p10 nl))), .second, .val (.int tsv), .val (.int tl), .unset, .unset] []))) (fun t ht => XS.ifYes X90.here hx rfl (pc0 := 382) (pc' := 389) rfl (hb hby at_382) rfl (XT.i0_ne_t hc382_91) (by decide) (by decide) ht) ?_
        refine own_step (U' := (T90.setTop (mkF m 391 #[.val (.long p1), .second, .val (.int p2), .val (.int p3), .val (.int p4), .val (.long (Int64.ofNat N)), .second, .val (.int tt), .val (.ref b27), .val (.ref b70), .val (.int ss), .val (.int ee), .unset, .unset, .val (.int e18v), .val (.int nl), .val (.long (own_lrem ((Int64.ofNat N) / (own_p10 ((18 : Int32) - e18v))) (own_p10 nl))), .second, .val (.int tsv), .val (.int tl), .unset, .unset] [(.int tt)]))) (fun t ht => XS.iload X90.here hx rfl (hb hby at_389) rfl ht) ?_
        refine own_step (U' := (T90.setTop (mkF m 392 #[.val (.long p1), .second, .val (.int p2), .val (.int p3), .val (.int p4), .val (.long (Int64.ofNat N)), .second, .val (.int tt), .val (.ref b27), .val (.ref b70), .val (.int ss), .val (.int ee), .unset, .unset, .val (.int e18v), .val (.int nl), .val (.long (own_lrem ((Int64.ofNat N) / (own_p10 ((18 : Int32) - e18v))) (own_p10 nl))), .second, .val (.int tsv), .val (.int tl), .unset, .unset] [(.long (tt.toInt64))]))) (fun t ht => XT.i2l X90.here hx rfl (hb hby at_391) rfl ht) ?_
        refine own_step (U' := (T90.setTop (mkF m 394 #[.val (.long p1), .second, .val (.int p2), .val (.int p3), .val (.int p4), .val (.long (Int64.ofNat N)), .second, .val (.int tt), .val (.ref b27), .val (.ref b70), .val (.int ss), .val (.int ee), .unset, .unset, .val (.int e18v), .val (.int nl), .val (.long (own_lrem ((Int64.ofNat N) / (own_p10 ((18 : Int32) - e18v))) (own_p10 nl))), .second, .val (.int tsv), .val (.int tl), .unset, .unset] [(.int (20 : Int32)), (.long (tt.toInt64))]))) (fun t ht => XS.bipush X90.here hx rfl (hb hby at_392) ht) ?_
        refine own_step (U' := (T90.setTop (mkF m 396 #[.val (.long p1), .second, .val (.int p2), .val (.int p3), .val (.int p4), .val (.long (Int64.ofNat N)), .second, .val (.int tt), .val (.ref b27), .val (.ref b70), .val (.int ss), .val (.int ee), .unset, .unset, .val (.int e18v), .val (.int nl), .val (.long (own_lrem ((Int64.ofNat N) / (own_p10 ((18 : Int32) - e18v))) (own_p10 nl))), .second, .val (.int tsv), .val (.int tl), .unset, .unset] [(.int ee), (.int (20 : Int32)), (.long (tt.toInt64))]))) (fun t ht => XS.iload X90.here hx rfl (hb hby at_394) rfl ht) ?_
        refine own_step (U' := (T90.setTop (mkF m 397 #[.val (.long p1), .second, .val (.int p2), .val (.int p3), .val (.int p4), .val (.long (Int64.ofNat N)), .second, .val (.int tt), .val (.ref b27), .val (.ref b70), .val (.int ss), .val (.int ee), .unset, .unset, .val (.int e18v), .val (.int nl), .val (.long (own_lrem ((Int64.ofNat N) / (own_p10 ((18 : Int32) - e18v))) (own_p10 nl))), .second, .val (.int tsv), .val (.int tl), .unset, .unset] [(.int ((20 : Int32) - ee)), (.long (tt.toInt64))]))) (fun t ht => XS.isub X90.here hx rfl (hb hby at_396) rfl ht) ?_
        obtain ⟨_, _, ⟨T94, L94, k94, n94⟩, -, X94, ⟨Lc94, hQ94, l94, y94, z94⟩, st94⟩ := Jvm.LawKit.callS X90 hx (y := (⟨"com/example/version_parser/versionparser/DecimalDigitsValuePinLaw", "pow10", "(I)J"⟩ : MethodName)) hown (mvT hZ (hw _ (List.mem_of_getElem? (i := 8) rfl))) (mvT hZ (hw _ (List.mem_of_getElem? (i := 9) rfl))) (mvT hZ (hw _ (List.mem_of_getElem? (i := 6) rfl))) (mvT hZ (hw _ (List.mem_of_getElem? (i := 10) rfl))) (by decide) (backOf (W := 2) (own_m_p10 l Z a0 hw [] (((20 : Int32) - ee)) (20 - EE) T88.heap n0 (Nat.le_trans Z0 K88.1) (own_20B hee (by have := mt (own_nlz htl).mpr hc382_91; omega) hE)) hZ (hw _ (List.mem_of_getElem? (i := 10) rfl)) (hw _ (List.mem_of_getElem? (i := 6) rfl)) (by decide) (by decide)) (g := (mkF m 397 #[.val (.long p1), .second, .val (.int p2), .val (.int p3), .val (.int p4), .val (.long (Int64.ofNat N)), .second, .val (.int tt), .val (.ref b27), .val (.ref b70), .val (.int ss), .val (.int ee), .unset, .unset, .val (.int e18v), .val (.int nl), .val (.long (own_lrem ((Int64.ofNat N) / (own_p10 ((18 : Int32) - e18v))) (own_p10 nl))), .second, .val (.int tsv), .val (.int tl), .unset, .unset] [(.int ((20 : Int32) - ee)), (.long (tt.toInt64))])) rfl (by rw [hml]; rfl) (argsL := [(.int ((20 : Int32) - ee))]) (rest := [(.long (tt.toInt64))]) (lenOf own_pd0 rfl) rfl (by show 2 * 0 + _ ≤ _; exact Nat.le_of_eq rfl) (hb hby at_397) (fun _ _ => ⟨rfl, e90, (by decide : 23 + 1 ≤ _), (by decide : 424 + 19 ≤ _)⟩)
        dsimp only [Pt.U, Pt.locs, Pt.cells, Pt.slots] at X94 l94 y94 z94 st94 hQ94
        subst l94 y94 z94
        obtain ⟨rfl, Nq94, Kq94⟩ := hQ94
        have N94 := Fr.app N90 Nq94
        have f94_0 : Sta Z T94.heap "java/lang/String" "COMPACT_STRINGS" "Z" (.int cz) := own_sta_keep f88_0 Kq94 own_pl0
        have f94_1 : Sta Z T94.heap "jdk/internal/util/Preconditions" "SIOOBE_FORMATTER" "Ljava/util/function/BiFunction;" fm := own_sta_keep f88_1 Kq94 own_pl0
        have f94_2 : Arv Z T94.heap b27 k27 .char (20 : Int32) [(.int ((own_dg (Int64.ofNat N) (17 : Int32)).toUInt32.toUInt16.toUInt32.toInt32)), (.int ((own_dg (Int64.ofNat N) (16 : Int32)).toUInt32.toUInt16.toUInt32.toInt32)), (.int ((own_dg (Int64.ofNat N) (15 : Int32)).toUInt32.toUInt16.toUInt32.toInt32)), (.int ((own_dg (Int64.ofNat N) (14 : Int32)).toUInt32.toUInt16.toUInt32.toInt32)), (.int ((own_dg (Int64.ofNat N) (13 : Int32)).toUInt32.toUInt16.toUInt32.toInt32)), (.int ((own_dg (Int64.ofNat N) (12 : Int32)).toUInt32.toUInt16.toUInt32.toInt32)), (.int ((own_dg (Int64.ofNat N) (11 : Int32)).toUInt32.toUInt16.toUInt32.toInt32)), (.int ((own_dg (Int64.ofNat N) (10 : Int32)).toUInt32.toUInt16.toUInt32.toInt32)), (.int ((own_dg (Int64.ofNat N) (9 : Int32)).toUInt32.toUInt16.toUInt32.toInt32)), (.int ((own_dg (Int64.ofNat N) (8 : Int32)).toUInt32.toUInt16.toUInt32.toInt32)), (.int ((own_dg (Int64.ofNat N) (7 : Int32)).toUInt32.toUInt16.toUInt32.toInt32)), (.int ((own_dg (Int64.ofNat N) (6 : Int32)).toUInt32.toUInt16.toUInt32.toInt32)), (.int ((own_dg (Int64.ofNat N) (5 : Int32)).toUInt32.toUInt16.toUInt32.toInt32)), (.int ((own_dg (Int64.ofNat N) (4 : Int32)).toUInt32.toUInt16.toUInt32.toInt32)), (.int ((own_dg (Int64.ofNat N) (3 : Int32)).toUInt32.toUInt16.toUInt32.toInt32)), (.int ((own_dg (Int64.ofNat N) (2 : Int32)).toUInt32.toUInt16.toUInt32.toInt32)), (.int ((own_dg (Int64.ofNat N) (1 : Int32)).toUInt32.toUInt16.toUInt32.toInt32)), (.int ((own_dg (Int64.ofNat N) (0 : Int32)).toUInt32.toUInt16.toUInt32.toInt32)), (.int ((((48 : Int32) + (tt / (10 : Int32))).toUInt32.toUInt16.toUInt32.toInt32).toUInt32.toUInt16.toUInt32.toInt32)), (.int ((((48 : Int32) + (tt % (10 : Int32))).toUInt32.toUInt16.toUInt32.toInt32).toUInt32.toUInt16.toUInt32.toInt32))] (.int (0 : Int32)) := f88_2.keep Kq94 nin0
        have f94_3 : Exa Z T94.heap b70 "java/lang/String" := f88_3.keep Kq94
        have f94_4 : Fld Z T94.heap b70 "java/lang/String" "coder" "B" (.int (0 : Int32)) := f88_4.keep Kq94 nin0
        have f94_5 : Fld Z T94.heap b70 "java/lang/String" "value" "[B" (.ref by71) := f88_5.keep Kq94 nin0
        have f94_6 : Arv Z T94.heap by71 kb71 .byte (20 : Int32) [(.int (((own_dg (Int64.ofNat N) (17 : Int32)).toUInt32.toUInt16.toUInt32.toInt32)).toInt8.toInt32), (.int (((own_dg (Int64.ofNat N) (16 : Int32)).toUInt32.toUInt16.toUInt32.toInt32)).toInt8.toInt32), (.int (((own_dg (Int64.ofNat N) (15 : Int32)).toUInt32.toUInt16.toUInt32.toInt32)).toInt8.toInt32), (.int (((own_dg (Int64.ofNat N) (14 : Int32)).toUInt32.toUInt16.toUInt32.toInt32)).toInt8.toInt32), (.int (((own_dg (Int64.ofNat N) (13 : Int32)).toUInt32.toUInt16.toUInt32.toInt32)).toInt8.toInt32), (.int (((own_dg (Int64.ofNat N) (12 : Int32)).toUInt32.toUInt16.toUInt32.toInt32)).toInt8.toInt32), (.int (((own_dg (Int64.ofNat N) (11 : Int32)).toUInt32.toUInt16.toUInt32.toInt32)).toInt8.toInt32), (.int (((own_dg (Int64.ofNat N) (10 : Int32)).toUInt32.toUInt16.toUInt32.toInt32)).toInt8.toInt32), (.int (((own_dg (Int64.ofNat N) (9 : Int32)).toUInt32.toUInt16.toUInt32.toInt32)).toInt8.toInt32), (.int (((own_dg (Int64.ofNat N) (8 : Int32)).toUInt32.toUInt16.toUInt32.toInt32)).toInt8.toInt32), (.int (((own_dg (Int64.ofNat N) (7 : Int32)).toUInt32.toUInt16.toUInt32.toInt32)).toInt8.toInt32), (.int (((own_dg (Int64.ofNat N) (6 : Int32)).toUInt32.toUInt16.toUInt32.toInt32)).toInt8.toInt32), (.int (((own_dg (Int64.ofNat N) (5 : Int32)).toUInt32.toUInt16.toUInt32.toInt32)).toInt8.toInt32), (.int (((own_dg (Int64.ofNat N) (4 : Int32)).toUInt32.toUInt16.toUInt32.toInt32)).toInt8.toInt32), (.int (((own_dg (Int64.ofNat N) (3 : Int32)).toUInt32.toUInt16.toUInt32.toInt32)).toInt8.toInt32), (.int (((own_dg (Int64.ofNat N) (2 : Int32)).toUInt32.toUInt16.toUInt32.toInt32)).toInt8.toInt32), (.int (((own_dg (Int64.ofNat N) (1 : Int32)).toUInt32.toUInt16.toUInt32.toInt32)).toInt8.toInt32), (.int (((own_dg (Int64.ofNat N) (0 : Int32)).toUInt32.toUInt16.toUInt32.toInt32)).toInt8.toInt32), (.int (((((48 : Int32) + (tt / (10 : Int32))).toUInt32.toUInt16.toUInt32.toInt32).toUInt32.toUInt16.toUInt32.toInt32)).toInt8.toInt32), (.int (((((48 : Int32) + (tt % (10 : Int32))).toUInt32.toUInt16.toUInt32.toInt32).toUInt32.toUInt16.toUInt32.toInt32)).toInt8.toInt32)] (.int (0 : Int32)) := f88_6.keep Kq94 nin0
        have K94 : Keep h0 T94.heap [] := K88.trans Kq94 all0
        refine own_step (U' := (T94.setTop (mkF m 400 #[.val (.long p1), .second, .val (.int p2), .val (.int p3), .val (.int p4), .val (.long (Int64.ofNat N)), .second, .val (.int tt), .val (.ref b27), .val (.ref b70), .val (.int ss), .val (.int ee), .unset, .unset, .val (.int e18v), .val (.int nl), .val (.long (own_lrem ((Int64.ofNat N) / (own_p10 ((18 : Int32) - e18v))) (own_p10 nl))), .second, .val (.int tsv), .val (.int tl), .unset, .unset] [(.long (own_p10 ((20 : Int32) - ee))), (.long (tt.toInt64))]))) (fun t ht => st94 _ ht) ?_
        refine own_step (U' := (T94.setTop (mkF m 401 #[.val (.long p1), .second, .val (.int p2), .val (.int p3), .val (.int p4), .val (.long (Int64.ofNat N)), .second, .val (.int tt), .val (.ref b27), .val (.ref b70), .val (.int ss), .val (.int ee), .unset, .unset, .val (.int e18v), .val (.int nl), .val (.long (own_lrem ((Int64.ofNat N) / (own_p10 ((18 : Int32) - e18v))) (own_p10 nl))), .second, .val (.int tsv), .val (.int tl), .unset, .unset] [(.long ((tt.toInt64) / (own_p10 ((20 : Int32) - ee))))]))) (fun t ht => XT.ldiv X94.here hx rfl (hb hby at_400) rfl (own_p10_nz (own_20B hee (by have := mt (own_nlz htl).mpr hc382_91; omega) hE)) ht) ?_
        refine own_step (U' := (T94.setTop (mkF m 403 #[.val (.long p1), .second, .val (.int p2), .val (.int p3), .val (.int p4), .val (.long (Int64.ofNat N)), .second, .val (.int tt), .val (.ref b27), .val (.ref b70), .val (.int ss), .val (.int ee), .unset, .unset, .val (.int e18v), .val (.int nl), .val (.long (own_lrem ((Int64.ofNat N) / (own_p10 ((18 : Int32) - e18v))) (own_p10 nl))), .second, .val (.int tsv), .val (.int tl), .unset, .unset] [(.int tl), (.long ((tt.toInt64) / (own_p10 ((20 : Int32) - ee))))]))) (fun t ht => XS.iload X94.here hx rfl (hb hby at_401) rfl ht) ?_
        obtain ⟨_, _, ⟨T95, L95, k95, n95⟩, -, X95, ⟨Lc95, hQ95, l95, y95, z95⟩, st95⟩ := Jvm.LawKit.callS X94 hx (y := (⟨"com/example/version_parser/versionparser/DecimalDigitsValuePinLaw", "pow10", "(I)J"⟩ : MethodName)) hown (mvT hZ (hw _ (List.mem_of_getElem? (i := 8) rfl))) (mvT hZ (hw _ (List.mem_of_getElem? (i := 9) rfl))) (mvT hZ (hw _ (List.mem_of_getElem? (i := 6) rfl))) (mvT hZ (hw _ (List.mem_of_getElem? (i := 10) rfl))) (by decide) (backOf (W := 2) (own_m_p10 l Z a0 hw [] (tl) (EE - max SS 18) T94.heap n0 (Nat.le_trans Z0 K94.1) ⟨htl, by omega⟩) hZ (hw _ (List.mem_of_getElem? (i := 10) rfl)) (hw _ (List.mem_of_getElem? (i := 6) rfl)) (by decide) (by decide)) (g := (mkF m 403 #[.val (.long p1), .second, .val (.int p2), .val (.int p3), .val (.int p4), .val (.long (Int64.ofNat N)), .second, .val (.int tt), .val (.ref b27), .val (.ref b70), .val (.int ss), .val (.int ee), .unset, .unset, .val (.int e18v), .val (.int nl), .val (.long (own_lrem ((Int64.ofNat N) / (own_p10 ((18 : Int32) - e18v))) (own_p10 nl))), .second, .val (.int tsv), .val (.int tl), .unset, .unset] [(.int tl), (.long ((tt.toInt64) / (own_p10 ((20 : Int32) - ee))))])) rfl (by rw [hml]; rfl) (argsL := [(.int tl)]) (rest := [(.long ((tt.toInt64) / (own_p10 ((20 : Int32) - ee))))]) (lenOf own_pd0 rfl) rfl (by show 2 * 0 + _ ≤ _; exact Nat.le_of_eq rfl) (hb hby at_403) (fun _ _ => ⟨rfl, rfl, (by decide : 24 + 1 ≤ _), (by decide : 443 + 19 ≤ _)⟩)
        dsimp only [Pt.U, Pt.locs, Pt.cells, Pt.slots] at X95 l95 y95 z95 st95 hQ95
        subst l95 y95 z95
        obtain ⟨rfl, Nq95, Kq95⟩ := hQ95
        have N95 := Fr.app N94 Nq95
        have f95_0 : Sta Z T95.heap "java/lang/String" "COMPACT_STRINGS" "Z" (.int cz) := own_sta_keep f94_0 Kq95 own_pl0
        have f95_1 : Sta Z T95.heap "jdk/internal/util/Preconditions" "SIOOBE_FORMATTER" "Ljava/util/function/BiFunction;" fm := own_sta_keep f94_1 Kq95 own_pl0
        have f95_2 : Arv Z T95.heap b27 k27 .char (20 : Int32) [(.int ((own_dg (Int64.ofNat N) (17 : Int32)).toUInt32.toUInt16.toUInt32.toInt32)), (.int ((own_dg (Int64.ofNat N) (16 : Int32)).toUInt32.toUInt16.toUInt32.toInt32)), (.int ((own_dg (Int64.ofNat N) (15 : Int32)).toUInt32.toUInt16.toUInt32.toInt32)), (.int ((own_dg (Int64.ofNat N) (14 : Int32)).toUInt32.toUInt16.toUInt32.toInt32)), (.int ((own_dg (Int64.ofNat N) (13 : Int32)).toUInt32.toUInt16.toUInt32.toInt32)), (.int ((own_dg (Int64.ofNat N) (12 : Int32)).toUInt32.toUInt16.toUInt32.toInt32)), (.int ((own_dg (Int64.ofNat N) (11 : Int32)).toUInt32.toUInt16.toUInt32.toInt32)), (.int ((own_dg (Int64.ofNat N) (10 : Int32)).toUInt32.toUInt16.toUInt32.toInt32)), (.int ((own_dg (Int64.ofNat N) (9 : Int32)).toUInt32.toUInt16.toUInt32.toInt32)), (.int ((own_dg (Int64.ofNat N) (8 : Int32)).toUInt32.toUInt16.toUInt32.toInt32)), (.int ((own_dg (Int64.ofNat N) (7 : Int32)).toUInt32.toUInt16.toUInt32.toInt32)), (.int ((own_dg (Int64.ofNat N) (6 : Int32)).toUInt32.toUInt16.toUInt32.toInt32)), (.int ((own_dg (Int64.ofNat N) (5 : Int32)).toUInt32.toUInt16.toUInt32.toInt32)), (.int ((own_dg (Int64.ofNat N) (4 : Int32)).toUInt32.toUInt16.toUInt32.toInt32)), (.int ((own_dg (Int64.ofNat N) (3 : Int32)).toUInt32.toUInt16.toUInt32.toInt32)), (.int ((own_dg (Int64.ofNat N) (2 : Int32)).toUInt32.toUInt16.toUInt32.toInt32)), (.int ((own_dg (Int64.ofNat N) (1 : Int32)).toUInt32.toUInt16.toUInt32.toInt32)), (.int ((own_dg (Int64.ofNat N) (0 : Int32)).toUInt32.toUInt16.toUInt32.toInt32)), (.int ((((48 : Int32) + (tt / (10 : Int32))).toUInt32.toUInt16.toUInt32.toInt32).toUInt32.toUInt16.toUInt32.toInt32)), (.int ((((48 : Int32) + (tt % (10 : Int32))).toUInt32.toUInt16.toUInt32.toInt32).toUInt32.toUInt16.toUInt32.toInt32))] (.int (0 : Int32)) := f94_2.keep Kq95 nin0
        have f95_3 : Exa Z T95.heap b70 "java/lang/String" := f94_3.keep Kq95
        have f95_4 : Fld Z T95.heap b70 "java/lang/String" "coder" "B" (.int (0 : Int32)) := f94_4.keep Kq95 nin0
        have f95_5 : Fld Z T95.heap b70 "java/lang/String" "value" "[B" (.ref by71) := f94_5.keep Kq95 nin0
        have f95_6 : Arv Z T95.heap by71 kb71 .byte (20 : Int32) [(.int (((own_dg (Int64.ofNat N) (17 : Int32)).toUInt32.toUInt16.toUInt32.toInt32)).toInt8.toInt32), (.int (((own_dg (Int64.ofNat N) (16 : Int32)).toUInt32.toUInt16.toUInt32.toInt32)).toInt8.toInt32), (.int (((own_dg (Int64.ofNat N) (15 : Int32)).toUInt32.toUInt16.toUInt32.toInt32)).toInt8.toInt32), (.int (((own_dg (Int64.ofNat N) (14 : Int32)).toUInt32.toUInt16.toUInt32.toInt32)).toInt8.toInt32), (.int (((own_dg (Int64.ofNat N) (13 : Int32)).toUInt32.toUInt16.toUInt32.toInt32)).toInt8.toInt32), (.int (((own_dg (Int64.ofNat N) (12 : Int32)).toUInt32.toUInt16.toUInt32.toInt32)).toInt8.toInt32), (.int (((own_dg (Int64.ofNat N) (11 : Int32)).toUInt32.toUInt16.toUInt32.toInt32)).toInt8.toInt32), (.int (((own_dg (Int64.ofNat N) (10 : Int32)).toUInt32.toUInt16.toUInt32.toInt32)).toInt8.toInt32), (.int (((own_dg (Int64.ofNat N) (9 : Int32)).toUInt32.toUInt16.toUInt32.toInt32)).toInt8.toInt32), (.int (((own_dg (Int64.ofNat N) (8 : Int32)).toUInt32.toUInt16.toUInt32.toInt32)).toInt8.toInt32), (.int (((own_dg (Int64.ofNat N) (7 : Int32)).toUInt32.toUInt16.toUInt32.toInt32)).toInt8.toInt32), (.int (((own_dg (Int64.ofNat N) (6 : Int32)).toUInt32.toUInt16.toUInt32.toInt32)).toInt8.toInt32), (.int (((own_dg (Int64.ofNat N) (5 : Int32)).toUInt32.toUInt16.toUInt32.toInt32)).toInt8.toInt32), (.int (((own_dg (Int64.ofNat N) (4 : Int32)).toUInt32.toUInt16.toUInt32.toInt32)).toInt8.toInt32), (.int (((own_dg (Int64.ofNat N) (3 : Int32)).toUInt32.toUInt16.toUInt32.toInt32)).toInt8.toInt32), (.int (((own_dg (Int64.ofNat N) (2 : Int32)).toUInt32.toUInt16.toUInt32.toInt32)).toInt8.toInt32), (.int (((own_dg (Int64.ofNat N) (1 : Int32)).toUInt32.toUInt16.toUInt32.toInt32)).toInt8.toInt32), (.int (((own_dg (Int64.ofNat N) (0 : Int32)).toUInt32.toUInt16.toUInt32.toInt32)).toInt8.toInt32), (.int (((((48 : Int32) + (tt / (10 : Int32))).toUInt32.toUInt16.toUInt32.toInt32).toUInt32.toUInt16.toUInt32.toInt32)).toInt8.toInt32), (.int (((((48 : Int32) + (tt % (10 : Int32))).toUInt32.toUInt16.toUInt32.toInt32).toUInt32.toUInt16.toUInt32.toInt32)).toInt8.toInt32)] (.int (0 : Int32)) := f94_6.keep Kq95 nin0
        have K95 : Keep h0 T95.heap [] := K94.trans Kq95 all0
        refine own_step (U' := (T95.setTop (mkF m 406 #[.val (.long p1), .second, .val (.int p2), .val (.int p3), .val (.int p4), .val (.long (Int64.ofNat N)), .second, .val (.int tt), .val (.ref b27), .val (.ref b70), .val (.int ss), .val (.int ee), .unset, .unset, .val (.int e18v), .val (.int nl), .val (.long (own_lrem ((Int64.ofNat N) / (own_p10 ((18 : Int32) - e18v))) (own_p10 nl))), .second, .val (.int tsv), .val (.int tl), .unset, .unset] [(.long (own_p10 tl)), (.long ((tt.toInt64) / (own_p10 ((20 : Int32) - ee))))]))) (fun t ht => st95 _ ht) ?_
        refine own_step (U' := (T95.setTop (mkF m 407 #[.val (.long p1), .second, .val (.int p2), .val (.int p3), .val (.int p4), .val (.long (Int64.ofNat N)), .second, .val (.int tt), .val (.ref b27), .val (.ref b70), .val (.int ss), .val (.int ee), .unset, .unset, .val (.int e18v), .val (.int nl), .val (.long (own_lrem ((Int64.ofNat N) / (own_p10 ((18 : Int32) - e18v))) (own_p10 nl))), .second, .val (.int tsv), .val (.int tl), .unset, .unset] [(.long (own_lrem ((tt.toInt64) / (own_p10 ((20 : Int32) - ee))) (own_p10 tl)))]))) (fun t ht => XT.lrem X95.here hx rfl (hb hby at_406) rfl (own_p10_nz (j := EE - max SS 18) ⟨htl, by omega⟩) ht) ?_
        refine own_step (U' := (T95.setTop (mkF m 409 #[.val (.long p1), .second, .val (.int p2), .val (.int p3), .val (.int p4), .val (.long (Int64.ofNat N)), .second, .val (.int tt), .val (.ref b27), .val (.ref b70), .val (.int ss), .val (.int ee), .unset, .unset, .val (.int e18v), .val (.int nl), .val (.long (own_lrem ((Int64.ofNat N) / (own_p10 ((18 : Int32) - e18v))) (own_p10 nl))), .second, .val (.int tsv), .val (.int tl), .val (.long (own_lrem ((tt.toInt64) / (own_p10 ((20 : Int32) - ee))) (own_p10 tl))), .second] []))) (fun t ht => XT.lstore X95.here hx rfl (hb hby at_407) rfl (l' := #[.val (.long p1), .second, .val (.int p2), .val (.int p3), .val (.int p4), .val (.long (Int64.ofNat N)), .second, .val (.int tt), .val (.ref b27), .val (.ref b70), .val (.int ss), .val (.int ee), .unset, .unset, .val (.int e18v), .val (.int nl), .val (.long (own_lrem ((Int64.ofNat N) / (own_p10 ((18 : Int32) - e18v))) (own_p10 nl))), .second, .val (.int tsv), .val (.int tl), .val (.long (own_lrem ((tt.toInt64) / (own_p10 ((20 : Int32) - ee))) (own_p10 tl))), .second]) rfl ht) ?_
        refine own_step (U' := (T95.setTop (mkF m 411 #[.val (.long p1), .second, .val (.int p2), .val (.int p3), .val (.int p4), .val (.long (Int64.ofNat N)), .second, .val (.int tt), .val (.ref b27), .val (.ref b70), .val (.int ss), .val (.int ee), .unset, .unset, .val (.int e18v), .val (.int nl), .val (.long (own_lrem ((Int64.ofNat N) / (own_p10 ((18 : Int32) - e18v))) (own_p10 nl))), .second, .val (.int tsv), .val (.int tl), .val (.long (own_lrem ((tt.toInt64) / (own_p10 ((20 : Int32) - ee))) (own_p10 tl))), .second] [(.long (own_lrem ((Int64.ofNat N) / (own_p10 ((18 : Int32) - e18v))) (own_p10 nl)))]))) (fun t ht => XT.lload X95.here hx rfl (hb hby at_409) rfl ht) ?_
        refine own_step (U' := (T95.setTop (mkF m 413 #[.val (.long p1), .second, .val (.int p2), .val (.int p3), .val (.int p4), .val (.long (Int64.ofNat N)), .second, .val (.int tt), .val (.ref b27), .val (.ref b70), .val (.int ss), .val (.int ee), .unset, .unset, .val (.int e18v), .val (.int nl), .val (.long (own_lrem ((Int64.ofNat N) / (own_p10 ((18 : Int32) - e18v))) (own_p10 nl))), .second, .val (.int tsv), .val (.int tl), .val (.long (own_lrem ((tt.toInt64) / (own_p10 ((20 : Int32) - ee))) (own_p10 tl))), .second] [(.int tl), (.long (own_lrem ((Int64.ofNat N) / (own_p10 ((18 : Int32) - e18v))) (own_p10 nl)))]))) (fun t ht => XS.iload X95.here hx rfl (hb hby at_411) rfl ht) ?_
        obtain ⟨_, _, ⟨T96, L96, k96, n96⟩, -, X96, ⟨Lc96, hQ96, l96, y96, z96⟩, st96⟩ := Jvm.LawKit.callS X95 hx (y := (⟨"com/example/version_parser/versionparser/DecimalDigitsValuePinLaw", "pow10", "(I)J"⟩ : MethodName)) hown (mvT hZ (hw _ (List.mem_of_getElem? (i := 8) rfl))) (mvT hZ (hw _ (List.mem_of_getElem? (i := 9) rfl))) (mvT hZ (hw _ (List.mem_of_getElem? (i := 6) rfl))) (mvT hZ (hw _ (List.mem_of_getElem? (i := 10) rfl))) (by decide) (backOf (W := 2) (own_m_p10 l Z a0 hw [] (tl) (EE - max SS 18) T95.heap n0 (Nat.le_trans Z0 K95.1) ⟨htl, by omega⟩) hZ (hw _ (List.mem_of_getElem? (i := 10) rfl)) (hw _ (List.mem_of_getElem? (i := 6) rfl)) (by decide) (by decide)) (g := (mkF m 413 #[.val (.long p1), .second, .val (.int p2), .val (.int p3), .val (.int p4), .val (.long (Int64.ofNat N)), .second, .val (.int tt), .val (.ref b27), .val (.ref b70), .val (.int ss), .val (.int ee), .unset, .unset, .val (.int e18v), .val (.int nl), .val (.long (own_lrem ((Int64.ofNat N) / (own_p10 ((18 : Int32) - e18v))) (own_p10 nl))), .second, .val (.int tsv), .val (.int tl), .val (.long (own_lrem ((tt.toInt64) / (own_p10 ((20 : Int32) - ee))) (own_p10 tl))), .second] [(.int tl), (.long (own_lrem ((Int64.ofNat N) / (own_p10 ((18 : Int32) - e18v))) (own_p10 nl)))])) rfl (by rw [hml]; rfl) (argsL := [(.int tl)]) (rest := [(.long (own_lrem ((Int64.ofNat N) / (own_p10 ((18 : Int32) - e18v))) (own_p10 nl)))]) (lenOf own_pd0 rfl) rfl (by show 2 * 0 + _ ≤ _; exact Nat.le_of_eq rfl) (hb hby at_413) (fun _ _ => ⟨rfl, rfl, (by decide : 25 + 1 ≤ _), (by decide : 462 + 19 ≤ _)⟩)
        dsimp only [Pt.U, Pt.locs, Pt.cells, Pt.slots] at X96 l96 y96 z96 st96 hQ96
        subst l96 y96 z96
        obtain ⟨rfl, Nq96, Kq96⟩ := hQ96
        have N96 := Fr.app N95 Nq96
        have f96_0 : Sta Z T96.heap "java/lang/String" "COMPACT_STRINGS" "Z" (.int cz) := own_sta_keep f95_0 Kq96 own_pl0
        have f96_1 : Sta Z T96.heap "jdk/internal/util/Preconditions" "SIOOBE_FORMATTER" "Ljava/util/function/BiFunction;" fm := own_sta_keep f95_1 Kq96 own_pl0
        have f96_2 : Arv Z T96.heap b27 k27 .char (20 : Int32) [(.int ((own_dg (Int64.ofNat N) (17 : Int32)).toUInt32.toUInt16.toUInt32.toInt32)), (.int ((own_dg (Int64.ofNat N) (16 : Int32)).toUInt32.toUInt16.toUInt32.toInt32)), (.int ((own_dg (Int64.ofNat N) (15 : Int32)).toUInt32.toUInt16.toUInt32.toInt32)), (.int ((own_dg (Int64.ofNat N) (14 : Int32)).toUInt32.toUInt16.toUInt32.toInt32)), (.int ((own_dg (Int64.ofNat N) (13 : Int32)).toUInt32.toUInt16.toUInt32.toInt32)), (.int ((own_dg (Int64.ofNat N) (12 : Int32)).toUInt32.toUInt16.toUInt32.toInt32)), (.int ((own_dg (Int64.ofNat N) (11 : Int32)).toUInt32.toUInt16.toUInt32.toInt32)), (.int ((own_dg (Int64.ofNat N) (10 : Int32)).toUInt32.toUInt16.toUInt32.toInt32)), (.int ((own_dg (Int64.ofNat N) (9 : Int32)).toUInt32.toUInt16.toUInt32.toInt32)), (.int ((own_dg (Int64.ofNat N) (8 : Int32)).toUInt32.toUInt16.toUInt32.toInt32)), (.int ((own_dg (Int64.ofNat N) (7 : Int32)).toUInt32.toUInt16.toUInt32.toInt32)), (.int ((own_dg (Int64.ofNat N) (6 : Int32)).toUInt32.toUInt16.toUInt32.toInt32)), (.int ((own_dg (Int64.ofNat N) (5 : Int32)).toUInt32.toUInt16.toUInt32.toInt32)), (.int ((own_dg (Int64.ofNat N) (4 : Int32)).toUInt32.toUInt16.toUInt32.toInt32)), (.int ((own_dg (Int64.ofNat N) (3 : Int32)).toUInt32.toUInt16.toUInt32.toInt32)), (.int ((own_dg (Int64.ofNat N) (2 : Int32)).toUInt32.toUInt16.toUInt32.toInt32)), (.int ((own_dg (Int64.ofNat N) (1 : Int32)).toUInt32.toUInt16.toUInt32.toInt32)), (.int ((own_dg (Int64.ofNat N) (0 : Int32)).toUInt32.toUInt16.toUInt32.toInt32)), (.int ((((48 : Int32) + (tt / (10 : Int32))).toUInt32.toUInt16.toUInt32.toInt32).toUInt32.toUInt16.toUInt32.toInt32)), (.int ((((48 : Int32) + (tt % (10 : Int32))).toUInt32.toUInt16.toUInt32.toInt32).toUInt32.toUInt16.toUInt32.toInt32))] (.int (0 : Int32)) := f95_2.keep Kq96 nin0
        have f96_3 : Exa Z T96.heap b70 "java/lang/String" := f95_3.keep Kq96
        have f96_4 : Fld Z T96.heap b70 "java/lang/String" "coder" "B" (.int (0 : Int32)) := f95_4.keep Kq96 nin0
        have f96_5 : Fld Z T96.heap b70 "java/lang/String" "value" "[B" (.ref by71) := f95_5.keep Kq96 nin0
        have f96_6 : Arv Z T96.heap by71 kb71 .byte (20 : Int32) [(.int (((own_dg (Int64.ofNat N) (17 : Int32)).toUInt32.toUInt16.toUInt32.toInt32)).toInt8.toInt32), (.int (((own_dg (Int64.ofNat N) (16 : Int32)).toUInt32.toUInt16.toUInt32.toInt32)).toInt8.toInt32), (.int (((own_dg (Int64.ofNat N) (15 : Int32)).toUInt32.toUInt16.toUInt32.toInt32)).toInt8.toInt32), (.int (((own_dg (Int64.ofNat N) (14 : Int32)).toUInt32.toUInt16.toUInt32.toInt32)).toInt8.toInt32), (.int (((own_dg (Int64.ofNat N) (13 : Int32)).toUInt32.toUInt16.toUInt32.toInt32)).toInt8.toInt32), (.int (((own_dg (Int64.ofNat N) (12 : Int32)).toUInt32.toUInt16.toUInt32.toInt32)).toInt8.toInt32), (.int (((own_dg (Int64.ofNat N) (11 : Int32)).toUInt32.toUInt16.toUInt32.toInt32)).toInt8.toInt32), (.int (((own_dg (Int64.ofNat N) (10 : Int32)).toUInt32.toUInt16.toUInt32.toInt32)).toInt8.toInt32), (.int (((own_dg (Int64.ofNat N) (9 : Int32)).toUInt32.toUInt16.toUInt32.toInt32)).toInt8.toInt32), (.int (((own_dg (Int64.ofNat N) (8 : Int32)).toUInt32.toUInt16.toUInt32.toInt32)).toInt8.toInt32), (.int (((own_dg (Int64.ofNat N) (7 : Int32)).toUInt32.toUInt16.toUInt32.toInt32)).toInt8.toInt32), (.int (((own_dg (Int64.ofNat N) (6 : Int32)).toUInt32.toUInt16.toUInt32.toInt32)).toInt8.toInt32), (.int (((own_dg (Int64.ofNat N) (5 : Int32)).toUInt32.toUInt16.toUInt32.toInt32)).toInt8.toInt32), (.int (((own_dg (Int64.ofNat N) (4 : Int32)).toUInt32.toUInt16.toUInt32.toInt32)).toInt8.toInt32), (.int (((own_dg (Int64.ofNat N) (3 : Int32)).toUInt32.toUInt16.toUInt32.toInt32)).toInt8.toInt32), (.int (((own_dg (Int64.ofNat N) (2 : Int32)).toUInt32.toUInt16.toUInt32.toInt32)).toInt8.toInt32), (.int (((own_dg (Int64.ofNat N) (1 : Int32)).toUInt32.toUInt16.toUInt32.toInt32)).toInt8.toInt32), (.int (((own_dg (Int64.ofNat N) (0 : Int32)).toUInt32.toUInt16.toUInt32.toInt32)).toInt8.toInt32), (.int (((((48 : Int32) + (tt / (10 : Int32))).toUInt32.toUInt16.toUInt32.toInt32).toUInt32.toUInt16.toUInt32.toInt32)).toInt8.toInt32), (.int (((((48 : Int32) + (tt % (10 : Int32))).toUInt32.toUInt16.toUInt32.toInt32).toUInt32.toUInt16.toUInt32.toInt32)).toInt8.toInt32)] (.int (0 : Int32)) := f95_6.keep Kq96 nin0
        have K96 : Keep h0 T96.heap [] := K95.trans Kq96 all0
        refine own_step (U' := (T96.setTop (mkF m 416 #[.val (.long p1), .second, .val (.int p2), .val (.int p3), .val (.int p4), .val (.long (Int64.ofNat N)), .second, .val (.int tt), .val (.ref b27), .val (.ref b70), .val (.int ss), .val (.int ee), .unset, .unset, .val (.int e18v), .val (.int nl), .val (.long (own_lrem ((Int64.ofNat N) / (own_p10 ((18 : Int32) - e18v))) (own_p10 nl))), .second, .val (.int tsv), .val (.int tl), .val (.long (own_lrem ((tt.toInt64) / (own_p10 ((20 : Int32) - ee))) (own_p10 tl))), .second] [(.long (own_p10 tl)), (.long (own_lrem ((Int64.ofNat N) / (own_p10 ((18 : Int32) - e18v))) (own_p10 nl)))]))) (fun t ht => st96 _ ht) ?_
        refine own_step (U' := (T96.setTop (mkF m 417 #[.val (.long p1), .second, .val (.int p2), .val (.int p3), .val (.int p4), .val (.long (Int64.ofNat N)), .second, .val (.int tt), .val (.ref b27), .val (.ref b70), .val (.int ss), .val (.int ee), .unset, .unset, .val (.int e18v), .val (.int nl), .val (.long (own_lrem ((Int64.ofNat N) / (own_p10 ((18 : Int32) - e18v))) (own_p10 nl))), .second, .val (.int tsv), .val (.int tl), .val (.long (own_lrem ((tt.toInt64) / (own_p10 ((20 : Int32) - ee))) (own_p10 tl))), .second] [(.long ((own_lrem ((Int64.ofNat N) / (own_p10 ((18 : Int32) - e18v))) (own_p10 nl)) * (own_p10 tl)))]))) (fun t ht => XT.lmul X96.here hx rfl (hb hby at_416) rfl ht) ?_
        refine own_step (U' := (T96.setTop (mkF m 419 #[.val (.long p1), .second, .val (.int p2), .val (.int p3), .val (.int p4), .val (.long (Int64.ofNat N)), .second, .val (.int tt), .val (.ref b27), .val (.ref b70), .val (.int ss), .val (.int ee), .unset, .unset, .val (.int e18v), .val (.int nl), .val (.long (own_lrem ((Int64.ofNat N) / (own_p10 ((18 : Int32) - e18v))) (own_p10 nl))), .second, .val (.int tsv), .val (.int tl), .val (.long (own_lrem ((tt.toInt64) / (own_p10 ((20 : Int32) - ee))) (own_p10 tl))), .second] [(.long (own_lrem ((tt.toInt64) / (own_p10 ((20 : Int32) - ee))) (own_p10 tl))), (.long ((own_lrem ((Int64.ofNat N) / (own_p10 ((18 : Int32) - e18v))) (own_p10 nl)) * (own_p10 tl)))]))) (fun t ht => XT.lload X96.here hx rfl (hb hby at_417) rfl ht) ?_
        refine own_step (U' := (T96.setTop (mkF m 420 #[.val (.long p1), .second, .val (.int p2), .val (.int p3), .val (.int p4), .val (.long (Int64.ofNat N)), .second, .val (.int tt), .val (.ref b27), .val (.ref b70), .val (.int ss), .val (.int ee), .unset, .unset, .val (.int e18v), .val (.int nl), .val (.long (own_lrem ((Int64.ofNat N) / (own_p10 ((18 : Int32) - e18v))) (own_p10 nl))), .second, .val (.int tsv), .val (.int tl), .val (.long (own_lrem ((tt.toInt64) / (own_p10 ((20 : Int32) - ee))) (own_p10 tl))), .second] [(.long (((own_lrem ((Int64.ofNat N) / (own_p10 ((18 : Int32) - e18v))) (own_p10 nl)) * (own_p10 tl)) + (own_lrem ((tt.toInt64) / (own_p10 ((20 : Int32) - ee))) (own_p10 tl))))]))) (fun t ht => XT.ladd X96.here hx rfl (hb hby at_419) rfl ht) ?_
        refine own_step (U' := (T96.setTop (mkF m 422 #[.val (.long p1), .second, .val (.int p2), .val (.int p3), .val (.int p4), .val (.long (Int64.ofNat N)), .second, .val (.int tt), .val (.ref b27), .val (.ref b70), .val (.int ss), .val (.int ee), .val (.long (((own_lrem ((Int64.ofNat N) / (own_p10 ((18 : Int32) - e18v))) (own_p10 nl)) * (own_p10 tl)) + (own_lrem ((tt.toInt64) / (own_p10 ((20 : Int32) - ee))) (own_p10 tl)))), .second, .val (.int e18v), .val (.int nl), .val (.long (own_lrem ((Int64.ofNat N) / (own_p10 ((18 : Int32) - e18v))) (own_p10 nl))), .second, .val (.int tsv), .val (.int tl), .val (.long (own_lrem ((tt.toInt64) / (own_p10 ((20 : Int32) - ee))) (own_p10 tl))), .second] []))) (fun t ht => XT.lstore X96.here hx rfl (hb hby at_420) rfl (l' := #[.val (.long p1), .second, .val (.int p2), .val (.int p3), .val (.int p4), .val (.long (Int64.ofNat N)), .second, .val (.int tt), .val (.ref b27), .val (.ref b70), .val (.int ss), .val (.int ee), .val (.long (((own_lrem ((Int64.ofNat N) / (own_p10 ((18 : Int32) - e18v))) (own_p10 nl)) * (own_p10 tl)) + (own_lrem ((tt.toInt64) / (own_p10 ((20 : Int32) - ee))) (own_p10 tl)))), .second, .val (.int e18v), .val (.int nl), .val (.long (own_lrem ((Int64.ofNat N) / (own_p10 ((18 : Int32) - e18v))) (own_p10 nl))), .second, .val (.int tsv), .val (.int tl), .val (.long (own_lrem ((tt.toInt64) / (own_p10 ((20 : Int32) - ee))) (own_p10 tl))), .second]) rfl ht) ?_
        refine own_step (U' := (T96.setTop (mkF m 424 #[.val (.long p1), .second, .val (.int p2), .val (.int p3), .val (.int p4), .val (.long (Int64.ofNat N)), .second, .val (.int tt), .val (.ref b27), .val (.ref b70), .val (.int ss), .val (.int ee), .val (.long (((own_lrem ((Int64.ofNat N) / (own_p10 ((18 : Int32) - e18v))) (own_p10 nl)) * (own_p10 tl)) + (own_lrem ((tt.toInt64) / (own_p10 ((20 : Int32) - ee))) (own_p10 tl)))), .second, .val (.int e18v), .val (.int nl), .val (.long (own_lrem ((Int64.ofNat N) / (own_p10 ((18 : Int32) - e18v))) (own_p10 nl))), .second, .val (.int tsv), .val (.int tl), .val (.long (own_lrem ((tt.toInt64) / (own_p10 ((20 : Int32) - ee))) (own_p10 tl))), .second] [(.ref b70)]))) (fun t ht => XS.aload X96.here hx rfl (hb hby at_422) rfl rfl ht) ?_
        refine own_step (U' := (T96.setTop (mkF m 426 #[.val (.long p1), .second, .val (.int p2), .val (.int p3), .val (.int p4), .val (.long (Int64.ofNat N)), .second, .val (.int tt), .val (.ref b27), .val (.ref b70), .val (.int ss), .val (.int ee), .val (.long (((own_lrem ((Int64.ofNat N) / (own_p10 ((18 : Int32) - e18v))) (own_p10 nl)) * (own_p10 tl)) + (own_lrem ((tt.toInt64) / (own_p10 ((20 : Int32) - ee))) (own_p10 tl)))), .second, .val (.int e18v), .val (.int nl), .val (.long (own_lrem ((Int64.ofNat N) / (own_p10 ((18 : Int32) - e18v))) (own_p10 nl))), .second, .val (.int tsv), .val (.int tl), .val (.long (own_lrem ((tt.toInt64) / (own_p10 ((20 : Int32) - ee))) (own_p10 tl))), .second] [(.int ss), (.ref b70)]))) (fun t ht => XS.iload X96.here hx rfl (hb hby at_424) rfl ht) ?_
        refine own_step (U' := (T96.setTop (mkF m 428 #[.val (.long p1), .second, .val (.int p2), .val (.int p3), .val (.int p4), .val (.long (Int64.ofNat N)), .second, .val (.int tt), .val (.ref b27), .val (.ref b70), .val (.int ss), .val (.int ee), .val (.long (((own_lrem ((Int64.ofNat N) / (own_p10 ((18 : Int32) - e18v))) (own_p10 nl)) * (own_p10 tl)) + (own_lrem ((tt.toInt64) / (own_p10 ((20 : Int32) - ee))) (own_p10 tl)))), .second, .val (.int e18v), .val (.int nl), .val (.long (own_lrem ((Int64.ofNat N) / (own_p10 ((18 : Int32) - e18v))) (own_p10 nl))), .second, .val (.int tsv), .val (.int tl), .val (.long (own_lrem ((tt.toInt64) / (own_p10 ((20 : Int32) - ee))) (own_p10 tl))), .second] [(.int ee), (.int ss), (.ref b70)]))) (fun t ht => XS.iload X96.here hx rfl (hb hby at_426) rfl ht) ?_
        have hdig96 : ∀ i, i < 20 → ([((own_dg (Int64.ofNat N) (17 : Int32)).toUInt32.toUInt16.toUInt32.toInt32), ((own_dg (Int64.ofNat N) (16 : Int32)).toUInt32.toUInt16.toUInt32.toInt32), ((own_dg (Int64.ofNat N) (15 : Int32)).toUInt32.toUInt16.toUInt32.toInt32), ((own_dg (Int64.ofNat N) (14 : Int32)).toUInt32.toUInt16.toUInt32.toInt32), ((own_dg (Int64.ofNat N) (13 : Int32)).toUInt32.toUInt16.toUInt32.toInt32), ((own_dg (Int64.ofNat N) (12 : Int32)).toUInt32.toUInt16.toUInt32.toInt32), ((own_dg (Int64.ofNat N) (11 : Int32)).toUInt32.toUInt16.toUInt32.toInt32), ((own_dg (Int64.ofNat N) (10 : Int32)).toUInt32.toUInt16.toUInt32.toInt32), ((own_dg (Int64.ofNat N) (9 : Int32)).toUInt32.toUInt16.toUInt32.toInt32), ((own_dg (Int64.ofNat N) (8 : Int32)).toUInt32.toUInt16.toUInt32.toInt32), ((own_dg (Int64.ofNat N) (7 : Int32)).toUInt32.toUInt16.toUInt32.toInt32), ((own_dg (Int64.ofNat N) (6 : Int32)).toUInt32.toUInt16.toUInt32.toInt32), ((own_dg (Int64.ofNat N) (5 : Int32)).toUInt32.toUInt16.toUInt32.toInt32), ((own_dg (Int64.ofNat N) (4 : Int32)).toUInt32.toUInt16.toUInt32.toInt32), ((own_dg (Int64.ofNat N) (3 : Int32)).toUInt32.toUInt16.toUInt32.toInt32), ((own_dg (Int64.ofNat N) (2 : Int32)).toUInt32.toUInt16.toUInt32.toInt32), ((own_dg (Int64.ofNat N) (1 : Int32)).toUInt32.toUInt16.toUInt32.toInt32), ((own_dg (Int64.ofNat N) (0 : Int32)).toUInt32.toUInt16.toUInt32.toInt32), ((((48 : Int32) + (tt / (10 : Int32))).toUInt32.toUInt16.toUInt32.toInt32).toUInt32.toUInt16.toUInt32.toInt32), ((((48 : Int32) + (tt % (10 : Int32))).toUInt32.toUInt16.toUInt32.toInt32).toUInt32.toUInt16.toUInt32.toInt32)] : List Int32).getD i 0 = own_dgN (N * 100 + TT) i := by
          intro i hi
          have hc : i = 0 ∨ i = 1 ∨ i = 2 ∨ i = 3 ∨ i = 4 ∨ i = 5 ∨ i = 6 ∨ i = 7 ∨ i = 8 ∨ i = 9 ∨ i = 10 ∨ i = 11 ∨ i = 12 ∨ i = 13 ∨ i = 14 ∨ i = 15 ∨ i = 16 ∨ i = 17 ∨ i = 18 ∨ i = 19 := by omega
          rcases hc with rfl | rfl | rfl | rfl | rfl | rfl | rfl | rfl | rfl | rfl | rfl | rfl | rfl | rfl | rfl | rfl | rfl | rfl | rfl | rfl
          · show ((own_dg (Int64.ofNat N) (17 : Int32)).toUInt32.toUInt16.toUInt32.toInt32) = _
            exact (own_dgc (T := TT) hN hT (k := (17 : Int32)) (j := 17) ⟨rfl, by decide⟩ (by decide))
          · show ((own_dg (Int64.ofNat N) (16 : Int32)).toUInt32.toUInt16.toUInt32.toInt32) = _
            exact (own_dgc (T := TT) hN hT (k := (16 : Int32)) (j := 16) ⟨rfl, by decide⟩ (by decide))
          · show ((own_dg (Int64.ofNat N) (15 : Int32)).toUInt32.toUInt16.toUInt32.toInt32) = _
            exact (own_dgc (T := TT) hN hT (k := (15 : Int32)) (j := 15) ⟨rfl, by decide⟩ (by decide))
          · show ((own_dg (Int64.ofNat N) (14 : Int32)).toUInt32.toUInt16.toUInt32.toInt32) = _
            exact (own_dgc (T := TT) hN hT (k := (14 : Int32)) (j := 14) ⟨rfl, by decide⟩ (by decide))
          · show ((own_dg (Int64.ofNat N) (13 : Int32)).toUInt32.toUInt16.toUInt32.toInt32) = _
            exact (own_dgc (T := TT) hN hT (k := (13 : Int32)) (j := 13) ⟨rfl, by decide⟩ (by decide))
          · show ((own_dg (Int64.ofNat N) (12 : Int32)).toUInt32.toUInt16.toUInt32.toInt32) = _
            exact (own_dgc (T := TT) hN hT (k := (12 : Int32)) (j := 12) ⟨rfl, by decide⟩ (by decide))
          · show ((own_dg (Int64.ofNat N) (11 : Int32)).toUInt32.toUInt16.toUInt32.toInt32) = _
            exact (own_dgc (T := TT) hN hT (k := (11 : Int32)) (j := 11) ⟨rfl, by decide⟩ (by decide))
          · show ((own_dg (Int64.ofNat N) (10 : Int32)).toUInt32.toUInt16.toUInt32.toInt32) = _
            exact (own_dgc (T := TT) hN hT (k := (10 : Int32)) (j := 10) ⟨rfl, by decide⟩ (by decide))
          · show ((own_dg (Int64.ofNat N) (9 : Int32)).toUInt32.toUInt16.toUInt32.toInt32) = _
            exact (own_dgc (T := TT) hN hT (k := (9 : Int32)) (j := 9) ⟨rfl, by decide⟩ (by decide))
          · show ((own_dg (Int64.ofNat N) (8 : Int32)).toUInt32.toUInt16.toUInt32.toInt32) = _
            exact (own_dgc (T := TT) hN hT (k := (8 : Int32)) (j := 8) ⟨rfl, by decide⟩ (by decide))
          · show ((own_dg (Int64.ofNat N) (7 : Int32)).toUInt32.toUInt16.toUInt32.toInt32) = _
            exact (own_dgc (T := TT) hN hT (k := (7 : Int32)) (j := 7) ⟨rfl, by decide⟩ (by decide))
          · show ((own_dg (Int64.ofNat N) (6 : Int32)).toUInt32.toUInt16.toUInt32.toInt32) = _
            exact (own_dgc (T := TT) hN hT (k := (6 : Int32)) (j := 6) ⟨rfl, by decide⟩ (by decide))
          · show ((own_dg (Int64.ofNat N) (5 : Int32)).toUInt32.toUInt16.toUInt32.toInt32) = _
            exact (own_dgc (T := TT) hN hT (k := (5 : Int32)) (j := 5) ⟨rfl, by decide⟩ (by decide))
          · show ((own_dg (Int64.ofNat N) (4 : Int32)).toUInt32.toUInt16.toUInt32.toInt32) = _
            exact (own_dgc (T := TT) hN hT (k := (4 : Int32)) (j := 4) ⟨rfl, by decide⟩ (by decide))
          · show ((own_dg (Int64.ofNat N) (3 : Int32)).toUInt32.toUInt16.toUInt32.toInt32) = _
            exact (own_dgc (T := TT) hN hT (k := (3 : Int32)) (j := 3) ⟨rfl, by decide⟩ (by decide))
          · show ((own_dg (Int64.ofNat N) (2 : Int32)).toUInt32.toUInt16.toUInt32.toInt32) = _
            exact (own_dgc (T := TT) hN hT (k := (2 : Int32)) (j := 2) ⟨rfl, by decide⟩ (by decide))
          · show ((own_dg (Int64.ofNat N) (1 : Int32)).toUInt32.toUInt16.toUInt32.toInt32) = _
            exact (own_dgc (T := TT) hN hT (k := (1 : Int32)) (j := 1) ⟨rfl, by decide⟩ (by decide))
          · show ((own_dg (Int64.ofNat N) (0 : Int32)).toUInt32.toUInt16.toUInt32.toInt32) = _
            exact (own_dgc (T := TT) hN hT (k := (0 : Int32)) (j := 0) ⟨rfl, by decide⟩ (by decide))
          · show ((((48 : Int32) + (tt / (10 : Int32))).toUInt32.toUInt16.toUInt32.toInt32).toUInt32.toUInt16.toUInt32.toInt32) = _
            exact (own_t18 (N := N) htt hT)
          · show ((((48 : Int32) + (tt % (10 : Int32))).toUInt32.toUInt16.toUInt32.toInt32).toUInt32.toUInt16.toUInt32.toInt32) = _
            exact (own_t19 (N := N) htt hT)
        obtain ⟨_, _, ⟨T97, L97, k97, n97⟩, -, X97, ⟨Lc97, hQ97, l97, y97, z97⟩, st97⟩ := Jvm.LawKit.callS X96 hx (y := (⟨"com/example/version_parser/versionparser/DecimalDigits", "value", "(Ljava/lang/String;II)J"⟩ : MethodName)) hown (mvT hZ (hw _ (List.mem_of_getElem? (i := 65) rfl))) (mvT hZ (hw _ (List.mem_of_getElem? (i := 66) rfl))) (mvT hZ (hw _ (List.mem_of_getElem? (i := 67) rfl))) (mvT hZ (hw _ (List.mem_of_getElem? (i := 68) rfl))) (by decide) (backOf (W := 0) (own_m_dv l Z a0 hw [] (b70) (ss) (ee) (by71) (kb71) ([((own_dg (Int64.ofNat N) (17 : Int32)).toUInt32.toUInt16.toUInt32.toInt32), ((own_dg (Int64.ofNat N) (16 : Int32)).toUInt32.toUInt16.toUInt32.toInt32), ((own_dg (Int64.ofNat N) (15 : Int32)).toUInt32.toUInt16.toUInt32.toInt32), ((own_dg (Int64.ofNat N) (14 : Int32)).toUInt32.toUInt16.toUInt32.toInt32), ((own_dg (Int64.ofNat N) (13 : Int32)).toUInt32.toUInt16.toUInt32.toInt32), ((own_dg (Int64.ofNat N) (12 : Int32)).toUInt32.toUInt16.toUInt32.toInt32), ((own_dg (Int64.ofNat N) (11 : Int32)).toUInt32.toUInt16.toUInt32.toInt32), ((own_dg (Int64.ofNat N) (10 : Int32)).toUInt32.toUInt16.toUInt32.toInt32), ((own_dg (Int64.ofNat N) (9 : Int32)).toUInt32.toUInt16.toUInt32.toInt32), ((own_dg (Int64.ofNat N) (8 : Int32)).toUInt32.toUInt16.toUInt32.toInt32), ((own_dg (Int64.ofNat N) (7 : Int32)).toUInt32.toUInt16.toUInt32.toInt32), ((own_dg (Int64.ofNat N) (6 : Int32)).toUInt32.toUInt16.toUInt32.toInt32), ((own_dg (Int64.ofNat N) (5 : Int32)).toUInt32.toUInt16.toUInt32.toInt32), ((own_dg (Int64.ofNat N) (4 : Int32)).toUInt32.toUInt16.toUInt32.toInt32), ((own_dg (Int64.ofNat N) (3 : Int32)).toUInt32.toUInt16.toUInt32.toInt32), ((own_dg (Int64.ofNat N) (2 : Int32)).toUInt32.toUInt16.toUInt32.toInt32), ((own_dg (Int64.ofNat N) (1 : Int32)).toUInt32.toUInt16.toUInt32.toInt32), ((own_dg (Int64.ofNat N) (0 : Int32)).toUInt32.toUInt16.toUInt32.toInt32), ((((48 : Int32) + (tt / (10 : Int32))).toUInt32.toUInt16.toUInt32.toInt32).toUInt32.toUInt16.toUInt32.toInt32), ((((48 : Int32) + (tt % (10 : Int32))).toUInt32.toUInt16.toUInt32.toInt32).toUInt32.toUInt16.toUInt32.toInt32)]) ((N * 100 + TT)) (SS) (EE) (cz) (fm) T96.heap n0 (Nat.le_trans Z0 K96.1) f96_3 f96_5 f96_4 f96_6 f96_0 f96_1 hcz hfm rfl hdig96 hlat71 hss hee hSE hE) hZ (hw _ (List.mem_of_getElem? (i := 68) rfl)) (hw _ (List.mem_of_getElem? (i := 67) rfl)) (by decide) (by decide)) (g := (mkF m 428 #[.val (.long p1), .second, .val (.int p2), .val (.int p3), .val (.int p4), .val (.long (Int64.ofNat N)), .second, .val (.int tt), .val (.ref b27), .val (.ref b70), .val (.int ss), .val (.int ee), .val (.long (((own_lrem ((Int64.ofNat N) / (own_p10 ((18 : Int32) - e18v))) (own_p10 nl)) * (own_p10 tl)) + (own_lrem ((tt.toInt64) / (own_p10 ((20 : Int32) - ee))) (own_p10 tl)))), .second, .val (.int e18v), .val (.int nl), .val (.long (own_lrem ((Int64.ofNat N) / (own_p10 ((18 : Int32) - e18v))) (own_p10 nl))), .second, .val (.int tsv), .val (.int tl), .val (.long (own_lrem ((tt.toInt64) / (own_p10 ((20 : Int32) - ee))) (own_p10 tl))), .second] [(.int ee), (.int ss), (.ref b70)])) rfl (by rw [hml]; rfl) (argsL := [(.ref b70), (.int ss), (.int ee)]) (rest := []) (lenOf own_pd4 rfl) rfl (by show 2 * 0 + _ ≤ _; exact Nat.le_of_eq rfl) (hb hby at_428) (fun _ _ => ⟨rfl, rfl, (by decide : 26 + 0 ≤ _), (by decide : 481 + 0 ≤ _)⟩)
        dsimp only [Pt.U, Pt.locs, Pt.cells, Pt.slots] at X97 l97 y97 z97 st97 hQ97
        subst l97 y97 z97
        obtain ⟨rfl, Nq97, Kq97⟩ := hQ97
        have N97 := Fr.app N96 Nq97
        have f97_0 : Sta Z T97.heap "java/lang/String" "COMPACT_STRINGS" "Z" (.int cz) := own_sta_keep f96_0 Kq97 own_pl0
        have f97_1 : Sta Z T97.heap "jdk/internal/util/Preconditions" "SIOOBE_FORMATTER" "Ljava/util/function/BiFunction;" fm := own_sta_keep f96_1 Kq97 own_pl0
        have f97_2 : Arv Z T97.heap b27 k27 .char (20 : Int32) [(.int ((own_dg (Int64.ofNat N) (17 : Int32)).toUInt32.toUInt16.toUInt32.toInt32)), (.int ((own_dg (Int64.ofNat N) (16 : Int32)).toUInt32.toUInt16.toUInt32.toInt32)), (.int ((own_dg (Int64.ofNat N) (15 : Int32)).toUInt32.toUInt16.toUInt32.toInt32)), (.int ((own_dg (Int64.ofNat N) (14 : Int32)).toUInt32.toUInt16.toUInt32.toInt32)), (.int ((own_dg (Int64.ofNat N) (13 : Int32)).toUInt32.toUInt16.toUInt32.toInt32)), (.int ((own_dg (Int64.ofNat N) (12 : Int32)).toUInt32.toUInt16.toUInt32.toInt32)), (.int ((own_dg (Int64.ofNat N) (11 : Int32)).toUInt32.toUInt16.toUInt32.toInt32)), (.int ((own_dg (Int64.ofNat N) (10 : Int32)).toUInt32.toUInt16.toUInt32.toInt32)), (.int ((own_dg (Int64.ofNat N) (9 : Int32)).toUInt32.toUInt16.toUInt32.toInt32)), (.int ((own_dg (Int64.ofNat N) (8 : Int32)).toUInt32.toUInt16.toUInt32.toInt32)), (.int ((own_dg (Int64.ofNat N) (7 : Int32)).toUInt32.toUInt16.toUInt32.toInt32)), (.int ((own_dg (Int64.ofNat N) (6 : Int32)).toUInt32.toUInt16.toUInt32.toInt32)), (.int ((own_dg (Int64.ofNat N) (5 : Int32)).toUInt32.toUInt16.toUInt32.toInt32)), (.int ((own_dg (Int64.ofNat N) (4 : Int32)).toUInt32.toUInt16.toUInt32.toInt32)), (.int ((own_dg (Int64.ofNat N) (3 : Int32)).toUInt32.toUInt16.toUInt32.toInt32)), (.int ((own_dg (Int64.ofNat N) (2 : Int32)).toUInt32.toUInt16.toUInt32.toInt32)), (.int ((own_dg (Int64.ofNat N) (1 : Int32)).toUInt32.toUInt16.toUInt32.toInt32)), (.int ((own_dg (Int64.ofNat N) (0 : Int32)).toUInt32.toUInt16.toUInt32.toInt32)), (.int ((((48 : Int32) + (tt / (10 : Int32))).toUInt32.toUInt16.toUInt32.toInt32).toUInt32.toUInt16.toUInt32.toInt32)), (.int ((((48 : Int32) + (tt % (10 : Int32))).toUInt32.toUInt16.toUInt32.toInt32).toUInt32.toUInt16.toUInt32.toInt32))] (.int (0 : Int32)) := f96_2.keep Kq97 nin0
        have f97_3 : Exa Z T97.heap b70 "java/lang/String" := f96_3.keep Kq97
        have f97_4 : Fld Z T97.heap b70 "java/lang/String" "coder" "B" (.int (0 : Int32)) := f96_4.keep Kq97 nin0
        have f97_5 : Fld Z T97.heap b70 "java/lang/String" "value" "[B" (.ref by71) := f96_5.keep Kq97 nin0
        have f97_6 : Arv Z T97.heap by71 kb71 .byte (20 : Int32) [(.int (((own_dg (Int64.ofNat N) (17 : Int32)).toUInt32.toUInt16.toUInt32.toInt32)).toInt8.toInt32), (.int (((own_dg (Int64.ofNat N) (16 : Int32)).toUInt32.toUInt16.toUInt32.toInt32)).toInt8.toInt32), (.int (((own_dg (Int64.ofNat N) (15 : Int32)).toUInt32.toUInt16.toUInt32.toInt32)).toInt8.toInt32), (.int (((own_dg (Int64.ofNat N) (14 : Int32)).toUInt32.toUInt16.toUInt32.toInt32)).toInt8.toInt32), (.int (((own_dg (Int64.ofNat N) (13 : Int32)).toUInt32.toUInt16.toUInt32.toInt32)).toInt8.toInt32), (.int (((own_dg (Int64.ofNat N) (12 : Int32)).toUInt32.toUInt16.toUInt32.toInt32)).toInt8.toInt32), (.int (((own_dg (Int64.ofNat N) (11 : Int32)).toUInt32.toUInt16.toUInt32.toInt32)).toInt8.toInt32), (.int (((own_dg (Int64.ofNat N) (10 : Int32)).toUInt32.toUInt16.toUInt32.toInt32)).toInt8.toInt32), (.int (((own_dg (Int64.ofNat N) (9 : Int32)).toUInt32.toUInt16.toUInt32.toInt32)).toInt8.toInt32), (.int (((own_dg (Int64.ofNat N) (8 : Int32)).toUInt32.toUInt16.toUInt32.toInt32)).toInt8.toInt32), (.int (((own_dg (Int64.ofNat N) (7 : Int32)).toUInt32.toUInt16.toUInt32.toInt32)).toInt8.toInt32), (.int (((own_dg (Int64.ofNat N) (6 : Int32)).toUInt32.toUInt16.toUInt32.toInt32)).toInt8.toInt32), (.int (((own_dg (Int64.ofNat N) (5 : Int32)).toUInt32.toUInt16.toUInt32.toInt32)).toInt8.toInt32), (.int (((own_dg (Int64.ofNat N) (4 : Int32)).toUInt32.toUInt16.toUInt32.toInt32)).toInt8.toInt32), (.int (((own_dg (Int64.ofNat N) (3 : Int32)).toUInt32.toUInt16.toUInt32.toInt32)).toInt8.toInt32), (.int (((own_dg (Int64.ofNat N) (2 : Int32)).toUInt32.toUInt16.toUInt32.toInt32)).toInt8.toInt32), (.int (((own_dg (Int64.ofNat N) (1 : Int32)).toUInt32.toUInt16.toUInt32.toInt32)).toInt8.toInt32), (.int (((own_dg (Int64.ofNat N) (0 : Int32)).toUInt32.toUInt16.toUInt32.toInt32)).toInt8.toInt32), (.int (((((48 : Int32) + (tt / (10 : Int32))).toUInt32.toUInt16.toUInt32.toInt32).toUInt32.toUInt16.toUInt32.toInt32)).toInt8.toInt32), (.int (((((48 : Int32) + (tt % (10 : Int32))).toUInt32.toUInt16.toUInt32.toInt32).toUInt32.toUInt16.toUInt32.toInt32)).toInt8.toInt32)] (.int (0 : Int32)) := f96_6.keep Kq97 nin0
        have K97 : Keep h0 T97.heap [] := K96.trans Kq97 all0
        refine own_step (U' := (T97.setTop (mkF m 431 #[.val (.long p1), .second, .val (.int p2), .val (.int p3), .val (.int p4), .val (.long (Int64.ofNat N)), .second, .val (.int tt), .val (.ref b27), .val (.ref b70), .val (.int ss), .val (.int ee), .val (.long (((own_lrem ((Int64.ofNat N) / (own_p10 ((18 : Int32) - e18v))) (own_p10 nl)) * (own_p10 tl)) + (own_lrem ((tt.toInt64) / (own_p10 ((20 : Int32) - ee))) (own_p10 tl)))), .second, .val (.int e18v), .val (.int nl), .val (.long (own_lrem ((Int64.ofNat N) / (own_p10 ((18 : Int32) - e18v))) (own_p10 nl))), .second, .val (.int tsv), .val (.int tl), .val (.long (own_lrem ((tt.toInt64) / (own_p10 ((20 : Int32) - ee))) (own_p10 tl))), .second] [(.long (own_vv (N * 100 + TT) SS EE))]))) (fun t ht => st97 _ ht) ?_
        refine own_step (U' := (T97.setTop (mkF m 433 #[.val (.long p1), .second, .val (.int p2), .val (.int p3), .val (.int p4), .val (.long (Int64.ofNat N)), .second, .val (.int tt), .val (.ref b27), .val (.ref b70), .val (.int ss), .val (.int ee), .val (.long (((own_lrem ((Int64.ofNat N) / (own_p10 ((18 : Int32) - e18v))) (own_p10 nl)) * (own_p10 tl)) + (own_lrem ((tt.toInt64) / (own_p10 ((20 : Int32) - ee))) (own_p10 tl)))), .second, .val (.long (own_vv (N * 100 + TT) SS EE)), .second, .val (.long (own_lrem ((Int64.ofNat N) / (own_p10 ((18 : Int32) - e18v))) (own_p10 nl))), .second, .val (.int tsv), .val (.int tl), .val (.long (own_lrem ((tt.toInt64) / (own_p10 ((20 : Int32) - ee))) (own_p10 tl))), .second] []))) (fun t ht => XT.lstore X97.here hx rfl (hb hby at_431) rfl (l' := #[.val (.long p1), .second, .val (.int p2), .val (.int p3), .val (.int p4), .val (.long (Int64.ofNat N)), .second, .val (.int tt), .val (.ref b27), .val (.ref b70), .val (.int ss), .val (.int ee), .val (.long (((own_lrem ((Int64.ofNat N) / (own_p10 ((18 : Int32) - e18v))) (own_p10 nl)) * (own_p10 tl)) + (own_lrem ((tt.toInt64) / (own_p10 ((20 : Int32) - ee))) (own_p10 tl)))), .second, .val (.long (own_vv (N * 100 + TT) SS EE)), .second, .val (.long (own_lrem ((Int64.ofNat N) / (own_p10 ((18 : Int32) - e18v))) (own_p10 nl))), .second, .val (.int tsv), .val (.int tl), .val (.long (own_lrem ((tt.toInt64) / (own_p10 ((20 : Int32) - ee))) (own_p10 tl))), .second]) rfl ht) ?_
        refine own_step (U' := (T97.setTop (mkF m 435 #[.val (.long p1), .second, .val (.int p2), .val (.int p3), .val (.int p4), .val (.long (Int64.ofNat N)), .second, .val (.int tt), .val (.ref b27), .val (.ref b70), .val (.int ss), .val (.int ee), .val (.long (((own_lrem ((Int64.ofNat N) / (own_p10 ((18 : Int32) - e18v))) (own_p10 nl)) * (own_p10 tl)) + (own_lrem ((tt.toInt64) / (own_p10 ((20 : Int32) - ee))) (own_p10 tl)))), .second, .val (.long (own_vv (N * 100 + TT) SS EE)), .second, .val (.long (own_lrem ((Int64.ofNat N) / (own_p10 ((18 : Int32) - e18v))) (own_p10 nl))), .second, .val (.int tsv), .val (.int tl), .val (.long (own_lrem ((tt.toInt64) / (own_p10 ((20 : Int32) - ee))) (own_p10 tl))), .second] [(.long (own_vv (N * 100 + TT) SS EE))]))) (fun t ht => XT.lload X97.here hx rfl (hb hby at_433) rfl ht) ?_
        refine own_step (U' := (T97.setTop (mkF m 437 #[.val (.long p1), .second, .val (.int p2), .val (.int p3), .val (.int p4), .val (.long (Int64.ofNat N)), .second, .val (.int tt), .val (.ref b27), .val (.ref b70), .val (.int ss), .val (.int ee), .val (.long (((own_lrem ((Int64.ofNat N) / (own_p10 ((18 : Int32) - e18v))) (own_p10 nl)) * (own_p10 tl)) + (own_lrem ((tt.toInt64) / (own_p10 ((20 : Int32) - ee))) (own_p10 tl)))), .second, .val (.long (own_vv (N * 100 + TT) SS EE)), .second, .val (.long (own_lrem ((Int64.ofNat N) / (own_p10 ((18 : Int32) - e18v))) (own_p10 nl))), .second, .val (.int tsv), .val (.int tl), .val (.long (own_lrem ((tt.toInt64) / (own_p10 ((20 : Int32) - ee))) (own_p10 tl))), .second] [(.long (((own_lrem ((Int64.ofNat N) / (own_p10 ((18 : Int32) - e18v))) (own_p10 nl)) * (own_p10 tl)) + (own_lrem ((tt.toInt64) / (own_p10 ((20 : Int32) - ee))) (own_p10 tl)))), (.long (own_vv (N * 100 + TT) SS EE))]))) (fun t ht => XT.lload X97.here hx rfl (hb hby at_435) rfl ht) ?_
        refine own_step (U' := (T97.setTop (mkF m 438 #[.val (.long p1), .second, .val (.int p2), .val (.int p3), .val (.int p4), .val (.long (Int64.ofNat N)), .second, .val (.int tt), .val (.ref b27), .val (.ref b70), .val (.int ss), .val (.int ee), .val (.long (((own_lrem ((Int64.ofNat N) / (own_p10 ((18 : Int32) - e18v))) (own_p10 nl)) * (own_p10 tl)) + (own_lrem ((tt.toInt64) / (own_p10 ((20 : Int32) - ee))) (own_p10 tl)))), .second, .val (.long (own_vv (N * 100 + TT) SS EE)), .second, .val (.long (own_lrem ((Int64.ofNat N) / (own_p10 ((18 : Int32) - e18v))) (own_p10 nl))), .second, .val (.int tsv), .val (.int tl), .val (.long (own_lrem ((tt.toInt64) / (own_p10 ((20 : Int32) - ee))) (own_p10 tl))), .second] [(.int (XT.cmpL (own_vv (N * 100 + TT) SS EE) (((own_lrem ((Int64.ofNat N) / (own_p10 ((18 : Int32) - e18v))) (own_p10 nl)) * (own_p10 tl)) + (own_lrem ((tt.toInt64) / (own_p10 ((20 : Int32) - ee))) (own_p10 tl)))))]))) (fun t ht => XT.lcmp X97.here hx rfl (hb hby at_437) rfl ht) ?_
        refine own_step (U' := (T97.setTop (mkF m 441 #[.val (.long p1), .second, .val (.int p2), .val (.int p3), .val (.int p4), .val (.long (Int64.ofNat N)), .second, .val (.int tt), .val (.ref b27), .val (.ref b70), .val (.int ss), .val (.int ee), .val (.long (((own_lrem ((Int64.ofNat N) / (own_p10 ((18 : Int32) - e18v))) (own_p10 nl)) * (own_p10 tl)) + (own_lrem ((tt.toInt64) / (own_p10 ((20 : Int32) - ee))) (own_p10 tl)))), .second, .val (.long (own_vv (N * 100 + TT) SS EE)), .second, .val (.long (own_lrem ((Int64.ofNat N) / (own_p10 ((18 : Int32) - e18v))) (own_p10 nl))), .second, .val (.int tsv), .val (.int tl), .val (.long (own_lrem ((tt.toInt64) / (own_p10 ((20 : Int32) - ee))) (own_p10 tl))), .second] []))) (fun t ht => XS.ifNo X97.here hx rfl (hb hby at_438) rfl (XT.ll_ne_f ((own_fin hT hSE hE (fun q => hc301_73 ((own_gt18 hss hee hSE hE).mpr q)) (by rw [if_neg (mt (own_nlz hnl).mpr hc334_77)]; exact own_part hN (own_18B he18 (by omega)) ⟨hnl, by omega⟩) (by rw [if_neg (mt (own_nlz htl).mpr hc382_91), own_t64 htt hT]; exact own_part (by omega) (own_20B hee (by have := mt (own_nlz htl).mpr hc382_91; omega) hE) ⟨htl, by omega⟩) ⟨htl, by omega⟩) : (own_vv (N * 100 + TT) SS EE) = (((own_lrem ((Int64.ofNat N) / (own_p10 ((18 : Int32) - e18v))) (own_p10 nl)) * (own_p10 tl)) + (own_lrem ((tt.toInt64) / (own_p10 ((20 : Int32) - ee))) (own_p10 tl))))) ht) ?_
        refine own_step (U' := (T97.setTop (mkF m 442 #[.val (.long p1), .second, .val (.int p2), .val (.int p3), .val (.int p4), .val (.long (Int64.ofNat N)), .second, .val (.int tt), .val (.ref b27), .val (.ref b70), .val (.int ss), .val (.int ee), .val (.long (((own_lrem ((Int64.ofNat N) / (own_p10 ((18 : Int32) - e18v))) (own_p10 nl)) * (own_p10 tl)) + (own_lrem ((tt.toInt64) / (own_p10 ((20 : Int32) - ee))) (own_p10 tl)))), .second, .val (.long (own_vv (N * 100 + TT) SS EE)), .second, .val (.long (own_lrem ((Int64.ofNat N) / (own_p10 ((18 : Int32) - e18v))) (own_p10 nl))), .second, .val (.int tsv), .val (.int tl), .val (.long (own_lrem ((tt.toInt64) / (own_p10 ((20 : Int32) - ee))) (own_p10 tl))), .second] [(.int (1 : Int32))]))) (fun t ht => XS.iconst X97.here hx rfl (hb hby at_441) ht) ?_
        refine own_step (U' := (T97.setTop (mkF m 446 #[.val (.long p1), .second, .val (.int p2), .val (.int p3), .val (.int p4), .val (.long (Int64.ofNat N)), .second, .val (.int tt), .val (.ref b27), .val (.ref b70), .val (.int ss), .val (.int ee), .val (.long (((own_lrem ((Int64.ofNat N) / (own_p10 ((18 : Int32) - e18v))) (own_p10 nl)) * (own_p10 tl)) + (own_lrem ((tt.toInt64) / (own_p10 ((20 : Int32) - ee))) (own_p10 tl)))), .second, .val (.long (own_vv (N * 100 + TT) SS EE)), .second, .val (.long (own_lrem ((Int64.ofNat N) / (own_p10 ((18 : Int32) - e18v))) (own_p10 nl))), .second, .val (.int tsv), .val (.int tl), .val (.long (own_lrem ((tt.toInt64) / (own_p10 ((20 : Int32) - ee))) (own_p10 tl))), .second] [(.int (1 : Int32))]))) (fun t ht => XS.goto X97.here hx rfl (pc0 := 442) (pc' := 446) rfl (hb hby at_442) (by decide) (by decide) ht) ?_
        refine own_ret X97 (v := (some (.int (nar .boolean (1 : Int32))))) (fun h => by rw [Bd.returns] at h; cases h) Bd.notSynchronized (by decide) (by decide) ?_ (fun fs hr => retN X97 hx (t := .boolean) Bd.returns (by simp) (hb hby at_446) hr)
        show own_Q_law Z p1 p2 p3 p4 cz fm h0 n0 _ T97.heap _
        show own_Q_law Z p1 p2 p3 p4 cz fm h0 n0 _ T97.heap _
        exact ⟨rfl, N97⟩
set_option maxRecDepth 65536 in
set_option maxHeartbeats 40000000 in
theorem own_comes {Post : Tables → Env → Array Value → State → Outcome → State → Prop} (hpost : ∀ tb e args s v u, (limb_1_1.after args s (.returned v) u = true ∧ limb_1_2.after args s (.returned v) u = true ∧ True) → FrameEnd s (.returned v) u (Jvm.fieldLocs frame_1_writes args s ++ Jvm.arrayLocs frame_1_arrays args s ++ Jvm.staticLocs frame_1_statics s) 64 1088 → Post tb e args s (.returned v) u) :
    ArmFor flags0 classFile x code maxLocals ret World_1 tables_1 room_1 Calls_1 rest_1 Pre_1 Post := by
  intro l hfl _ _ p e ha hc hk s m args below hf hA hF happ hP
  obtain ⟨hcalls, hrest, hpre⟩ := hP
  obtain ⟨-, -, -, hnamed, -, -, -, hat⟩ := (Spec.applies_iff hf).mp happ
  obtain ⟨hg, hn⟩ := and_e (Cond.before_iff.mp (show (Jvm.Cond.and given_1 narrow_1).before args s = true from hpre))
  obtain ⟨hcount, q0⟩ := and_e hg
  obtain ⟨a0, q1⟩ := and_e q0
  obtain ⟨a1, q2⟩ := and_e q1
  obtain ⟨a2, q3⟩ := and_e q2
  have a3 := q3
  obtain ⟨w0, w1, w2, w3, rfl⟩ : ∃ w0 w1 w2 w3 : Value, args = #[w0, w1, w2, w3] := by
    have hs : args.size = 4 := by simpa [Cond.value, given_1] using hcount
    obtain ⟨L⟩ := args
    match L, hs with
    | [w0, w1, w2, w3], _ => exact ⟨w0, w1, w2, w3, rfl⟩
  obtain ⟨i0, e0⟩ := isL_v a0
  obtain rfl : w0 = (.long i0) := Option.some.inj e0
  obtain ⟨i1, e1⟩ := is_v a1
  obtain rfl : w1 = (.int i1) := Option.some.inj e1
  obtain ⟨i2, e2⟩ := is_v a2
  obtain rfl : w2 = (.int i2) := Option.some.inj e2
  obtain ⟨i3, e3⟩ := is_v a3
  obtain rfl : w3 = (.int i3) := Option.some.inj e3
  have hw := fun d (hd : d ∈ tables_1) => atoms_spec (ws := Jvm.Cond.code x code maxLocals ret :: tables_1) hat d (List.mem_cons_of_mem _ hd)
  have hfit : Fit s := fun {y c} hc i hi => by
    obtain ⟨ha, rfl⟩ := Array.getElem?_eq_some_iff.mp hc
    have q := List.all_eq_true.mp ((Array.all_eq_true_iff_forall_mem.mp hF) _ (Array.getElem_mem ha)) i (List.mem_range.mpr hi)
    simpa [Array.getElem?_eq_getElem hi] using q
  obtain ⟨hsets, hown0⟩ := atoms_of _ (rest_1_c_eq ▸ (show rest_1_c.before _ s = true from hrest))
  have n3 := not_v (Cond.before_iff.mp (hsets _ (List.mem_of_getElem? (i := 2) rfl)))
  obtain ⟨cz, ecz⟩ := is_v (Cond.before_iff.mp (hsets _ (List.mem_of_getElem? (i := 1) rfl)))
  have Scz : Sta s s.heap "java/lang/String" "COMPACT_STRINGS" "Z" (.int cz) := Sta.start ecz (Or.inl (hsets _ (List.mem_of_getElem? (i := 0) rfl)))
  have hcz : ¬ cz = 0 := fun q => by rw [eq_i ecz (Term.int_eval 0) (by rw [q])] at n3; cases n3
  obtain ⟨fm, efm, hfm⟩ := isR_v (Cond.before_iff.mp (hsets _ (List.mem_of_getElem? (i := 8) rfl)))
  have Sfm := Sta.start efm (Or.inl (hsets _ (List.mem_of_getElem? (i := 7) rfl)))
  obtain ⟨n, o, h1, h2, h3, _, L, rfl, ⟨rfl, N⟩, hq⟩ := own_m_law l s _ hw tables_1 i0 i1 i2 i3 cz fm s.heap s.heap.size (Nat.le_refl _) Scz Sfm hcz hfm p e ha hc hk s m _ below hf ((Spec.applies_iff_loose hf).mp happ).1 ⟨rfl, State.Warmed39.refl s, rfl⟩ trivial
  refine ⟨n, _, h1, h2, h3, hpost _ _ _ _ _ _ ⟨Cond.after_iff.mpr rfl, Cond.after_iff.mpr (eq_i res_at (Term.int_eval (1)) rfl), trivial⟩ ⟨hq.1, hq.2.1, (hq.2.2.sift fun y hy => Or.inr (N y hy)).mono (by decide) (by decide)⟩⟩
theorem main_1_1 : Claimed_1_1 := own_comes fun _ _ _ _ _ _ h hF => ⟨h.1, hF⟩
theorem main_1_2 : Claimed_1_2 := own_comes fun _ _ _ _ _ _ h hF => ⟨h.2.1, hF⟩
end Jvm.Pilot.@@N@@
namespace Jvm.Pilot.@@N@@
open Jvm Jvm.ClassFile Sem Op Lib Jvm.Free Jvm.Stand Jvm.Pilot.@@N@@.Jvm.D
/-! MADE BY PROGRAM (witnessworld.py) out of the Statement's table words and the real class files: 23 classes; the members and pool entries that the words name. The judged class is class 1, her method 3. -/
namespace start1
open Jvm.ClassFile
def u (s : String) : CpInfo := .utf8 (stringToUtf16 s)
/-- a pool by its gaps: so many unusable entries, then the entry; so many at the end -/
def gap : Nat → List CpInfo → List CpInfo
  | 0, r => r
  | n + 1, r => .unusable :: gap n r
def poolList (es : List (Nat × CpInfo)) (last : Nat) : List CpInfo := es.foldr (fun e r => gap e.1 (e.2 :: r)) (gap last [])
def pool (es : List (Nat × CpInfo)) (last : Nat) : Array CpInfo := ⟨poolList es last⟩
def fileOf (pool : Array CpInfo) (this : Nat) (attrs : Array Attribute := #[]) (ms : Array MethodInfo := #[]) (fl : Nat := 33) (sup : Nat := 0) (ifs : Array Nat := #[]) (fds : Array FieldInfo := #[]) : ClassFile where
  minorVersion := 0
  majorVersion := 65
  constantPool := pool
  accessFlags := fl
  thisClass := this
  superClass := sup
  interfaces := ifs
  fields := fds
  methods := ms
  attributes := attrs
def plain (name : String) (sup : Option ClassId) : Class where
  name := name
  kind := .ordinary
  loader := none
  accessFlags := 33
  super := sup
  interfaces := #[]
  cf := none
  fields := #[]
  methods := #[]
  instanceTypes := #[]
  staticTypes := #[]
  resolved := #[]
  callSites := []
  init := .initialized
  statics := none
  mirror := none

def pool0 : Array CpInfo := pool [(5, u "<init>"), (0, u "()V"), (1, .class_ 10), (1, u "java/lang/Object")] 113

def k0c0 : Code := { maxStack := 0, maxLocals := 1, code := object_method_1_code, exceptionTable := #[], attributes := #[] }
def k0m0 : Method := { name := "<init>", desc := "()V", sig := { parameters := [], returnType := none }, accessFlags := 1, code := some k0c0 }
/-- java/lang/Object -/
def k0 : Class := { plain "java/lang/Object" none with
  accessFlags := 33
  interfaces := #[]
  cf := some (fileOf pool0 8 #[] #[{ accessFlags := 1, nameIndex := 5, descriptorIndex := 6, attributes := #[] }] 33 0 #[] #[])
  fields := #[]
  methods := #[k0m0]
  instanceTypes := #[]
  staticTypes := #[]
  resolved := Array.replicate 124 none
  statics := none }

def pool1 : Array CpInfo := pool [(2, .class_ 4), (1, u "java/lang/Object"), (0, u "<init>"), (0, u "()V"), (0, .long 10), (1, .long 100), (1, .long 1000), (1, .long 10000), (1, .long 100000), (1, .long 1000000), (1, .long 10000000), (1, .long 100000000), (1, .long 1000000000), (1, .long 10000000000), (1, .long 100000000000), (1, .long 1000000000000), (1, .long 10000000000000), (1, .long 100000000000000), (1, .long 1000000000000000), (1, .long 10000000000000000), (1, .long 100000000000000000), (1, .long 1000000000000000000), (1, .methodref 44 45), (0, .class_ 46), (0, .nameAndType 47 48), (0, u "com/example/version_parser/versionparser/DecimalDigitsValuePinLaw"), (0, u "pow10"), (0, u "(I)J"), (0, .long 9223372036854775807), (1, .integer 2147483647), (0, .methodref 44 53), (0, .nameAndType 54 55), (0, u "dig"), (0, u "(JI)C"), (0, .class_ 57), (0, u "java/lang/String"), (0, .methodref 56 59), (0, .nameAndType 5 60), (0, u "([C)V"), (0, .methodref 62 63), (0, .class_ 64), (0, .nameAndType 65 66), (0, u "java/lang/Math"), (0, u "min"), (0, u "(II)I"), (0, .methodref 62 68), (0, .nameAndType 69 66), (0, u "max"), (0, .methodref 71 72), (0, .class_ 73), (0, .nameAndType 74 75), (0, u "com/example/version_parser/versionparser/DecimalDigits"), (0, u "value"), (0, u "(Ljava/lang/String;II)J"), (2, u "law"), (0, u "(JIII)Z")] 5

def k1m0 : Method := { name := "<init>", desc := "()V", sig := { parameters := [], returnType := none }, accessFlags := 2, code := none }
def k1c1 : Code := { maxStack := 5, maxLocals := 2, code := method_2_code, exceptionTable := #[], attributes := #[] }
def k1m1 : Method := { name := "pow10", desc := "(I)J", sig := { parameters := [.int], returnType := some .long }, accessFlags := 10, code := some k1c1 }
def k1c2 : Code := { maxStack := 5, maxLocals := 3, code := method_3_code, exceptionTable := #[], attributes := #[] }
def k1m2 : Method := { name := "dig", desc := "(JI)C", sig := { parameters := [.long, .int], returnType := some .char }, accessFlags := 10, code := some k1c2 }
def k1c3 : Code := { maxStack := 5, maxLocals := 22, code := code, exceptionTable := #[], attributes := #[] }
def k1m3 : Method := { name := "law", desc := "(JIII)Z", sig := { parameters := [.long, .int, .int, .int], returnType := some .boolean }, accessFlags := 9, code := some k1c3 }
/-- com/example/version_parser/versionparser/DecimalDigitsValuePinLaw -/
def k1 : Class := { plain "com/example/version_parser/versionparser/DecimalDigitsValuePinLaw" (some 0) with
  accessFlags := 49
  interfaces := #[]
  cf := some (fileOf pool1 44 #[] #[{ accessFlags := 2, nameIndex := 5, descriptorIndex := 6, attributes := #[] }, { accessFlags := 10, nameIndex := 47, descriptorIndex := 48, attributes := #[] }, { accessFlags := 10, nameIndex := 54, descriptorIndex := 55, attributes := #[] }, { accessFlags := 9, nameIndex := 78, descriptorIndex := 79, attributes := #[] }] 49 2 #[] #[])
  fields := #[]
  methods := #[k1m0, k1m1, k1m2, k1m3]
  instanceTypes := #[]
  staticTypes := #[]
  resolved := Array.replicate 85 none
  statics := none }

def pool2 : Array CpInfo := pool [(1, .class_ 2), (0, u "java/io/Serializable"), (0, .class_ 4), (0, u "java/lang/Object")] 2

/-- java/io/Serializable -/
def k2 : Class := { plain "java/io/Serializable" (some 0) with
  accessFlags := 1537
  interfaces := #[]
  cf := some (fileOf pool2 1 #[] #[] 1537 3 #[] #[])
  fields := #[]
  methods := #[]
  instanceTypes := #[]
  staticTypes := #[]
  resolved := Array.replicate 7 none
  statics := none }

def pool3 : Array CpInfo := pool [(1, .class_ 2), (0, u "java/lang/Comparable"), (0, .class_ 4), (0, u "java/lang/Object")] 7

/-- java/lang/Comparable -/
def k3 : Class := { plain "java/lang/Comparable" (some 0) with
  accessFlags := 1537
  interfaces := #[]
  cf := some (fileOf pool3 1 #[] #[] 1537 3 #[] #[])
  fields := #[]
  methods := #[]
  instanceTypes := #[]
  staticTypes := #[]
  resolved := Array.replicate 12 none
  statics := none }

def pool4 : Array CpInfo := pool [(2, .class_ 4), (1, u "java/lang/CharSequence"), (42, .class_ 48), (0, u "java/lang/CharSequence$1CodePointIterator"), (10, .class_ 60), (0, u "java/lang/CharSequence$1CharIterator"), (5, .class_ 67), (0, u "java/lang/Object")] 63

/-- java/lang/CharSequence -/
def k4 : Class := { plain "java/lang/CharSequence" (some 0) with
  accessFlags := 1537
  interfaces := #[]
  cf := some (fileOf pool4 2 #[.nestMembers #[47, 59]] #[] 1537 66 #[] #[])
  fields := #[]
  methods := #[]
  instanceTypes := #[]
  staticTypes := #[]
  resolved := Array.replicate 131 none
  statics := none }

def pool5 : Array CpInfo := pool [(1, .class_ 2), (0, u "java/lang/constant/Constable"), (0, .class_ 4), (0, u "java/lang/Object")] 6

/-- java/lang/constant/Constable -/
def k5 : Class := { plain "java/lang/constant/Constable" (some 0) with
  accessFlags := 1537
  interfaces := #[]
  cf := some (fileOf pool5 1 #[] #[] 1537 3 #[] #[])
  fields := #[]
  methods := #[]
  instanceTypes := #[]
  staticTypes := #[]
  resolved := Array.replicate 11 none
  statics := none }

def pool6 : Array CpInfo := pool [(1, .class_ 2), (0, u "java/lang/constant/ConstantDesc"), (0, .class_ 4), (0, u "java/lang/Object")] 32

/-- java/lang/constant/ConstantDesc -/
def k6 : Class := { plain "java/lang/constant/ConstantDesc" (some 0) with
  accessFlags := 1537
  interfaces := #[]
  cf := some (fileOf pool6 1 #[] #[] 1537 3 #[] #[])
  fields := #[]
  methods := #[]
  instanceTypes := #[]
  staticTypes := #[]
  resolved := Array.replicate 37 none
  statics := none }

def pool7 : Array CpInfo := pool [(1, .methodref 2 3), (0, .class_ 4), (0, .nameAndType 5 6), (0, u "java/lang/Object"), (0, u "<init>"), (0, u "()V"), (2, .fieldref 10 11), (0, .class_ 12), (0, .nameAndType 13 14), (0, u "java/lang/String"), (0, u "value"), (0, u "[B"), (0, .fieldref 10 16), (0, .nameAndType 17 18), (0, u "coder"), (0, u "B"), (2, u "hash"), (0, u "I"), (2, u "hashIsZero"), (0, u "Z"), (0, .methodref 10 28), (0, .nameAndType 5 29), (0, u "([CIILjava/lang/Void;)V"), (8, .fieldref 10 39), (0, .nameAndType 40 26), (0, u "COMPACT_STRINGS"), (1, .class_ 44), (1, u "java/lang/StringUTF16"), (0, u "compress"), (1, .methodref 42 48), (0, .nameAndType 49 50), (0, u "coderFromArrayLen"), (0, u "([BI)B"), (56, .class_ 109), (1, u "java/lang/StringLatin1"), (32, u "()Z"), (34, .methodref 42 178), (0, .nameAndType 45 179), (0, u "([CII)[B"), (183, u "([BI)C"), (27, u "(II)V"), (35, u "(I)C"), (64, .methodref 10 493), (0, .nameAndType 494 142), (0, u "isLatin1"), (0, .methodref 107 496), (0, .nameAndType 497 363), (0, u "charAt"), (3, u "checkIndex"), (73, .class_ 576), (0, u "java/lang/CharSequence"), (22, u "CASE_INSENSITIVE_ORDER"), (0, u "Ljava/util/Comparator;"), (409, u "([C)V"), (42, .fieldref 1054 1055), (0, .class_ 1056), (0, .nameAndType 1057 1058), (0, u "jdk/internal/util/Preconditions"), (0, u "SIOOBE_FORMATTER"), (0, u "Ljava/util/function/BiFunction;"), (0, .methodref 1054 1060), (0, .nameAndType 501 1061), (0, u "(IILjava/util/function/BiFunction;)I"), (39, u "serialPersistentFields"), (0, u "[Ljava/io/ObjectStreamField;"), (0, .class_ 1104), (0, u "java/lang/String$CaseInsensitiveComparator"), (1, .class_ 1107), (0, u "java/io/Serializable"), (0, .class_ 1109), (0, u "java/lang/Comparable"), (0, .class_ 1111), (0, u "java/lang/constant/Constable"), (0, .class_ 1113), (0, u "java/lang/constant/ConstantDesc"), (2, u "serialVersionUID"), (0, u "J"), (3, u "REPL"), (0, u "C"), (2, u "LATIN1"), (1, u "UTF16")] 323

def k7m0 : Method := { name := "<init>", desc := "()V", sig := { parameters := [], returnType := none }, accessFlags := 1, code := none }
def k7c1 : Code := { maxStack := 5, maxLocals := 2, code := jdk_42_method_3_code, exceptionTable := #[], attributes := #[] }
def k7m1 : Method := { name := "<init>", desc := "([C)V", sig := { parameters := [(.array .char)], returnType := none }, accessFlags := 1, code := some k7c1 }
def k7c2 : Code := { maxStack := 2, maxLocals := 2, code := jdk_42_method_56_code, exceptionTable := #[], attributes := #[] }
def k7m2 : Method := { name := "charAt", desc := "(I)C", sig := { parameters := [.int], returnType := some .char }, accessFlags := 1, code := some k7c2 }
def k7c3 : Code := { maxStack := 4, maxLocals := 6, code := jdk_42_method_149_code, exceptionTable := #[], attributes := #[] }
def k7m3 : Method := { name := "<init>", desc := "([CIILjava/lang/Void;)V", sig := { parameters := [(.array .char), .int, .int, (.object "java/lang/Void")], returnType := none }, accessFlags := 2, code := some k7c3 }
def k7c4 : Code := { maxStack := 1, maxLocals := 1, code := jdk_42_method_154_code, exceptionTable := #[], attributes := #[] }
def k7m4 : Method := { name := "isLatin1", desc := "()Z", sig := { parameters := [], returnType := some .boolean }, accessFlags := 0, code := some k7c4 }
def k7c5 : Code := { maxStack := 3, maxLocals := 2, code := jdk_42_method_155_code, exceptionTable := #[], attributes := #[] }
def k7m5 : Method := { name := "checkIndex", desc := "(II)V", sig := { parameters := [.int, .int], returnType := none }, accessFlags := 8, code := some k7c5 }
/-- java/lang/String -/
def k7 : Class := { plain "java/lang/String" (some 0) with
  accessFlags := 49
  interfaces := #[2, 3, 4, 5, 6]
  cf := some (fileOf pool7 10 #[.nestMembers #[1103]] #[{ accessFlags := 1, nameIndex := 5, descriptorIndex := 6, attributes := #[] }, { accessFlags := 1, nameIndex := 5, descriptorIndex := 1010, attributes := #[] }, { accessFlags := 1, nameIndex := 497, descriptorIndex := 427, attributes := #[] }, { accessFlags := 2, nameIndex := 5, descriptorIndex := 29, attributes := #[] }, { accessFlags := 0, nameIndex := 494, descriptorIndex := 142, attributes := #[] }, { accessFlags := 8, nameIndex := 501, descriptorIndex := 391, attributes := #[] }] 49 2 #[1106, 1108, 575, 1110, 1112] #[{ accessFlags := 18, nameIndex := 13, descriptorIndex := 14, attributes := #[] }, { accessFlags := 18, nameIndex := 17, descriptorIndex := 18, attributes := #[] }, { accessFlags := 2, nameIndex := 21, descriptorIndex := 22, attributes := #[] }, { accessFlags := 2, nameIndex := 25, descriptorIndex := 26, attributes := #[] }, { accessFlags := 26, nameIndex := 1116, descriptorIndex := 1117, attributes := #[] }, { accessFlags := 24, nameIndex := 40, descriptorIndex := 26, attributes := #[] }, { accessFlags := 26, nameIndex := 1101, descriptorIndex := 1102, attributes := #[] }, { accessFlags := 26, nameIndex := 1121, descriptorIndex := 1122, attributes := #[] }, { accessFlags := 25, nameIndex := 599, descriptorIndex := 600, attributes := #[] }, { accessFlags := 24, nameIndex := 1125, descriptorIndex := 18, attributes := #[] }, { accessFlags := 24, nameIndex := 1127, descriptorIndex := 18, attributes := #[] }])
  fields := #[{ name := "value", type := (.array .byte), accessFlags := 18, slot := 0, constantValue := 0 }, { name := "coder", type := .byte, accessFlags := 18, slot := 1, constantValue := 0 }, { name := "hash", type := .int, accessFlags := 2, slot := 2, constantValue := 0 }, { name := "hashIsZero", type := .boolean, accessFlags := 2, slot := 3, constantValue := 0 }, { name := "serialVersionUID", type := .long, accessFlags := 26, slot := 0, constantValue := 0 }, { name := "COMPACT_STRINGS", type := .boolean, accessFlags := 24, slot := 1, constantValue := 0 }, { name := "serialPersistentFields", type := (.array (.object "java/io/ObjectStreamField")), accessFlags := 26, slot := 2, constantValue := 0 }, { name := "REPL", type := .char, accessFlags := 26, slot := 3, constantValue := 0 }, { name := "CASE_INSENSITIVE_ORDER", type := (.object "java/util/Comparator"), accessFlags := 25, slot := 4, constantValue := 0 }, { name := "LATIN1", type := .byte, accessFlags := 24, slot := 5, constantValue := 0 }, { name := "UTF16", type := .byte, accessFlags := 24, slot := 6, constantValue := 0 }]
  methods := #[k7m0, k7m1, k7m2, k7m3, k7m4, k7m5]
  instanceTypes := #[(.array .byte), .byte, .int, .boolean]
  staticTypes := #[.long, .boolean, (.array (.object "java/io/ObjectStreamField")), .char, (.object "java/util/Comparator"), .byte, .byte]
  resolved := Array.replicate 1451 none
  statics := some 0 }

def pool8 : Array CpInfo := pool [(6, .class_ 8), (1, u "java/lang/Object"), (0, u "<init>"), (0, u "()V"), (1, .class_ 14), (1, u "java/lang/StringUTF16"), (31, u "$assertionsDisabled"), (0, u "Z"), (13, u "HI_BYTE_SHIFT"), (0, u "I"), (2, u "LO_BYTE_SHIFT"), (49, .methodref 12 116), (0, .nameAndType 117 118), (0, u "compress"), (0, u "([CI[BII)I"), (3, u "([CII)[B"), (138, u "coderFromArrayLen"), (0, u "([BI)B"), (106, .class_ 371), (1, u "java/lang/StringUTF16$LinesSpliterator"), (58, u "MAX_LENGTH"), (196, .class_ 628), (0, u "java/lang/StringUTF16$CodePointsSpliterator"), (0, .class_ 630), (0, u "java/lang/StringUTF16$CharsSpliterator")] 4

def k8m0 : Method := { name := "<init>", desc := "()V", sig := { parameters := [], returnType := none }, accessFlags := 0, code := none }
def k8c1 : Code := { maxStack := 2, maxLocals := 2, code := jdk_52_method_15_code, exceptionTable := #[], attributes := #[] }
def k8m1 : Method := { name := "coderFromArrayLen", desc := "([BI)B", sig := { parameters := [(.array .byte), .int], returnType := some .byte }, accessFlags := 8, code := some k8c1 }
def k8c2 : Code := { maxStack := 5, maxLocals := 6, code := jdk_52_method_16_code, exceptionTable := #[], attributes := #[] }
def k8m2 : Method := { name := "compress", desc := "([CII)[B", sig := { parameters := [(.array .char), .int, .int], returnType := some (.array .byte) }, accessFlags := 9, code := some k8c2 }
def k8c3 : Code := { maxStack := 3, maxLocals := 7, code := jdk_52_method_21_code, exceptionTable := #[], attributes := #[] }
def k8m3 : Method := { name := "compress", desc := "([CI[BII)I", sig := { parameters := [(.array .char), .int, (.array .byte), .int, .int], returnType := some .int }, accessFlags := 9, code := some k8c3 }
/-- java/lang/StringUTF16 -/
def k8 : Class := { plain "java/lang/StringUTF16" (some 0) with
  accessFlags := 48
  interfaces := #[]
  cf := some (fileOf pool8 12 #[.nestMembers #[627, 629, 369]] #[{ accessFlags := 0, nameIndex := 9, descriptorIndex := 10, attributes := #[] }, { accessFlags := 8, nameIndex := 261, descriptorIndex := 262, attributes := #[] }, { accessFlags := 9, nameIndex := 117, descriptorIndex := 122, attributes := #[] }, { accessFlags := 9, nameIndex := 117, descriptorIndex := 118, attributes := #[] }] 48 6 #[] #[{ accessFlags := 26, nameIndex := 61, descriptorIndex := 62, attributes := #[] }, { accessFlags := 26, nameIndex := 65, descriptorIndex := 62, attributes := #[] }, { accessFlags := 24, nameIndex := 430, descriptorIndex := 62, attributes := #[] }, { accessFlags := 4120, nameIndex := 46, descriptorIndex := 47, attributes := #[] }])
  fields := #[{ name := "HI_BYTE_SHIFT", type := .int, accessFlags := 26, slot := 0, constantValue := 0 }, { name := "LO_BYTE_SHIFT", type := .int, accessFlags := 26, slot := 1, constantValue := 0 }, { name := "MAX_LENGTH", type := .int, accessFlags := 24, slot := 2, constantValue := 0 }, { name := "$assertionsDisabled", type := .boolean, accessFlags := 4120, slot := 3, constantValue := 0 }]
  methods := #[k8m0, k8m1, k8m2, k8m3]
  instanceTypes := #[]
  staticTypes := #[.int, .int, .int, .boolean]
  resolved := Array.replicate 635 none
  statics := none }

def pool9 : Array CpInfo := pool [(1, .class_ 2), (0, u "java/lang/Math"), (1, .class_ 6), (1, u "java/lang/Object"), (0, u "<init>"), (0, u "()V"), (89, .class_ 100), (1, u "java/lang/Math$RandomNumberGeneratorHolder"), (71, u "negativeZeroFloatBits"), (0, u "J"), (2, u "negativeZeroDoubleBits"), (21, u "max"), (2, u "min"), (43, u "$assertionsDisabled"), (0, u "Z"), (88, u "(II)I"), (2, u "twoToTheDoubleScaleDown"), (0, u "D"), (4, u "twoToTheDoubleScaleUp"), (9, u "E"), (3, u "PI"), (2, u "TAU"), (2, u "DEGREES_TO_RADIANS"), (0, u "RADIANS_TO_DEGREES")] 94

def k9m0 : Method := { name := "<init>", desc := "()V", sig := { parameters := [], returnType := none }, accessFlags := 2, code := none }
def k9c1 : Code := { maxStack := 2, maxLocals := 2, code := jdk_29_method_65_code, exceptionTable := #[], attributes := #[] }
def k9m1 : Method := { name := "max", desc := "(II)I", sig := { parameters := [.int, .int], returnType := some .int }, accessFlags := 9, code := some k9c1 }
def k9c2 : Code := { maxStack := 2, maxLocals := 2, code := jdk_29_method_69_code, exceptionTable := #[], attributes := #[] }
def k9m2 : Method := { name := "min", desc := "(II)I", sig := { parameters := [.int, .int], returnType := some .int }, accessFlags := 9, code := some k9c2 }
/-- java/lang/Math -/
def k9 : Class := { plain "java/lang/Math" (some 0) with
  accessFlags := 49
  interfaces := #[]
  cf := some (fileOf pool9 1 #[.nestMembers #[98]] #[{ accessFlags := 2, nameIndex := 7, descriptorIndex := 8, attributes := #[] }, { accessFlags := 9, nameIndex := 198, descriptorIndex := 335, attributes := #[] }, { accessFlags := 9, nameIndex := 201, descriptorIndex := 335, attributes := #[] }] 49 4 #[] #[{ accessFlags := 25, nameIndex := 354, descriptorIndex := 339, attributes := #[] }, { accessFlags := 25, nameIndex := 358, descriptorIndex := 339, attributes := #[] }, { accessFlags := 25, nameIndex := 361, descriptorIndex := 339, attributes := #[] }, { accessFlags := 26, nameIndex := 364, descriptorIndex := 339, attributes := #[] }, { accessFlags := 26, nameIndex := 365, descriptorIndex := 339, attributes := #[] }, { accessFlags := 26, nameIndex := 172, descriptorIndex := 173, attributes := #[] }, { accessFlags := 26, nameIndex := 176, descriptorIndex := 173, attributes := #[] }, { accessFlags := 8, nameIndex := 344, descriptorIndex := 339, attributes := #[] }, { accessFlags := 8, nameIndex := 338, descriptorIndex := 339, attributes := #[] }, { accessFlags := 4120, nameIndex := 245, descriptorIndex := 246, attributes := #[] }])
  fields := #[{ name := "E", type := .double, accessFlags := 25, slot := 0, constantValue := 0 }, { name := "PI", type := .double, accessFlags := 25, slot := 1, constantValue := 0 }, { name := "TAU", type := .double, accessFlags := 25, slot := 2, constantValue := 0 }, { name := "DEGREES_TO_RADIANS", type := .double, accessFlags := 26, slot := 3, constantValue := 0 }, { name := "RADIANS_TO_DEGREES", type := .double, accessFlags := 26, slot := 4, constantValue := 0 }, { name := "negativeZeroFloatBits", type := .long, accessFlags := 26, slot := 5, constantValue := 0 }, { name := "negativeZeroDoubleBits", type := .long, accessFlags := 26, slot := 6, constantValue := 0 }, { name := "twoToTheDoubleScaleUp", type := .double, accessFlags := 8, slot := 7, constantValue := 0 }, { name := "twoToTheDoubleScaleDown", type := .double, accessFlags := 8, slot := 8, constantValue := 0 }, { name := "$assertionsDisabled", type := .boolean, accessFlags := 4120, slot := 9, constantValue := 0 }]
  methods := #[k9m0, k9m1, k9m2]
  instanceTypes := #[]
  staticTypes := #[.double, .double, .double, .double, .double, .long, .long, .double, .double, .boolean]
  resolved := Array.replicate 460 none
  statics := none }

def pool10 : Array CpInfo := pool [(4, .class_ 6), (1, u "java/lang/Object"), (0, u "<init>"), (0, u "()V"), (0, .class_ 10), (0, u "com/example/version_parser/versionparser/DecimalDigits"), (0, .long 9223372036854775807), (1, .long 10), (1, .methodref 16 17), (0, .class_ 18), (0, .nameAndType 19 20), (0, u "java/lang/String"), (0, u "charAt"), (0, u "(I)C"), (84, u "ZERO"), (0, u "Ljava/lang/String;"), (1, u "LARGE"), (0, u "J"), (0, u "LONG_DIGITS"), (0, u "I"), (1, u "CHUNK"), (3, u "value"), (0, u "(Ljava/lang/String;II)J")] 29

def k10m0 : Method := { name := "<init>", desc := "()V", sig := { parameters := [], returnType := none }, accessFlags := 2, code := none }
def k10c1 : Code := { maxStack := 4, maxLocals := 6, code := prog_2_method_2_code, exceptionTable := #[], attributes := #[] }
def k10m1 : Method := { name := "value", desc := "(Ljava/lang/String;II)J", sig := { parameters := [(.object "java/lang/String"), .int, .int], returnType := some .long }, accessFlags := 8, code := some k10c1 }
/-- com/example/version_parser/versionparser/DecimalDigits -/
def k10 : Class := { plain "com/example/version_parser/versionparser/DecimalDigits" (some 0) with
  accessFlags := 48
  interfaces := #[]
  cf := some (fileOf pool10 9 #[] #[{ accessFlags := 2, nameIndex := 7, descriptorIndex := 8, attributes := #[] }, { accessFlags := 8, nameIndex := 117, descriptorIndex := 118, attributes := #[] }] 48 4 #[] #[{ accessFlags := 24, nameIndex := 105, descriptorIndex := 106, attributes := #[] }, { accessFlags := 24, nameIndex := 108, descriptorIndex := 109, attributes := #[] }, { accessFlags := 26, nameIndex := 110, descriptorIndex := 111, attributes := #[] }, { accessFlags := 26, nameIndex := 113, descriptorIndex := 111, attributes := #[] }])
  fields := #[{ name := "ZERO", type := (.object "java/lang/String"), accessFlags := 24, slot := 0, constantValue := 0 }, { name := "LARGE", type := .long, accessFlags := 24, slot := 1, constantValue := 0 }, { name := "LONG_DIGITS", type := .int, accessFlags := 26, slot := 2, constantValue := 0 }, { name := "CHUNK", type := .int, accessFlags := 26, slot := 3, constantValue := 0 }]
  methods := #[k10m0, k10m1]
  instanceTypes := #[]
  staticTypes := #[(.object "java/lang/String"), .long, .int, .int]
  resolved := Array.replicate 148 none
  statics := none }

def pool11 : Array CpInfo := pool [(1, .class_ 2), (0, u "java/lang/String"), (1, .class_ 6), (1, u "java/lang/Object"), (0, u "<init>"), (0, u "()V"), (0, .methodref 1 10), (0, .nameAndType 11 12), (0, u "checkIndex"), (0, u "(II)V"), (1, .class_ 16), (1, u "java/lang/StringLatin1"), (36, u "([BI)C"), (67, u "$assertionsDisabled"), (0, u "Z"), (98, .class_ 223), (1, u "java/lang/StringLatin1$LinesSpliterator"), (28, u "charAt"), (137, .class_ 391), (0, u "java/lang/StringLatin1$CharsSpliterator")] 3

def k11m0 : Method := { name := "<init>", desc := "()V", sig := { parameters := [], returnType := none }, accessFlags := 0, code := none }
def k11c1 : Code := { maxStack := 2, maxLocals := 2, code := jdk_43_method_2_code, exceptionTable := #[], attributes := #[] }
def k11m1 : Method := { name := "charAt", desc := "([BI)C", sig := { parameters := [(.array .byte), .int], returnType := some .char }, accessFlags := 9, code := some k11c1 }
/-- java/lang/StringLatin1 -/
def k11 : Class := { plain "java/lang/StringLatin1" (some 0) with
  accessFlags := 48
  interfaces := #[]
  cf := some (fileOf pool11 14 #[.nestMembers #[390, 221]] #[{ accessFlags := 0, nameIndex := 7, descriptorIndex := 8, attributes := #[] }, { accessFlags := 9, nameIndex := 252, descriptorIndex := 53, attributes := #[] }] 48 4 #[] #[{ accessFlags := 4120, nameIndex := 121, descriptorIndex := 122, attributes := #[] }])
  fields := #[{ name := "$assertionsDisabled", type := .boolean, accessFlags := 4120, slot := 0, constantValue := 0 }]
  methods := #[k11m0, k11m1]
  instanceTypes := #[]
  staticTypes := #[.boolean]
  resolved := Array.replicate 395 none
  statics := none }

def pool12 : Array CpInfo := pool [(2, .class_ 4), (1, u "java/lang/Object"), (0, u "<init>"), (0, u "()V"), (17, .class_ 26), (1, u "jdk/internal/util/Preconditions"), (6, u "checkIndex"), (21, .class_ 56), (0, u "jdk/internal/util/Preconditions$4"), (57, .class_ 115), (0, u "jdk/internal/util/Preconditions$1"), (7, u "SIOOBE_FORMATTER"), (0, u "Ljava/util/function/BiFunction;"), (0, .class_ 126), (0, u "jdk/internal/util/Preconditions$2"), (3, u "AIOOBE_FORMATTER"), (0, .class_ 132), (0, u "jdk/internal/util/Preconditions$3"), (3, u "IOOBE_FORMATTER"), (41, u "(IILjava/util/function/BiFunction;)I")] 15

def k12m0 : Method := { name := "<init>", desc := "()V", sig := { parameters := [], returnType := none }, accessFlags := 1, code := none }
def k12c1 : Code := { maxStack := 3, maxLocals := 3, code := jdk_41_method_11_code, exceptionTable := #[], attributes := #[] }
def k12m1 : Method := { name := "checkIndex", desc := "(IILjava/util/function/BiFunction;)I", sig := { parameters := [.int, .int, (.object "java/util/function/BiFunction")], returnType := some .int }, accessFlags := 9, code := some k12c1 }
/-- jdk/internal/util/Preconditions -/
def k12 : Class := { plain "jdk/internal/util/Preconditions" (some 0) with
  accessFlags := 33
  interfaces := #[]
  cf := some (fileOf pool12 24 #[.nestMembers #[55, 131, 125, 114]] #[{ accessFlags := 1, nameIndex := 5, descriptorIndex := 6, attributes := #[] }, { accessFlags := 9, nameIndex := 33, descriptorIndex := 178, attributes := #[] }] 33 2 #[] #[{ accessFlags := 25, nameIndex := 123, descriptorIndex := 124, attributes := #[] }, { accessFlags := 25, nameIndex := 130, descriptorIndex := 124, attributes := #[] }, { accessFlags := 25, nameIndex := 136, descriptorIndex := 124, attributes := #[] }])
  fields := #[{ name := "SIOOBE_FORMATTER", type := (.object "java/util/function/BiFunction"), accessFlags := 25, slot := 0, constantValue := 0 }, { name := "AIOOBE_FORMATTER", type := (.object "java/util/function/BiFunction"), accessFlags := 25, slot := 1, constantValue := 0 }, { name := "IOOBE_FORMATTER", type := (.object "java/util/function/BiFunction"), accessFlags := 25, slot := 2, constantValue := 0 }]
  methods := #[k12m0, k12m1]
  instanceTypes := #[]
  staticTypes := #[(.object "java/util/function/BiFunction"), (.object "java/util/function/BiFunction"), (.object "java/util/function/BiFunction")]
  resolved := Array.replicate 194 none
  statics := some 1 }

def pool13 : Array CpInfo := pool [(9, u "<init>"), (6, .class_ 18), (1, u "java/lang/Object"), (0, u "()V"), (1, .class_ 23), (1, u "jdk/internal/util/ArraysSupport"), (0, u "LOG2_ARRAY_LONG_INDEX_SCALE"), (0, u "I"), (2, u "U"), (0, u "Ljdk/internal/misc/Unsafe;"), (8, u "BIG_ENDIAN"), (0, u "Z"), (8, u "LOG2_BYTE_BIT_SIZE"), (4, u "LOG2_ARRAY_INT_INDEX_SCALE"), (54, u "JLA"), (0, u "Ljdk/internal/access/JavaLangAccess;"), (11, u "LOG2_ARRAY_BOOLEAN_INDEX_SCALE"), (9, u "LOG2_ARRAY_BYTE_INDEX_SCALE"), (5, u "LOG2_ARRAY_CHAR_INDEX_SCALE"), (5, u "LOG2_ARRAY_SHORT_INDEX_SCALE"), (18, u "LOG2_ARRAY_FLOAT_INDEX_SCALE"), (24, u "LOG2_ARRAY_DOUBLE_INDEX_SCALE"), (89, u "T_BOOLEAN"), (2, u "T_CHAR"), (1, u "T_FLOAT"), (1, u "T_DOUBLE"), (1, u "T_BYTE"), (1, u "T_SHORT"), (1, u "T_INT"), (1, u "T_LONG"), (1, u "SOFT_MAX_ARRAY_LENGTH")] 83

def k13m0 : Method := { name := "<init>", desc := "()V", sig := { parameters := [], returnType := none }, accessFlags := 2, code := none }
/-- jdk/internal/util/ArraysSupport -/
def k13 : Class := { plain "jdk/internal/util/ArraysSupport" (some 0) with
  accessFlags := 33
  interfaces := #[]
  cf := some (fileOf pool13 21 #[] #[{ accessFlags := 2, nameIndex := 9, descriptorIndex := 19, attributes := #[] }] 33 16 #[] #[{ accessFlags := 24, nameIndex := 28, descriptorIndex := 29, attributes := #[] }, { accessFlags := 26, nameIndex := 38, descriptorIndex := 39, attributes := #[] }, { accessFlags := 25, nameIndex := 121, descriptorIndex := 25, attributes := #[] }, { accessFlags := 25, nameIndex := 131, descriptorIndex := 25, attributes := #[] }, { accessFlags := 25, nameIndex := 137, descriptorIndex := 25, attributes := #[] }, { accessFlags := 25, nameIndex := 143, descriptorIndex := 25, attributes := #[] }, { accessFlags := 25, nameIndex := 53, descriptorIndex := 25, attributes := #[] }, { accessFlags := 25, nameIndex := 24, descriptorIndex := 25, attributes := #[] }, { accessFlags := 25, nameIndex := 162, descriptorIndex := 25, attributes := #[] }, { accessFlags := 25, nameIndex := 187, descriptorIndex := 25, attributes := #[] }, { accessFlags := 26, nameIndex := 48, descriptorIndex := 25, attributes := #[] }, { accessFlags := 25, nameIndex := 277, descriptorIndex := 25, attributes := #[] }, { accessFlags := 25, nameIndex := 280, descriptorIndex := 25, attributes := #[] }, { accessFlags := 25, nameIndex := 282, descriptorIndex := 25, attributes := #[] }, { accessFlags := 25, nameIndex := 284, descriptorIndex := 25, attributes := #[] }, { accessFlags := 25, nameIndex := 286, descriptorIndex := 25, attributes := #[] }, { accessFlags := 25, nameIndex := 288, descriptorIndex := 25, attributes := #[] }, { accessFlags := 25, nameIndex := 290, descriptorIndex := 25, attributes := #[] }, { accessFlags := 25, nameIndex := 292, descriptorIndex := 25, attributes := #[] }, { accessFlags := 26, nameIndex := 108, descriptorIndex := 109, attributes := #[] }, { accessFlags := 25, nameIndex := 294, descriptorIndex := 25, attributes := #[] }])
  fields := #[{ name := "U", type := (.object "jdk/internal/misc/Unsafe"), accessFlags := 24, slot := 0, constantValue := 0 }, { name := "BIG_ENDIAN", type := .boolean, accessFlags := 26, slot := 1, constantValue := 0 }, { name := "LOG2_ARRAY_BOOLEAN_INDEX_SCALE", type := .int, accessFlags := 25, slot := 2, constantValue := 0 }, { name := "LOG2_ARRAY_BYTE_INDEX_SCALE", type := .int, accessFlags := 25, slot := 3, constantValue := 0 }, { name := "LOG2_ARRAY_CHAR_INDEX_SCALE", type := .int, accessFlags := 25, slot := 4, constantValue := 0 }, { name := "LOG2_ARRAY_SHORT_INDEX_SCALE", type := .int, accessFlags := 25, slot := 5, constantValue := 0 }, { name := "LOG2_ARRAY_INT_INDEX_SCALE", type := .int, accessFlags := 25, slot := 6, constantValue := 0 }, { name := "LOG2_ARRAY_LONG_INDEX_SCALE", type := .int, accessFlags := 25, slot := 7, constantValue := 0 }, { name := "LOG2_ARRAY_FLOAT_INDEX_SCALE", type := .int, accessFlags := 25, slot := 8, constantValue := 0 }, { name := "LOG2_ARRAY_DOUBLE_INDEX_SCALE", type := .int, accessFlags := 25, slot := 9, constantValue := 0 }, { name := "LOG2_BYTE_BIT_SIZE", type := .int, accessFlags := 26, slot := 10, constantValue := 0 }, { name := "T_BOOLEAN", type := .int, accessFlags := 25, slot := 11, constantValue := 0 }, { name := "T_CHAR", type := .int, accessFlags := 25, slot := 12, constantValue := 0 }, { name := "T_FLOAT", type := .int, accessFlags := 25, slot := 13, constantValue := 0 }, { name := "T_DOUBLE", type := .int, accessFlags := 25, slot := 14, constantValue := 0 }, { name := "T_BYTE", type := .int, accessFlags := 25, slot := 15, constantValue := 0 }, { name := "T_SHORT", type := .int, accessFlags := 25, slot := 16, constantValue := 0 }, { name := "T_INT", type := .int, accessFlags := 25, slot := 17, constantValue := 0 }, { name := "T_LONG", type := .int, accessFlags := 25, slot := 18, constantValue := 0 }, { name := "JLA", type := (.object "jdk/internal/access/JavaLangAccess"), accessFlags := 26, slot := 19, constantValue := 0 }, { name := "SOFT_MAX_ARRAY_LENGTH", type := .int, accessFlags := 25, slot := 20, constantValue := 0 }]
  methods := #[k13m0]
  instanceTypes := #[]
  staticTypes := #[(.object "jdk/internal/misc/Unsafe"), .boolean, .int, .int, .int, .int, .int, .int, .int, .int, .int, .int, .int, .int, .int, .int, .int, .int, .int, (.object "jdk/internal/access/JavaLangAccess"), .int]
  resolved := Array.replicate 378 none
  statics := none }

def pool14 : Array CpInfo := pool [(1, u "java/lang/Cloneable"), (0, .class_ 1), (0, u "java/lang/Object"), (0, .class_ 3)] 3

/-- java/lang/Cloneable -/
def k14 : Class := { plain "java/lang/Cloneable" (some 0) with
  accessFlags := 1537
  interfaces := #[]
  cf := some (fileOf pool14 2 #[] #[] 1537 4 #[] #[])
  fields := #[]
  methods := #[]
  instanceTypes := #[]
  staticTypes := #[]
  resolved := Array.replicate 8 none
  statics := none }

/-- the primitive byte -/
def k15 : Class := { plain "byte" none with kind := .primitive 'B', accessFlags := 0x411 }
/-- [B -/
def k16 : Class := { plain "[B" (some 0) with kind := .array 15 .byte, interfaces := #[14, 2], accessFlags := 1041 }

/-- the primitive char -/
def k17 : Class := { plain "char" none with kind := .primitive 'C', accessFlags := 0x411 }
/-- [C -/
def k18 : Class := { plain "[C" (some 0) with kind := .array 17 .char, interfaces := #[14, 2], accessFlags := 1041 }

/-- the primitive int -/
def k19 : Class := { plain "int" none with kind := .primitive 'I', accessFlags := 0x411 }
/-- [I -/
def k20 : Class := { plain "[I" (some 0) with kind := .array 19 .int, interfaces := #[14, 2], accessFlags := 1041 }

/-- the primitive long -/
def k21 : Class := { plain "long" none with kind := .primitive 'J', accessFlags := 0x411 }
/-- [J -/
def k22 : Class := { plain "[J" (some 0) with kind := .array 21 .long, interfaces := #[14, 2], accessFlags := 1041 }

def heap : Heap := #[{ cls := 7, slots := #[.long 0, .int 1, .null, .int 0, .null, .int 0, .int 0], vm := .statics 7 },
  { cls := 12, slots := #[.null, .null, .null], vm := .statics 12 }]
def classes : Array Class := #[k0, k1, k2, k3, k4, k5, k6, k7, k8, k9, k10, k11, k12, k13, k14, k15, k16, k17, k18, k19, k20, k21, k22]
def interned : List (Array UInt16 × Addr) := []
def slotsUsed : Nat := 10
def theMethod : MethodId := ⟨1, 3⟩
def args0 : Array Value := #[.long 5, .int 7, .int 8, .int 9]
def aboutOver (below : List Frame) : State where
  vm := { classes := classes, interned := interned.toArray }
  heap := heap
  slotsUsed := slotsUsed
  threads := #[{ frames := .invoking theMethod args0 :: below }]
def below0 : List Frame := [.native { method := ⟨0, 0⟩, args := #[] }]
def about1 : State := aboutOver below0
def p0 : Program := .bare "" "" ""
def e0 : Env := launch0.env 0 0 0
theorem w_frames : about1.frames = Frame.invoking theMethod args0 :: below0 := rfl
set_option maxRecDepth 65536 in
theorem w_args : argsFit about1.vm theMethod args0 = true := by decide +kernel
set_option maxRecDepth 65536 in
theorem w_heap : heapFits about1 = true := by decide +kernel
set_option maxRecDepth 65536 in
theorem w_runnable : about1.curStatus? = some .runnable := by decide +kernel
set_option maxRecDepth 65536 in
theorem w_alone : about1.alone = true := by decide +kernel
set_option maxRecDepth 65536 in
theorem w_named : about1.methodNamed? x = some theMethod := by decide +kernel
set_option maxRecDepth 65536 in
theorem w_hears : about1.hears theMethod below0 = true := by decide +kernel
set_option maxRecDepth 65536 in
theorem w_ripe : about1.ripe theMethod args0 below0 = true := by decide +kernel
theorem w_running : about1.status = .running := rfl
set_option maxRecDepth 65536 in
theorem w_room : about1.hasRoom e0.platform room_1 = true :=
  launch0.hasRoom_least _ room_1 (by decide +kernel) (by decide +kernel) (by decide +kernel) (by decide +kernel) (by decide +kernel) (by decide +kernel)
theorem allAtoms_all (ts : List Jvm.Cond) (a : Array Jvm.Value) (st : Jvm.State) : (allAtoms ts).before a st = ts.all (fun c => c.before a st) := by
  induction ts with
  | nil => rfl
  | cons c t ih =>
    show (Jvm.Cond.and c (allAtoms t)).before a st = _
    rw [Jvm.Cond.before_and, ih, List.all_cons]
def words1 : List Jvm.Cond := Jvm.Cond.code x code maxLocals ret :: tables_1
/-- a 'code' word, met by the world's own term for the bytes: nothing is compared byte by byte -/
theorem code_word {y : MethodName} {bytes : ByteArray} {mx : Nat} {rt : Option FieldType} {a : Array Value} {s : State} {m : MethodId} {meth : Method} {c : Code} (h1 : s.methodNamed? y = some m) (h2 : s.vm.method? m = some meth) (h3 : meth.code = some c) (h4 : c.code = bytes)
    (h5 : (c.maxLocals == mx && c.exceptionTable.isEmpty && decide (c.maxStack ≤ mostOperands) && decide (meth.sig.returnType = rt) && !meth.locks && decide (parseMethodDescriptor y.desc = some meth.sig)) = true) : (Jvm.Cond.code y bytes mx rt).before a s = true := by
  simp only [Bool.and_eq_true, beq_iff_eq, Bool.not_eq_true', decide_eq_true_eq] at h5
  obtain ⟨⟨⟨⟨⟨g1, g2⟩, g3⟩, g4⟩, g5⟩, g6⟩ := h5
  simp [Cond.before, Cond.holds, Cond.value, h1, h2, h3, h4, g1, g2, g3, g4, g5, g6]
def isCode : Jvm.Cond → Bool
  | .code _ _ _ _ => true
  | _ => false
theorem all_split {L : List Jvm.Cond} {P : Jvm.Cond → Bool} (h1 : L.all (fun c => isCode c || P c) = true) (h2 : ∀ c ∈ L.filter isCode, P c = true) : L.all P = true := by
  refine List.all_eq_true.mpr fun c hc => ?_
  have h := List.all_eq_true.mp h1 c hc
  rcases Bool.eq_false_or_eq_true (isCode c) with hi | hi
  · exact h2 c (List.mem_filter.mpr ⟨hc, hi⟩)
  · simpa [hi] using h
set_option maxRecDepth 65536 in
theorem w_c0 : (Jvm.Cond.code x code maxLocals ret).before args0 about1 = true := code_word (m := ⟨1, 3⟩) (meth := k1m3) (c := k1c3) (by decide +kernel) rfl rfl rfl (by decide +kernel)
set_option maxRecDepth 65536 in
theorem w_c1 : (Jvm.Cond.code ({ cls := "com/example/version_parser/versionparser/DecimalDigitsValuePinLaw", name := "dig", desc := "(JI)C" } : Jvm.MethodName) method_3_code (3 : Nat) (Option.some Jvm.ClassFile.FieldType.char)).before args0 about1 = true := code_word (m := ⟨1, 2⟩) (meth := k1m2) (c := k1c2) (by decide +kernel) rfl rfl rfl (by decide +kernel)
set_option maxRecDepth 65536 in
theorem w_c2 : (Jvm.Cond.code ({ cls := "com/example/version_parser/versionparser/DecimalDigitsValuePinLaw", name := "pow10", desc := "(I)J" } : Jvm.MethodName) method_2_code (2 : Nat) (Option.some Jvm.ClassFile.FieldType.long)).before args0 about1 = true := code_word (m := ⟨1, 1⟩) (meth := k1m1) (c := k1c1) (by decide +kernel) rfl rfl rfl (by decide +kernel)
set_option maxRecDepth 65536 in
theorem w_c3 : (Jvm.Cond.code ({ cls := "java/lang/String", name := "<init>", desc := "([C)V" } : Jvm.MethodName) jdk_42_method_3_code (2 : Nat) (Option.none : Option Jvm.ClassFile.FieldType)).before args0 about1 = true := code_word (m := ⟨7, 1⟩) (meth := k7m1) (c := k7c1) (by decide +kernel) rfl rfl rfl (by decide +kernel)
set_option maxRecDepth 65536 in
theorem w_c4 : (Jvm.Cond.code ({ cls := "java/lang/String", name := "<init>", desc := "([CIILjava/lang/Void;)V" } : Jvm.MethodName) jdk_42_method_149_code (6 : Nat) (Option.none : Option Jvm.ClassFile.FieldType)).before args0 about1 = true := code_word (m := ⟨7, 3⟩) (meth := k7m3) (c := k7c3) (by decide +kernel) rfl rfl rfl (by decide +kernel)
set_option maxRecDepth 65536 in
theorem w_c5 : (Jvm.Cond.code ({ cls := "java/lang/Object", name := "<init>", desc := "()V" } : Jvm.MethodName) object_method_1_code (1 : Nat) (Option.none : Option Jvm.ClassFile.FieldType)).before args0 about1 = true := code_word (m := ⟨0, 0⟩) (meth := k0m0) (c := k0c0) (by decide +kernel) rfl rfl rfl (by decide +kernel)
set_option maxRecDepth 65536 in
theorem w_c6 : (Jvm.Cond.code ({ cls := "java/lang/StringUTF16", name := "compress", desc := "([CII)[B" } : Jvm.MethodName) jdk_52_method_16_code (6 : Nat) (Option.some (Jvm.ClassFile.FieldType.array Jvm.ClassFile.FieldType.byte))).before args0 about1 = true := code_word (m := ⟨8, 2⟩) (meth := k8m2) (c := k8c2) (by decide +kernel) rfl rfl rfl (by decide +kernel)
set_option maxRecDepth 65536 in
theorem w_c7 : (Jvm.Cond.code ({ cls := "java/lang/StringUTF16", name := "compress", desc := "([CI[BII)I" } : Jvm.MethodName) jdk_52_method_21_code (7 : Nat) (Option.some Jvm.ClassFile.FieldType.int)).before args0 about1 = true := code_word (m := ⟨8, 3⟩) (meth := k8m3) (c := k8c3) (by decide +kernel) rfl rfl rfl (by decide +kernel)
set_option maxRecDepth 65536 in
theorem w_c8 : (Jvm.Cond.code ({ cls := "java/lang/StringUTF16", name := "coderFromArrayLen", desc := "([BI)B" } : Jvm.MethodName) jdk_52_method_15_code (2 : Nat) (Option.some Jvm.ClassFile.FieldType.byte)).before args0 about1 = true := code_word (m := ⟨8, 1⟩) (meth := k8m1) (c := k8c1) (by decide +kernel) rfl rfl rfl (by decide +kernel)
set_option maxRecDepth 65536 in
theorem w_c9 : (Jvm.Cond.code ({ cls := "java/lang/Math", name := "min", desc := "(II)I" } : Jvm.MethodName) jdk_29_method_69_code (2 : Nat) (Option.some Jvm.ClassFile.FieldType.int)).before args0 about1 = true := code_word (m := ⟨9, 2⟩) (meth := k9m2) (c := k9c2) (by decide +kernel) rfl rfl rfl (by decide +kernel)
set_option maxRecDepth 65536 in
theorem w_c10 : (Jvm.Cond.code ({ cls := "java/lang/Math", name := "max", desc := "(II)I" } : Jvm.MethodName) jdk_29_method_65_code (2 : Nat) (Option.some Jvm.ClassFile.FieldType.int)).before args0 about1 = true := code_word (m := ⟨9, 1⟩) (meth := k9m1) (c := k9c1) (by decide +kernel) rfl rfl rfl (by decide +kernel)
set_option maxRecDepth 65536 in
theorem w_c11 : (Jvm.Cond.code ({ cls := "com/example/version_parser/versionparser/DecimalDigits", name := "value", desc := "(Ljava/lang/String;II)J" } : Jvm.MethodName) prog_2_method_2_code (6 : Nat) (Option.some Jvm.ClassFile.FieldType.long)).before args0 about1 = true := code_word (m := ⟨10, 1⟩) (meth := k10m1) (c := k10c1) (by decide +kernel) rfl rfl rfl (by decide +kernel)
set_option maxRecDepth 65536 in
theorem w_c12 : (Jvm.Cond.code ({ cls := "java/lang/String", name := "charAt", desc := "(I)C" } : Jvm.MethodName) jdk_42_method_56_code (2 : Nat) (Option.some Jvm.ClassFile.FieldType.char)).before args0 about1 = true := code_word (m := ⟨7, 2⟩) (meth := k7m2) (c := k7c2) (by decide +kernel) rfl rfl rfl (by decide +kernel)
set_option maxRecDepth 65536 in
theorem w_c13 : (Jvm.Cond.code ({ cls := "java/lang/String", name := "isLatin1", desc := "()Z" } : Jvm.MethodName) jdk_42_method_154_code (1 : Nat) (Option.some Jvm.ClassFile.FieldType.boolean)).before args0 about1 = true := code_word (m := ⟨7, 4⟩) (meth := k7m4) (c := k7c4) (by decide +kernel) rfl rfl rfl (by decide +kernel)
set_option maxRecDepth 65536 in
theorem w_c14 : (Jvm.Cond.code ({ cls := "java/lang/StringLatin1", name := "charAt", desc := "([BI)C" } : Jvm.MethodName) jdk_43_method_2_code (2 : Nat) (Option.some Jvm.ClassFile.FieldType.char)).before args0 about1 = true := code_word (m := ⟨11, 1⟩) (meth := k11m1) (c := k11c1) (by decide +kernel) rfl rfl rfl (by decide +kernel)
set_option maxRecDepth 65536 in
theorem w_c15 : (Jvm.Cond.code ({ cls := "java/lang/String", name := "checkIndex", desc := "(II)V" } : Jvm.MethodName) jdk_42_method_155_code (2 : Nat) (Option.none : Option Jvm.ClassFile.FieldType)).before args0 about1 = true := code_word (m := ⟨7, 5⟩) (meth := k7m5) (c := k7c5) (by decide +kernel) rfl rfl rfl (by decide +kernel)
set_option maxRecDepth 65536 in
theorem w_c16 : (Jvm.Cond.code ({ cls := "jdk/internal/util/Preconditions", name := "checkIndex", desc := "(IILjava/util/function/BiFunction;)I" } : Jvm.MethodName) jdk_41_method_11_code (3 : Nat) (Option.some Jvm.ClassFile.FieldType.int)).before args0 about1 = true := code_word (m := ⟨12, 1⟩) (meth := k12m1) (c := k12c1) (by decide +kernel) rfl rfl rfl (by decide +kernel)
def codes1 : List Jvm.Cond := [Jvm.Cond.code x code maxLocals ret, Jvm.Cond.code ({ cls := "com/example/version_parser/versionparser/DecimalDigitsValuePinLaw", name := "dig", desc := "(JI)C" } : Jvm.MethodName) method_3_code (3 : Nat) (Option.some Jvm.ClassFile.FieldType.char), Jvm.Cond.code ({ cls := "com/example/version_parser/versionparser/DecimalDigitsValuePinLaw", name := "pow10", desc := "(I)J" } : Jvm.MethodName) method_2_code (2 : Nat) (Option.some Jvm.ClassFile.FieldType.long), Jvm.Cond.code ({ cls := "java/lang/String", name := "<init>", desc := "([C)V" } : Jvm.MethodName) jdk_42_method_3_code (2 : Nat) (Option.none : Option Jvm.ClassFile.FieldType), Jvm.Cond.code ({ cls := "java/lang/String", name := "<init>", desc := "([CIILjava/lang/Void;)V" } : Jvm.MethodName) jdk_42_method_149_code (6 : Nat) (Option.none : Option Jvm.ClassFile.FieldType), Jvm.Cond.code ({ cls := "java/lang/Object", name := "<init>", desc := "()V" } : Jvm.MethodName) object_method_1_code (1 : Nat) (Option.none : Option Jvm.ClassFile.FieldType), Jvm.Cond.code ({ cls := "java/lang/StringUTF16", name := "compress", desc := "([CII)[B" } : Jvm.MethodName) jdk_52_method_16_code (6 : Nat) (Option.some (Jvm.ClassFile.FieldType.array Jvm.ClassFile.FieldType.byte)), Jvm.Cond.code ({ cls := "java/lang/StringUTF16", name := "compress", desc := "([CI[BII)I" } : Jvm.MethodName) jdk_52_method_21_code (7 : Nat) (Option.some Jvm.ClassFile.FieldType.int), Jvm.Cond.code ({ cls := "java/lang/StringUTF16", name := "coderFromArrayLen", desc := "([BI)B" } : Jvm.MethodName) jdk_52_method_15_code (2 : Nat) (Option.some Jvm.ClassFile.FieldType.byte), Jvm.Cond.code ({ cls := "java/lang/Math", name := "min", desc := "(II)I" } : Jvm.MethodName) jdk_29_method_69_code (2 : Nat) (Option.some Jvm.ClassFile.FieldType.int), Jvm.Cond.code ({ cls := "java/lang/Math", name := "max", desc := "(II)I" } : Jvm.MethodName) jdk_29_method_65_code (2 : Nat) (Option.some Jvm.ClassFile.FieldType.int), Jvm.Cond.code ({ cls := "com/example/version_parser/versionparser/DecimalDigits", name := "value", desc := "(Ljava/lang/String;II)J" } : Jvm.MethodName) prog_2_method_2_code (6 : Nat) (Option.some Jvm.ClassFile.FieldType.long), Jvm.Cond.code ({ cls := "java/lang/String", name := "charAt", desc := "(I)C" } : Jvm.MethodName) jdk_42_method_56_code (2 : Nat) (Option.some Jvm.ClassFile.FieldType.char), Jvm.Cond.code ({ cls := "java/lang/String", name := "isLatin1", desc := "()Z" } : Jvm.MethodName) jdk_42_method_154_code (1 : Nat) (Option.some Jvm.ClassFile.FieldType.boolean), Jvm.Cond.code ({ cls := "java/lang/StringLatin1", name := "charAt", desc := "([BI)C" } : Jvm.MethodName) jdk_43_method_2_code (2 : Nat) (Option.some Jvm.ClassFile.FieldType.char), Jvm.Cond.code ({ cls := "java/lang/String", name := "checkIndex", desc := "(II)V" } : Jvm.MethodName) jdk_42_method_155_code (2 : Nat) (Option.none : Option Jvm.ClassFile.FieldType), Jvm.Cond.code ({ cls := "jdk/internal/util/Preconditions", name := "checkIndex", desc := "(IILjava/util/function/BiFunction;)I" } : Jvm.MethodName) jdk_41_method_11_code (3 : Nat) (Option.some Jvm.ClassFile.FieldType.int)]
set_option maxRecDepth 65536 in
theorem codes_eq : words1.filter isCode = codes1 := rfl
theorem w_codes : ∀ c ∈ words1.filter isCode, c.before args0 about1 = true := by
  rw [codes_eq]
  intro c hc
  simp only [codes1, List.mem_cons, List.not_mem_nil, or_false] at hc
  rcases hc with rfl | rfl | rfl | rfl | rfl | rfl | rfl | rfl | rfl | rfl | rfl | rfl | rfl | rfl | rfl | rfl | rfl
  · exact w_c0
  · exact w_c1
  · exact w_c2
  · exact w_c3
  · exact w_c4
  · exact w_c5
  · exact w_c6
  · exact w_c7
  · exact w_c8
  · exact w_c9
  · exact w_c10
  · exact w_c11
  · exact w_c12
  · exact w_c13
  · exact w_c14
  · exact w_c15
  · exact w_c16
set_option maxRecDepth 65536 in
theorem w_t1 : (words1.take 24).all (fun c => isCode c || c.before args0 about1) = true := by decide +kernel
set_option maxRecDepth 65536 in
theorem w_t2 : ((words1.drop 24).take 24).all (fun c => isCode c || c.before args0 about1) = true := by decide +kernel
set_option maxRecDepth 65536 in
theorem w_t3 : (((words1.drop 24).drop 24).take 24).all (fun c => isCode c || c.before args0 about1) = true := by decide +kernel
set_option maxRecDepth 65536 in
theorem w_t4 : (((words1.drop 24).drop 24).drop 24).all (fun c => isCode c || c.before args0 about1) = true := by decide +kernel
theorem w_tables : (allAtoms (Jvm.Cond.code x code maxLocals ret :: tables_1)).before args0 about1 = true := by
  rw [allAtoms_all]
  show words1.all (fun c => c.before args0 about1) = true
  refine all_split ?_ w_codes
  rw [← List.take_append_drop 24 words1, List.all_append, w_t1, ← List.take_append_drop 24 (words1.drop 24), List.all_append, w_t2, ← List.take_append_drop 24 ((words1.drop 24).drop 24), List.all_append, w_t3, w_t4]
  rfl
set_option maxRecDepth 65536 in
theorem w_rest : rest_1_c.before args0 about1 = true := by decide +kernel
set_option maxRecDepth 65536 in
theorem w_case : (Jvm.Cond.and given_1 narrow_1).before args0 about1 = true := by decide +kernel
theorem w_applies : (headSpec (Jvm.Cond.code x code maxLocals ret :: tables_1) room_1).applies x e0.platform about1 = true :=
  (Spec.applies_iff w_frames).mpr ⟨w_running, w_runnable, w_alone, w_named, w_hears, w_ripe, w_room, w_tables⟩
theorem atStart : AtStart classFile x code maxLocals ret World_1 tables_1 room_1 Calls_1 rest_1 Pre_1 launch0 p0 e0 about1 theMethod args0 below0 :=
  ⟨lists_1, trivial, launch0.admits_env _ _ _, launch0.least_env, fairChoices_fair.cas, fairChoices_fair.clock, w_frames, w_args, w_heap, w_applies, trivial, w_rest, w_case⟩
end start1
theorem witness_1 : WitnessClaimed_1 := ⟨start1.p0, start1.e0, start1.about1, start1.theMethod, start1.args0, start1.below0, start1.atStart⟩
end Jvm.Pilot.@@N@@
