import JvmDerived
import JvmDerived.Pilot.@@N@@Statement
import JvmDerived.Pilot.@@N@@Code
set_option linter.unusedVariables false
set_option linter.unusedSimpArgs false
@@BLOCK:NumsL.lean.txt@@
namespace Jvm.RoadKit
open Sem ClassFile Op Lib Jvm.Stand Jvm.Free Jvm.LawKit
section New
variable {p : Program} {l : Launch} {e : Env} {R : Room} {s : State} {m : MethodId} {args : Array Value} {below : List Frame} {meth : Method} {c : Code} {T : State} {locs : List Loc} {cells slots : Nat}
theorem retI (X : Stand p l e R s m args below meth c T locs cells slots) (hx : p.tables.exec = Jvm.exec) {pc : Nat} {Ls : Array Slot} {z : Int32} {rest : List Value} (hret : meth.sig.returnType = some .int) (hd : decode c.code pc = .ok (.ireturn, 1)) {fs : List Frame}
    (hl : ∀ (f : JFrame) (acts : List Action), f.method = m → f.locked = none → f.entered = [] → (doReturn e (T.setTop f) acts (some (.int z))).1 = T.setFrames fs) : Steps p.tables e below (T.setTop (mkF m pc Ls (.int z :: rest))) (T.setFrames fs) := by
  have hm' : T.vm.method? m = some meth := X.method'
  have hn : narrow .int (.int z) = .int z := rfl
  show Steps p.tables e below (T.setTop { method := m, pc := pc, locals := Ls, stack := _ :: rest, locked := none }) _
  jvm_step X.here [X.here.top, hx, hd, hm', hret, hn]
  first | (intro acts; rw [hl _ acts rfl rfl rfl]) | rw [hl _ _ rfl rfl rfl]
  exact Steps.refl _
end New
end Jvm.RoadKit
/- laws to paste: Road.backV (cut by pick.py; bodies as the Statement names them) -/
namespace Jvm.Pilot.@@N@@
namespace StrChars
open Jvm Sem ClassFile Op Lib Jvm.Stand Jvm.Free.XT Jvm.Free.ALB Jvm.Free.JM Jvm.Free
open Jvm.Lib.Cold (StaticIs)
/-- a char array whose places are chars -/
def Ch (a : Addr) (A : Cell) (U : State) : Prop := Arr .char a A U ∧ Typed .char A
theorem Ch.mv {a : Addr} {A : Cell} {U U' : State} (h : Ch a A U) (hal : U.vm.Alike U'.vm) (hh : U'.heap = U.heap) : Ch a A U' := ⟨h.1.mv hal hh, h.2⟩
theorem Ch.keep {a : Addr} {A : Cell} {U U' : State} (h : Ch a A U) (hal : U.vm.Alike U'.vm) (hk : U'.heap[a]? = some A) : Ch a A U' := ⟨h.1.keep hal hk, h.2⟩
/-- what place i of a char[]'s cell holds -/
def cv (A : Cell) (i : Nat) : Int32 := match A.slots[i]? with | some (.int x) => x | _ => 0
theorem Ch.get {a : Addr} {A : Cell} {U : State} (h : Ch a A U) {i : Nat} (hi : i < A.slots.size) : A.slots[i]? = some (.int (cv A i)) := by
  have e := Array.getElem?_eq_getElem hi
  have f := h.2 i _ e
  unfold cv; rw [e]
  generalize A.slots[i] = v at f
  cases v <;> simp [fits] at f ⊢
/-- the byte that i2b leaves of a char -/
def lo8 (x : Int32) : Int32 := x.toInt8.toInt32
theorem fits_lo8 (y : Int32) : fits .byte (.int (lo8 y)) = true := by
  have h1 := y.toInt8.le_toInt
  have h2 := y.toInt8.toInt_lt
  simp only [lo8, fits, Bool.and_eq_true, decide_eq_true_eq, Int32.le_iff_toInt_le, Int8.toInt_toInt32, show (-128 : Int32).toInt = -128 from by decide, show (127 : Int32).toInt = 127 from by decide]
  omega
/-- A' is A but that each place j of lo .. hi - 1 holds f j -/
def Laid (A A' : Cell) (lo hi : Nat) (f : Nat → Value) : Prop := A'.cls = A.cls ∧ A'.vm = A.vm ∧ A'.slots.size = A.slots.size ∧ ∀ i, A'.slots[i]? = if lo ≤ i ∧ i < hi then some (f i) else A.slots[i]?
theorem Laid.zero (A : Cell) (lo : Nat) (f : Nat → Value) : Laid A A lo (lo + 0) f := ⟨rfl, rfl, rfl, fun i => by rw [if_neg (by omega)]⟩
theorem Laid.step {A Ak : Cell} {lo k : Nat} {f : Nat → Value} {v : Value} (h : Laid A Ak lo k f) (hlo : lo ≤ k) (hk : k < Ak.slots.size) (hv : v = f k) : Laid A (Ak.setSlot k v) lo (k + 1) f := by
  refine ⟨h.1, h.2.1, by simpa [Cell.setSlot] using h.2.2.1, fun i => ?_⟩
  by_cases e : k = i
  · subst e; rw [Cell.slots_setSlot_self v hk, if_pos (by omega), hv]
  · rw [Cell.slots_setSlot_ne v e, h.2.2.2 i]
    by_cases q : lo ≤ i ∧ i < k
    · rw [if_pos q, if_pos (by omega)]
    · rw [if_neg q, if_neg (by omega)]
def U16 : String := "java/lang/StringUTF16"
namespace Cmp5
def yN : MethodName := ⟨"java/lang/StringUTF16", "compress", "([CI[BII)I"⟩
abbrev yB : ByteArray := jdk_52_method_21_code
theorem d0 : decode yB 0 = .ok (.iconst 0, 1) := by decide +kernel
theorem d1 : decode yB 1 = .ok (.istore 5, 2) := by decide +kernel
theorem d3 : decode yB 3 = .ok (.iload 5, 2) := by decide +kernel
theorem d5 : decode yB 5 = .ok (.iload 4, 2) := by decide +kernel
theorem d7 : decode yB 7 = .ok (.if_icmp (.ge) 37, 3) := by decide +kernel
theorem d10 : decode yB 10 = .ok (.aload_n 0, 1) := by decide +kernel
theorem d11 : decode yB 11 = .ok (.iload_n 1, 1) := by decide +kernel
theorem d12 : decode yB 12 = .ok (.caload, 1) := by decide +kernel
theorem d13 : decode yB 13 = .ok (.istore 6, 2) := by decide +kernel
theorem d15 : decode yB 15 = .ok (.iload 6, 2) := by decide +kernel
theorem d17 : decode yB 17 = .ok (.sipush 255, 3) := by decide +kernel
theorem d20 : decode yB 20 = .ok (.if_icmp (.le) 6, 3) := by decide +kernel
theorem d26 : decode yB 26 = .ok (.aload_n 2, 1) := by decide +kernel
theorem d27 : decode yB 27 = .ok (.iload_n 3, 1) := by decide +kernel
theorem d28 : decode yB 28 = .ok (.iload 6, 2) := by decide +kernel
theorem d30 : decode yB 30 = .ok (.i2b, 1) := by decide +kernel
theorem d31 : decode yB 31 = .ok (.bastore, 1) := by decide +kernel
theorem d32 : decode yB 32 = .ok (.iinc 1 1, 3) := by decide +kernel
theorem d35 : decode yB 35 = .ok (.iinc 3 1, 3) := by decide +kernel
theorem d38 : decode yB 38 = .ok (.iinc 5 1, 3) := by decide +kernel
theorem d41 : decode yB 41 = .ok (.goto (-38), 3) := by decide +kernel
theorem d44 : decode yB 44 = .ok (.iload 4, 2) := by decide +kernel
theorem d46 : decode yB 46 = .ok (.ireturn, 1) := by decide +kernel
def site : List Cond := []
def tab : Cond := tabOf yN yB 7 (some .int) site
def P (b : Addr) (A : Cell) (d : Addr) (B : Cell) (o q len : Nat) (args : Array Value) (s : State) : Prop := args = #[.ref b, .int (Int32.ofNat o), .ref d, .int (Int32.ofNat q), .int (Int32.ofNat len)] ∧ Ch b A s ∧ Arr .byte d B s ∧ b ≠ d ∧ o + len ≤ A.slots.size ∧ q + len ≤ B.slots.size ∧ ∀ i, i < len → ¬ 255 < cv A (o + i)
def E (b : Addr) (A : Cell) (d : Addr) (B : Cell) (o q len : Nat) (r : Option Value) (s u : State) : Prop := r = some (.int (Int32.ofNat len)) ∧ ∃ B', Put d B' s u ∧ Laid B B' q (q + len) (fun j => Value.int (lo8 (cv A (o + (j - q)))))
/-- no char of the range above 255: len; the places written hold each char's low byte -/
theorem law (l : Launch) (b : Addr) (A : Cell) (d : Addr) (B : Cell) (o q len : Nat) : Law l yN 5 5 0 0 yB 7 (some .int) site (P b A d B o q len) (E b A d B o q len) (copyLocs d q len) 0 0 := by
  refine Law.of_walk (plainFor_of_name (by decide +kernel)) (by decide +kernel) (by decide +kernel) (by decide) (fun _ _ h => by rw [h.1]; rfl) (fun _ U U' hal hh h => ⟨h.1, h.2.1.mv hal hh, h.2.2.1.mv hal hh, h.2.2.2⟩) (fun r U U' V V' h1 hal h2 h => ⟨h.1, h.2.elim fun B' q => ⟨B', q.1.mv h1 h2, q.2⟩⟩) ?_
  intro p e s m args below meth c s₁ X0 hexec hbytes hml hret hlk hnm hown hh0 W hP
  obtain ⟨rfl, hA, hB, hne, l1, l2, hp⟩ := hP
  have c1 : Steps p.tables e below (s₁.setTop (entryFrame m #[.ref b, .int (Int32.ofNat o), .ref d, .int (Int32.ofNat q), .int (Int32.ofNat len)] 7)) (s₁.setTop (mkF m 0 #[.val (.ref b), .val (.int (Int32.ofNat o)), .val (.ref d), .val (.int (Int32.ofNat q)), .val (.int (Int32.ofNat len)), .unset, .unset] [])) := entry rfl
  have hA0 := hA.1.mv X0.warmed.alike hh0
  have hB0 := hB.mv X0.warmed.alike hh0
  have a31 := hA.1.2.2.2
  have c2 : Steps p.tables e below (s₁.setTop (entryFrame m #[.ref b, .int (Int32.ofNat o), .ref d, .int (Int32.ofNat q), .int (Int32.ofNat len)] 7)) (s₁.setTop (mkF m 3 #[.val (.ref b), .val (.int (Int32.ofNat o)), .val (.ref d), .val (.int (Int32.ofNat q)), .val (.int (Int32.ofNat len)), .val (.int 0), .unset] [])) := c1.trans (by
    refine iconstV X0.here hexec rfl 0 (hb hbytes d0) (by decide) ?_
    refine XS.istore X0.here hexec rfl (hb hbytes d1) rfl rfl ?_
    exact Steps.refl _)
  have loop : ∀ (r i : Nat), i + r = len → ∀ (z : Slot), (z = .unset ∨ ∃ w, z = .val w ∧ w.category = 1) → ∀ (Tl : State) (Bk : Cell), Stand p l e { frames := 0, locals := 0, cells := 0, slots := 0 } s m #[.ref b, .int (Int32.ofNat o), .ref d, .int (Int32.ofNat q), .int (Int32.ofNat len)] below meth c Tl ([] ++ copyLocs d q i) 0 0 → Put d Bk s₁ Tl → Laid B Bk q (q + i) (fun j => Value.int (lo8 (cv A (o + (j - q))))) →
      Steps p.tables e below (s₁.setTop (entryFrame m #[.ref b, .int (Int32.ofNat o), .ref d, .int (Int32.ofNat q), .int (Int32.ofNat len)] 7)) (Tl.setTop (mkF m 3 #[.val (.ref b), .val (.int (Int32.ofNat (o + i))), .val (.ref d), .val (.int (Int32.ofNat (q + i))), .val (.int (Int32.ofNat len)), .val (.int (Int32.ofNat i)), z] [])) → ∃ (T' : State) (B' : Cell) (z' : Slot), Stand p l e { frames := 0, locals := 0, cells := 0, slots := 0 } s m #[.ref b, .int (Int32.ofNat o), .ref d, .int (Int32.ofNat q), .int (Int32.ofNat len)] below meth c T' ([] ++ copyLocs d q len) 0 0 ∧ Put d B' s₁ T' ∧ Laid B B' q (q + len) (fun j => Value.int (lo8 (cv A (o + (j - q))))) ∧
      Steps p.tables e below (s₁.setTop (entryFrame m #[.ref b, .int (Int32.ofNat o), .ref d, .int (Int32.ofNat q), .int (Int32.ofNat len)] 7)) (T'.setTop (mkF m 3 #[.val (.ref b), .val (.int (Int32.ofNat (o + len))), .val (.ref d), .val (.int (Int32.ofNat (q + len))), .val (.int (Int32.ofNat len)), .val (.int (Int32.ofNat len)), z'] [])) := by
    intro r
    induction r with
    | zero =>
      intro i hi z hz Tl Bk Xl pl fl cl
      have hil : i = len := by omega
      rw [hil] at Xl fl cl
      exact ⟨Tl, Bk, z, Xl, pl, fl, cl⟩
    | succ r ih =>
      intro i hi z hz Tl Bk Xl pl fl cl
      have all := X0.warmed.alike.symm.trans Xl.warmed.alike
      have hAl := hA0.keep all (pl.other hne hA0.1)
      have hBk := hB0.like all pl.1 fl.1 fl.2.1 fl.2.2.1
      have hlt : q + i < Bk.slots.size := by rw [fl.2.2.1]; omega
      have c3 : Steps p.tables e below (s₁.setTop (entryFrame m #[.ref b, .int (Int32.ofNat o), .ref d, .int (Int32.ofNat q), .int (Int32.ofNat len)] 7)) (Tl.setTop (mkF m 12 #[.val (.ref b), .val (.int (Int32.ofNat (o + i))), .val (.ref d), .val (.int (Int32.ofNat (q + i))), .val (.int (Int32.ofNat len)), .val (.int (Int32.ofNat i)), z] [.int (Int32.ofNat (o + i)), .ref b])) := cl.trans (by
        refine XS.iload Xl.here hexec rfl (hb hbytes d3) rfl ?_
        refine XS.iload Xl.here hexec rfl (hb hbytes d5) rfl ?_
        refine XS.icmpNo Xl.here hexec rfl (hb hbytes d7) rfl (ii_ge_f (lt32 (by omega) (by omega))) ?_
        refine XS.aloadN Xl.here hexec rfl (hb hbytes d10) rfl rfl ?_
        refine XS.iloadN Xl.here hexec rfl (hb hbytes d11) rfl ?_
        exact Steps.refl _)
      have c4 : Steps p.tables e below (s₁.setTop (entryFrame m #[.ref b, .int (Int32.ofNat o), .ref d, .int (Int32.ofNat q), .int (Int32.ofNat len)] 7)) (Tl.setTop (mkF m 13 #[.val (.ref b), .val (.int (Int32.ofNat (o + i))), .val (.ref d), .val (.int (Int32.ofNat (q + i))), .val (.int (Int32.ofNat len)), .val (.int (Int32.ofNat i)), z] [.int (cv A (o + i))])) := c3.trans (by
        refine Xl.aget hexec hAl rfl (hA.get (i := o + i) (by omega)) rfl rfl (hb hbytes d12) ?_
        exact Steps.refl _)
      have c5 : Steps p.tables e below (s₁.setTop (entryFrame m #[.ref b, .int (Int32.ofNat o), .ref d, .int (Int32.ofNat q), .int (Int32.ofNat len)] 7)) (Tl.setTop (mkF m 15 #[.val (.ref b), .val (.int (Int32.ofNat (o + i))), .val (.ref d), .val (.int (Int32.ofNat (q + i))), .val (.int (Int32.ofNat len)), .val (.int (Int32.ofNat i)), .val (.int (cv A (o + i)))] [])) := c4.trans (by
        refine XS.istoreS Xl.here hexec rfl (hb hbytes d13) rfl rfl hz ?_
        exact Steps.refl _)
      have c6 : Steps p.tables e below (s₁.setTop (entryFrame m #[.ref b, .int (Int32.ofNat o), .ref d, .int (Int32.ofNat q), .int (Int32.ofNat len)] 7)) (Tl.setTop (mkF m 31 #[.val (.ref b), .val (.int (Int32.ofNat (o + i))), .val (.ref d), .val (.int (Int32.ofNat (q + i))), .val (.int (Int32.ofNat len)), .val (.int (Int32.ofNat i)), .val (.int (cv A (o + i)))] [.int (lo8 (cv A (o + i))), .int (Int32.ofNat (q + i)), .ref d])) := c5.trans (by
        refine XS.iload Xl.here hexec rfl (hb hbytes d15) rfl ?_
        refine sipushV Xl.here hexec rfl 255 (hb hbytes d17) (by decide) ?_
        refine XS.icmpYes Xl.here hexec rfl (pc0 := 20) rfl (hb hbytes d20) rfl (ii_le_t (hp i (by omega))) (by decide) rfl ?_
        refine XS.aloadN Xl.here hexec rfl (hb hbytes d26) rfl rfl ?_
        refine XS.iloadN Xl.here hexec rfl (hb hbytes d27) rfl ?_
        refine XS.iload Xl.here hexec rfl (hb hbytes d28) rfl ?_
        refine i2b Xl.here hexec rfl (hb hbytes d30) rfl ?_
        exact Steps.refl _)
      obtain ⟨T7, X7, p7, st7⟩ := Xl.aput hexec hBk rfl hlt rfl (fits_lo8 (cv A (o + i))) (g := (mkF m 31 #[.val (.ref b), .val (.int (Int32.ofNat (o + i))), .val (.ref d), .val (.int (Int32.ofNat (q + i))), .val (.int (Int32.ofNat len)), .val (.int (Int32.ofNat i)), .val (.int (cv A (o + i)))] [.int (lo8 (cv A (o + i))), .int (Int32.ofNat (q + i)), .ref d])) rfl (rest := []) rfl (hb hbytes d31)
      have c8 : Steps p.tables e below (s₁.setTop (entryFrame m #[.ref b, .int (Int32.ofNat o), .ref d, .int (Int32.ofNat q), .int (Int32.ofNat len)] 7)) (T7.setTop (mkF m 32 #[.val (.ref b), .val (.int (Int32.ofNat (o + i))), .val (.ref d), .val (.int (Int32.ofNat (q + i))), .val (.int (Int32.ofNat len)), .val (.int (Int32.ofNat i)), .val (.int (cv A (o + i)))] [])) := c6.trans (st7 _ (Steps.refl _))
      have c9 : Steps p.tables e below (s₁.setTop (entryFrame m #[.ref b, .int (Int32.ofNat o), .ref d, .int (Int32.ofNat q), .int (Int32.ofNat len)] 7)) (T7.setTop (mkF m 3 #[.val (.ref b), .val (.int (Int32.ofNat (o + i) + 1)), .val (.ref d), .val (.int (Int32.ofNat (q + i) + 1)), .val (.int (Int32.ofNat len)), .val (.int (Int32.ofNat i + 1)), .val (.int (cv A (o + i)))] [])) := c8.trans (by
        refine iincV X7.here hexec rfl 1 (hb hbytes d32) (by decide) rfl rfl ?_
        refine iincV X7.here hexec rfl 1 (hb hbytes d35) (by decide) rfl rfl ?_
        refine iincV X7.here hexec rfl 1 (hb hbytes d38) (by decide) rfl rfl ?_
        refine XS.goto X7.here hexec rfl (pc0 := 41) rfl (hb hbytes d41) (by decide) rfl ?_
        exact Steps.refl _)
      have c10 : Steps p.tables e below (s₁.setTop (entryFrame m #[.ref b, .int (Int32.ofNat o), .ref d, .int (Int32.ofNat q), .int (Int32.ofNat len)] 7)) (T7.setTop (mkF m 3 #[.val (.ref b), .val (.int (Int32.ofNat (o + (i + 1)))), .val (.ref d), .val (.int (Int32.ofNat (q + (i + 1)))), .val (.int (Int32.ofNat len)), .val (.int (Int32.ofNat (i + 1))), .val (.int (cv A (o + i)))] [])) := by
        have := c9
        rw [succ32, succ32, succ32] at this
        exact this
      exact ih (i + 1) (by omega) _ (Or.inr ⟨_, rfl, rfl⟩) T7 _ (by rw [copyLocs_step, ← List.append_assoc]; exact X7) (pl.trans p7) (fl.step (by omega) hlt (by simp)) c10
  obtain ⟨T9, B9, z9, X9, p9, f9, g9⟩ := loop len 0 (by omega) .unset (Or.inl rfl) s₁ B (by simpa [copyLocs] using X0) ⟨hB0.1, fun _ _ => rfl, rfl⟩ (Laid.zero _ _ _) c2
  have c11 : Steps p.tables e below (s₁.setTop (entryFrame m #[.ref b, .int (Int32.ofNat o), .ref d, .int (Int32.ofNat q), .int (Int32.ofNat len)] 7)) (T9.setTop (mkF m 46 #[.val (.ref b), .val (.int (Int32.ofNat (o + len))), .val (.ref d), .val (.int (Int32.ofNat (q + len))), .val (.int (Int32.ofNat len)), .val (.int (Int32.ofNat len)), z9] [.int (Int32.ofNat len)])) := g9.trans (by
    refine XS.iload X9.here hexec rfl (hb hbytes d3) rfl ?_
    refine XS.iload X9.here hexec rfl (hb hbytes d5) rfl ?_
    refine XS.icmpYes X9.here hexec rfl (pc0 := 7) rfl (hb hbytes d7) rfl (ii_ge_t (nlt32 (by omega) (Nat.le_refl _))) (by decide) rfl ?_
    refine XS.iload X9.here hexec rfl (hb hbytes d44) rfl ?_
    exact Steps.refl _)
  exact ⟨T9, some (.int (Int32.ofNat len)), _, _, _, X9, by simp, rfl, rfl, (fun h => by cases h), ⟨rfl, B9, p9.from hh0, f9⟩, fun fs hl => c11.trans (X9.ireturnOut hexec hret rfl (Or.inl rfl) (hb hbytes d46) hl)⟩
end Cmp5
namespace Cmp3
def yN : MethodName := ⟨"java/lang/StringUTF16", "compress", "([CII)[B"⟩
abbrev yB : ByteArray := jdk_52_method_16_code
theorem d0 : decode yB 0 = .ok (.iload_n 2, 1) := by decide +kernel
theorem d1 : decode yB 1 = .ok (.newarray .byte, 2) := by decide +kernel
theorem d3 : decode yB 3 = .ok (.astore_n 3, 1) := by decide +kernel
theorem d4 : decode yB 4 = .ok (.aload_n 0, 1) := by decide +kernel
theorem d5 : decode yB 5 = .ok (.iload_n 1, 1) := by decide +kernel
theorem d6 : decode yB 6 = .ok (.aload_n 3, 1) := by decide +kernel
theorem d7 : decode yB 7 = .ok (.iconst 0, 1) := by decide +kernel
theorem d8 : decode yB 8 = .ok (.iload_n 2, 1) := by decide +kernel
theorem d9 : decode yB 9 = .ok (.invokestatic 115, 3) := by decide +kernel
theorem d12 : decode yB 12 = .ok (.istore 4, 2) := by decide +kernel
theorem d14 : decode yB 14 = .ok (.iload 4, 2) := by decide +kernel
theorem d16 : decode yB 16 = .ok (.iload_n 2, 1) := by decide +kernel
theorem d17 : decode yB 17 = .ok (.if_icmp (.eq) 40, 3) := by decide +kernel
theorem d57 : decode yB 57 = .ok (.aload_n 3, 1) := by decide +kernel
theorem d58 : decode yB 58 = .ok (.areturn, 1) := by decide +kernel
def site : List Cond := [.arrayClass .byte, Cmp5.tab] ++ staticW U16 115 Cmp5.yN
def tab : Cond := tabOf yN yB 6 (some (.array .byte)) site
def P (b : Addr) (A : Cell) (o len : Nat) (args : Array Value) (s : State) : Prop := args = #[.ref b, .int (Int32.ofNat o), .int (Int32.ofNat len)] ∧ Ch b A s ∧ o + len ≤ A.slots.size ∧ len ≤ 536870912 ∧ ∀ i, i < len → ¬ 255 < cv A (o + i)
def E (b : Addr) (A : Cell) (o len : Nat) (r : Option Value) (s u : State) : Prop := NewArr .byte "[B" len (fun j => .int (lo8 (cv A (o + j)))) r s u ∧ u.heap.size = s.heap.size + 1
/-- no char of the range above 255: a new byte[] of their low bytes -/
theorem law (l : Launch) (b : Addr) (A : Cell) (o len : Nat) : Law l yN 3 3 1 18 yB 6 (some (.array .byte)) site (P b A o len) (E b A o len) [] 1 len := by
  refine Law.of_walk (plainFor_of_name (by decide +kernel)) (by decide +kernel) (by decide +kernel) (by decide) (fun _ _ h => by rw [h.1]; rfl) (fun _ U U' hal hh h => ⟨h.1, h.2.1.mv hal hh, h.2.2⟩) (fun r U U' V V' h1 hal h2 h => ⟨NewArr.mv r U U' V V' h1 hal h2 h.1, by rw [h1, h2]; exact h.2⟩) ?_
  intro p e s m args below meth c s₁ X0 hexec hbytes hml hret hlk hnm hown hh0 W hP
  obtain ⟨rfl, hA, l1, l2, hp⟩ := hP
  have a31 := hA.1.2.2.2
  have c1 : Steps p.tables e below (s₁.setTop (entryFrame m #[.ref b, .int (Int32.ofNat o), .int (Int32.ofNat len)] 6)) (s₁.setTop (mkF m 0 #[.val (.ref b), .val (.int (Int32.ofNat o)), .val (.int (Int32.ofNat len)), .unset, .unset, .unset] [])) := entry rfl
  have c2 : Steps p.tables e below (s₁.setTop (entryFrame m #[.ref b, .int (Int32.ofNat o), .int (Int32.ofNat len)] 6)) (s₁.setTop (mkF m 1 #[.val (.ref b), .val (.int (Int32.ofNat o)), .val (.int (Int32.ofNat len)), .unset, .unset, .unset] [.int (Int32.ofNat len)])) := c1.trans (by
    refine XS.iloadN X0.here hexec rfl (hb hbytes d0) rfl ?_
    exact Steps.refl _)
  obtain ⟨T3, B3, X3, ba3, bs3, bv3, bh3, bf3, st3⟩ := X0.anew hexec (atype := .byte) (wk W (.arrayClass .byte)) rfl (by show len * 1 ≤ _; omega) (by omega) (g := (mkF m 1 #[.val (.ref b), .val (.int (Int32.ofNat o)), .val (.int (Int32.ofNat len)), .unset, .unset, .unset] [.int (Int32.ofNat len)])) rfl (hb hbytes d1) (rest := []) rfl (Nat.le_refl _) (by show 0 + len ≤ len; omega)
  rw [hh0] at ba3 st3
  have kp3 : XT.Kept s T3 := (XT.Kept.of_eq hh0).push bh3
  have hA3 := hA.keep X3.warmed.alike (kp3 _ _ hA.1.1)
  have hne : b ≠ s.heap.size := hA.1.ne
  have c4 : Steps p.tables e below (s₁.setTop (entryFrame m #[.ref b, .int (Int32.ofNat o), .int (Int32.ofNat len)] 6)) (T3.setTop (mkF m 3 #[.val (.ref b), .val (.int (Int32.ofNat o)), .val (.int (Int32.ofNat len)), .unset, .unset, .unset] [.ref s.heap.size])) := c2.trans (st3 _ (Steps.refl _))
  have c5 : Steps p.tables e below (s₁.setTop (entryFrame m #[.ref b, .int (Int32.ofNat o), .int (Int32.ofNat len)] 6)) (T3.setTop (mkF m 9 #[.val (.ref b), .val (.int (Int32.ofNat o)), .val (.int (Int32.ofNat len)), .val (.ref s.heap.size), .unset, .unset] [.int (Int32.ofNat len), .int 0, .ref s.heap.size, .int (Int32.ofNat o), .ref b])) := c4.trans (by
    refine XS.astoreN X3.here hexec rfl (hb hbytes d3) rfl rfl rfl ?_
    refine XS.aloadN X3.here hexec rfl (hb hbytes d4) rfl rfl ?_
    refine XS.iloadN X3.here hexec rfl (hb hbytes d5) rfl ?_
    refine XS.aloadN X3.here hexec rfl (hb hbytes d6) rfl rfl ?_
    refine iconstV X3.here hexec rfl 0 (hb hbytes d7) (by decide) ?_
    refine XS.iloadN X3.here hexec rfl (hb hbytes d8) rfl ?_
    exact Steps.refl _)
  obtain ⟨v6, T6, X6, E6, g6⟩ := X3.callS hexec (Cmp5.law l b A s.heap.size B3 o 0 len) hown (wks W (staticW U16 115 Cmp5.yN)) (wk W Cmp5.tab) (W := 0) (Nat.le_of_ble_eq_true rfl) (Nat.le_of_ble_eq_true rfl) (Nat.le_refl _) (by show 0 + len + 0 ≤ len; omega) (g := (mkF m 9 #[.val (.ref b), .val (.int (Int32.ofNat o)), .val (.int (Int32.ofNat len)), .val (.ref s.heap.size), .unset, .unset] [.int (Int32.ofNat len), .int (Int32.ofNat 0), .ref s.heap.size, .int (Int32.ofNat o), .ref b])) rfl (by rw [hml]; rfl) c5 (argsL := [.ref b, .int (Int32.ofNat o), .ref s.heap.size, .int (Int32.ofNat 0), .int (Int32.ofNat len)]) (rest := []) rfl rfl (by show 2 * 0 + 0 ≤ _; decide) (hb hbytes d9) (⟨rfl, hA3, ba3, hne, l1, by rw [bs3]; simp, hp⟩)
  obtain ⟨rfl, B6, p6, f6⟩ := E6
  have c7 : Steps p.tables e below (s₁.setTop (entryFrame m #[.ref b, .int (Int32.ofNat o), .int (Int32.ofNat len)] 6)) (T6.setTop (mkF m 12 #[.val (.ref b), .val (.int (Int32.ofNat o)), .val (.int (Int32.ofNat len)), .val (.ref s.heap.size), .unset, .unset] [.int (Int32.ofNat len)])) := g6
  have c8 : Steps p.tables e below (s₁.setTop (entryFrame m #[.ref b, .int (Int32.ofNat o), .int (Int32.ofNat len)] 6)) (T6.setTop (mkF m 58 #[.val (.ref b), .val (.int (Int32.ofNat o)), .val (.int (Int32.ofNat len)), .val (.ref s.heap.size), .val (.int (Int32.ofNat len)), .unset] [.ref s.heap.size])) := c7.trans (by
    refine XS.istore X6.here hexec rfl (hb hbytes d12) rfl rfl ?_
    refine XS.iload X6.here hexec rfl (hb hbytes d14) rfl ?_
    refine XS.iloadN X6.here hexec rfl (hb hbytes d16) rfl ?_
    refine XS.icmpYes X6.here hexec rfl (pc0 := 17) rfl (hb hbytes d17) rfl (ii_eq_t rfl) (by decide) rfl ?_
    refine XS.aloadN X6.here hexec rfl (hb hbytes d57) rfl rfl ?_
    exact Steps.refl _)
  have X8 := X6.wide (L' := []) (cells' := 1) (slots' := len) (fun x hx hlt => by
    simp only [List.nil_append, copyLocs, List.mem_map, List.mem_range] at hx
    obtain ⟨i, -, rfl⟩ := hx
    exact absurd hlt (Nat.lt_irrefl _)) (Nat.le_refl _) (by omega)
  exact ⟨T6, some (.ref s.heap.size), _, _, _, X8, rfl, rfl, rfl, (fun h => by cases h), ⟨⟨rfl, B6, ba3.like (X3.warmed.alike.symm.trans X6.warmed.alike) p6.1 f6.1 f6.2.1 f6.2.2.1, f6.2.1.trans bv3, by rw [X6.warmed.alike.findClass, f6.1]; exact bf3, by rw [f6.2.2.1, bs3]; simp, fun j hj => by rw [f6.2.2.2 j, if_pos (by omega)]; rfl, kp3.put p6 (Nat.le_refl _)⟩, by rw [p6.2.2, bh3, hh0]; simp⟩, fun fs hl => c8.trans (X8.areturnOut hexec rfl hret rfl (hb hbytes d58) hl)⟩
end Cmp3
namespace CodL
def yN : MethodName := ⟨"java/lang/StringUTF16", "coderFromArrayLen", "([BI)B"⟩
abbrev yB : ByteArray := jdk_52_method_15_code
theorem d0 : decode yB 0 = .ok (.iload_n 1, 1) := by decide +kernel
theorem d1 : decode yB 1 = .ok (.aload_n 0, 1) := by decide +kernel
theorem d2 : decode yB 2 = .ok (.arraylength, 1) := by decide +kernel
theorem d3 : decode yB 3 = .ok (.isub, 1) := by decide +kernel
theorem d4 : decode yB 4 = .ok (.bipush 31, 2) := by decide +kernel
theorem d6 : decode yB 6 = .ok (.iushr, 1) := by decide +kernel
theorem d7 : decode yB 7 = .ok (.i2b, 1) := by decide +kernel
theorem d8 : decode yB 8 = .ok (.ireturn, 1) := by decide +kernel
def site : List Cond := []
def tab : Cond := tabOf yN yB 2 (some .byte) site
def P (d : Addr) (B : Cell) (args : Array Value) (s : State) : Prop := args = #[.ref d, .int (Int32.ofNat B.slots.size)] ∧ Arr .byte d B s
def E (r : Option Value) (s u : State) : Prop := XT.PureE (some (.int 0)) r s u
/-- an array as long as the number of chars: LATIN1 -/
theorem law (l : Launch) (d : Addr) (B : Cell) : Law l yN 2 2 0 0 yB 2 (some .byte) site (P d B) E [] 0 0 := by
  refine Law.of_walk (plainFor_of_name (by decide +kernel)) (by decide +kernel) (by decide +kernel) (by decide) (fun _ _ h => by rw [h.1]; rfl) (fun _ U U' hal hh h => ⟨h.1, h.2.mv hal hh⟩) (fun r U U' V V' h1 hal h2 h => XT.PureE.mv r U U' V V' h1 hal h2 h) ?_
  intro p e s m args below meth c s₁ X0 hexec hbytes hml hret hlk hnm hown hh0 W hP
  obtain ⟨rfl, hB⟩ := hP
  have hB0 := hB.mv X0.warmed.alike hh0
  have c1 : Steps p.tables e below (s₁.setTop (entryFrame m #[.ref d, .int (Int32.ofNat B.slots.size)] 2)) (s₁.setTop (mkF m 0 #[.val (.ref d), .val (.int (Int32.ofNat B.slots.size))] [])) := entry rfl
  have c2 : Steps p.tables e below (s₁.setTop (entryFrame m #[.ref d, .int (Int32.ofNat B.slots.size)] 2)) (s₁.setTop (mkF m 2 #[.val (.ref d), .val (.int (Int32.ofNat B.slots.size))] [.ref d, .int (Int32.ofNat B.slots.size)])) := c1.trans (by
    refine XS.iloadN X0.here hexec rfl (hb hbytes d0) rfl ?_
    refine XS.aloadN X0.here hexec rfl (hb hbytes d1) rfl rfl ?_
    exact Steps.refl _)
  have c3 : Steps p.tables e below (s₁.setTop (entryFrame m #[.ref d, .int (Int32.ofNat B.slots.size)] 2)) (s₁.setTop (mkF m 8 #[.val (.ref d), .val (.int (Int32.ofNat B.slots.size))] [.int (lo8 (ushr (Int32.ofNat B.slots.size - Int32.ofNat B.slots.size) 31))])) := c2.trans (by
    refine X0.alen hexec hB0 rfl rfl (hb hbytes d2) ?_
    refine XS.isub X0.here hexec rfl (hb hbytes d3) rfl ?_
    refine bipushV X0.here hexec rfl 31 (hb hbytes d4) (by decide) ?_
    refine iushr X0.here hexec rfl (hb hbytes d6) rfl ?_
    refine i2b X0.here hexec rfl (hb hbytes d7) rfl ?_
    exact Steps.refl _)
  have e0 : lo8 (ushr (Int32.ofNat B.slots.size - Int32.ofNat B.slots.size) 31) = 0 := by rw [Int32.sub_self]; decide
  rw [e0] at c3
  exact ⟨s₁, some (.int 0), _, _, _, X0, rfl, rfl, rfl, (fun h => by cases h), ⟨rfl, hh0⟩, fun fs hl => c3.trans (X0.ireturnOut hexec hret rfl (Or.inr (Or.inr (Or.inl rfl))) (hb hbytes d8) hl)⟩
end CodL
/-- the String at a is Latin-1 over a new byte[] (the heap's one new cell): the low bytes of the len chars of A from o on; every cell but a is kept -/
def Got (a : Addr) (D : Cell) (fV fC : Field) (A : Cell) (o len : Nat) (r : Option Value) (s u : State) : Prop := r = none ∧ ∃ D' V : Cell, Blank "java/lang/String" a D' u ∧ Same D D' [fV.slot, fC.slot] ∧ D'.slots[fV.slot]? = some (.ref s.heap.size) ∧ D'.slots[fC.slot]? = some (.int 0) ∧ Arr .byte s.heap.size V u ∧ V.vm = .none ∧ u.vm.findClass "[B" = some V.cls ∧ V.slots.size = len ∧ (∀ j, j < len → V.slots[j]? = some (.int (lo8 (cv A (o + j))))) ∧ (∀ (y : Addr) (c : Cell), y ≠ a → s.heap[y]? = some c → u.heap[y]? = some c) ∧ u.heap.size = s.heap.size + 1
theorem Got.mv {a : Addr} {D A : Cell} {fV fC : Field} {o len : Nat} : ∀ r (U U' V V' : State), U'.heap = U.heap → V.vm.Alike V'.vm → V'.heap = V.heap → Got a D fV fC A o len r U V → Got a D fV fC A o len r U' V' :=
  fun r U U' V V' h1 hal h2 ⟨e0, D', X, a1, a2, a3, a4, a5, a6, a7, a8, a9, a10, a11⟩ => ⟨e0, D', X, a1.mv hal h2, a2, by rw [h1]; exact a3, a4, by rw [h1]; exact a5.mv hal h2, a6, by rw [hal.findClass]; exact a7, a8, a9, by rw [h1, h2]; exact a10, by rw [h1, h2]; exact a11⟩
namespace New4
def yN : MethodName := ⟨"java/lang/String", "<init>", "([CIILjava/lang/Void;)V"⟩
abbrev yB : ByteArray := jdk_42_method_149_code
theorem d0 : decode yB 0 = .ok (.aload_n 0, 1) := by decide +kernel
theorem d1 : decode yB 1 = .ok (.invokespecial 1, 3) := by decide +kernel
theorem d4 : decode yB 4 = .ok (.iload_n 3, 1) := by decide +kernel
theorem d5 : decode yB 5 = .ok (.ifCond (.ne) 22, 3) := by decide +kernel
theorem d27 : decode yB 27 = .ok (.getstatic 38, 3) := by decide +kernel
theorem d30 : decode yB 30 = .ok (.ifCond (.eq) 28, 3) := by decide +kernel
theorem d33 : decode yB 33 = .ok (.aload_n 1, 1) := by decide +kernel
theorem d34 : decode yB 34 = .ok (.iload_n 2, 1) := by decide +kernel
theorem d35 : decode yB 35 = .ok (.iload_n 3, 1) := by decide +kernel
theorem d36 : decode yB 36 = .ok (.invokestatic 177, 3) := by decide +kernel
theorem d39 : decode yB 39 = .ok (.astore 5, 2) := by decide +kernel
theorem d41 : decode yB 41 = .ok (.aload_n 0, 1) := by decide +kernel
theorem d42 : decode yB 42 = .ok (.aload 5, 2) := by decide +kernel
theorem d44 : decode yB 44 = .ok (.iload_n 3, 1) := by decide +kernel
theorem d45 : decode yB 45 = .ok (.invokestatic 47, 3) := by decide +kernel
theorem d48 : decode yB 48 = .ok (.putfield 15, 3) := by decide +kernel
theorem d51 : decode yB 51 = .ok (.aload_n 0, 1) := by decide +kernel
theorem d52 : decode yB 52 = .ok (.aload 5, 2) := by decide +kernel
theorem d54 : decode yB 54 = .ok (.putfield 9, 3) := by decide +kernel
theorem d57 : decode yB 57 = .ok (.return_, 1) := by decide +kernel
def site : List Cond := [.fieldLink "java/lang/String" 38 "java/lang/String" "COMPACT_STRINGS" "Z", Cmp3.tab, CodL.tab, .laysFinal "java/lang/String" "java/lang/String" "value" "[B", .fieldLink "java/lang/String" 9 "java/lang/String" "value" "[B", .laysFinal "java/lang/String" "java/lang/String" "coder" "B", .fieldLink "java/lang/String" 15 "java/lang/String" "coder" "B"] ++ objW "java/lang/String" 1 ++ staticW "java/lang/String" 177 Cmp3.yN ++ staticW "java/lang/String" 47 CodL.yN
def tab : Cond := tabOf yN yB 6 none site
def P (a : Addr) (D : Cell) (fV fC : Field) (b : Addr) (A : Cell) (z : Int32) (o len : Nat) (args : Array Value) (s : State) : Prop := args = #[.ref a, .ref b, .int (Int32.ofNat o), .int (Int32.ofNat len), .null] ∧ Blank "java/lang/String" a D s ∧ Found "java/lang/String" "value" "[B" fV s ∧ Found "java/lang/String" "coder" "B" fC s ∧ Ch b A s ∧ StaticIs s "java/lang/String" "COMPACT_STRINGS" "Z" (.int z) ∧ ¬ z = 0 ∧ 0 < len ∧ o + len ≤ A.slots.size ∧ len ≤ 536870912 ∧ ∀ i, i < len → ¬ 255 < cv A (o + i)
def E (a : Addr) (D : Cell) (fV fC : Field) (A : Cell) (o len : Nat) (r : Option Value) (s u : State) : Prop := Got a D fV fC A o len r s u
/-- len > 0, no char of the range above 255: a Latin-1 String of their low bytes -/
theorem law (l : Launch) (a : Addr) (D : Cell) (fV fC : Field) (b : Addr) (A : Cell) (z : Int32) (o len : Nat) : Law l yN 5 4 2 35 yB 6 none site (P a D fV fC b A z o len) (E a D fV fC A o len) [⟨a, fC.slot⟩, ⟨a, fV.slot⟩] 1 len := by
  refine Law.of_walk (plainFor_of_name (by decide +kernel)) (by decide +kernel) (by decide +kernel) (by decide) (fun _ _ h => by rw [h.1]; rfl) (fun _ U U' hal hh h => ⟨h.1, h.2.1.mv hal hh, h.2.2.1.al hal, h.2.2.2.1.al hal, h.2.2.2.2.1.mv hal hh, h.2.2.2.2.2.1.there hal hh, h.2.2.2.2.2.2⟩) (fun r U U' V V' h1 hal h2 h => Got.mv r U U' V V' h1 hal h2 h) ?_
  intro p e s m args below meth c s₁ X0 hexec hbytes hml hret hlk hnm hown hh0 W hP
  obtain ⟨rfl, hB, f1, f2, hA, s1, hz, l0, l1, l2, hp⟩ := hP
  have a31 := hA.1.2.2.2
  have c1 : Steps p.tables e below (s₁.setTop (entryFrame m #[.ref a, .ref b, .int (Int32.ofNat o), .int (Int32.ofNat len), .null] 6)) (s₁.setTop (mkF m 0 #[.val (.ref a), .val (.ref b), .val (.int (Int32.ofNat o)), .val (.int (Int32.ofNat len)), .val .null, .unset] [])) := entry rfl
  have c2 : Steps p.tables e below (s₁.setTop (entryFrame m #[.ref a, .ref b, .int (Int32.ofNat o), .int (Int32.ofNat len), .null] 6)) (s₁.setTop (mkF m 1 #[.val (.ref a), .val (.ref b), .val (.int (Int32.ofNat o)), .val (.int (Int32.ofNat len)), .val .null, .unset] [.ref a])) := c1.trans (by
    refine XS.aloadN X0.here hexec rfl (hb hbytes d0) rfl rfl ?_
    exact Steps.refl _)
  obtain ⟨T3, X3, q3, st3⟩ := X0.oinit hexec hown (wks W (objW "java/lang/String" 1)) (g := (mkF m 1 #[.val (.ref a), .val (.ref b), .val (.int (Int32.ofNat o)), .val (.int (Int32.ofNat len)), .val .null, .unset] [.ref a])) rfl (by rw [hml]; rfl) (rest := []) rfl (hb hbytes d1) (W := 0) (by show 2 * 0 + 0 ≤ _; decide) (Nat.le_of_ble_eq_true rfl) (Nat.le_of_ble_eq_true rfl)
  have hh3 := q3.trans hh0
  have c4 : Steps p.tables e below (s₁.setTop (entryFrame m #[.ref a, .ref b, .int (Int32.ofNat o), .int (Int32.ofNat len), .null] 6)) (T3.setTop (mkF m 27 #[.val (.ref a), .val (.ref b), .val (.int (Int32.ofNat o)), .val (.int (Int32.ofNat len)), .val .null, .unset] [])) := (c2.trans (st3 _ (Steps.refl _))).trans (by
    refine XS.iloadN X3.here hexec rfl (hb hbytes d4) rfl ?_
    refine XS.ifYes X3.here hexec rfl (pc0 := 5) rfl (hb hbytes d5) rfl (i0_ne_t (nz32 (by omega) l0)) (by decide) rfl ?_
    exact Steps.refl _)
  obtain ⟨T5, X5, q5, st5⟩ := X3.sget hexec hown (wk W (.fieldLink "java/lang/String" 38 "java/lang/String" "COMPACT_STRINGS" "Z")) s1 (fun _ _ h => by rw [hh3]; exact h) (g := (mkF m 27 #[.val (.ref a), .val (.ref b), .val (.int (Int32.ofNat o)), .val (.int (Int32.ofNat len)), .val .null, .unset] [])) rfl (hb hbytes d27)
  have hh5 := q5.trans hh3
  have c6 : Steps p.tables e below (s₁.setTop (entryFrame m #[.ref a, .ref b, .int (Int32.ofNat o), .int (Int32.ofNat len), .null] 6)) (T5.setTop (mkF m 30 #[.val (.ref a), .val (.ref b), .val (.int (Int32.ofNat o)), .val (.int (Int32.ofNat len)), .val .null, .unset] [.int z])) := c4.trans (st5 _ (Steps.refl _))
  have c7 : Steps p.tables e below (s₁.setTop (entryFrame m #[.ref a, .ref b, .int (Int32.ofNat o), .int (Int32.ofNat len), .null] 6)) (T5.setTop (mkF m 36 #[.val (.ref a), .val (.ref b), .val (.int (Int32.ofNat o)), .val (.int (Int32.ofNat len)), .val .null, .unset] [.int (Int32.ofNat len), .int (Int32.ofNat o), .ref b])) := c6.trans (by
    refine XS.ifNo X5.here hexec rfl (hb hbytes d30) rfl (i0_eq_f hz) ?_
    refine XS.aloadN X5.here hexec rfl (hb hbytes d33) rfl rfl ?_
    refine XS.iloadN X5.here hexec rfl (hb hbytes d34) rfl ?_
    refine XS.iloadN X5.here hexec rfl (hb hbytes d35) rfl ?_
    exact Steps.refl _)
  obtain ⟨v8, T8, X8, E8, g8⟩ := X5.callS hexec (Cmp3.law l b A o len) hown (wks W (staticW "java/lang/String" 177 Cmp3.yN)) (wk W Cmp3.tab) (W := 0) (Nat.le_of_ble_eq_true rfl) (Nat.le_of_ble_eq_true rfl) (Nat.le_refl _) (by show 0 + len ≤ len; omega) (g := (mkF m 36 #[.val (.ref a), .val (.ref b), .val (.int (Int32.ofNat o)), .val (.int (Int32.ofNat len)), .val .null, .unset] [.int (Int32.ofNat len), .int (Int32.ofNat o), .ref b])) rfl (by rw [hml]; rfl) c7 (argsL := [.ref b, .int (Int32.ofNat o), .int (Int32.ofNat len)]) (rest := []) rfl rfl (by show 2 * 0 + 0 ≤ _; decide) (hb hbytes d36) (⟨rfl, hA.mv X5.warmed.alike hh5, l1, l2, hp⟩)
  obtain ⟨e8, z8⟩ := E8
  obtain ⟨rfl, N, n1, n2, n3, n4, n5, n6⟩ := NewArr.mv _ T5 s _ _ hh5.symm (Vm.Alike.refl _) rfl e8
  rw [hh5] at z8
  have hB1 := hB.keep X8.warmed.alike (n6 _ _ hB.1)
  have hne : s.heap.size ≠ a := (Nat.ne_of_lt (Array.getElem?_eq_some_iff.mp hB.1).1).symm
  have c9 : Steps p.tables e below (s₁.setTop (entryFrame m #[.ref a, .ref b, .int (Int32.ofNat o), .int (Int32.ofNat len), .null] 6)) (T8.setTop (mkF m 39 #[.val (.ref a), .val (.ref b), .val (.int (Int32.ofNat o)), .val (.int (Int32.ofNat len)), .val .null, .unset] [.ref s.heap.size])) := g8
  have c10 : Steps p.tables e below (s₁.setTop (entryFrame m #[.ref a, .ref b, .int (Int32.ofNat o), .int (Int32.ofNat len), .null] 6)) (T8.setTop (mkF m 45 #[.val (.ref a), .val (.ref b), .val (.int (Int32.ofNat o)), .val (.int (Int32.ofNat len)), .val .null, .val (.ref s.heap.size)] [.int (Int32.ofNat N.slots.size), .ref s.heap.size, .ref a])) := by
    have hc : Steps p.tables e below (s₁.setTop (entryFrame m #[.ref a, .ref b, .int (Int32.ofNat o), .int (Int32.ofNat len), .null] 6)) (T8.setTop (mkF m 45 #[.val (.ref a), .val (.ref b), .val (.int (Int32.ofNat o)), .val (.int (Int32.ofNat len)), .val .null, .val (.ref s.heap.size)] [.int (Int32.ofNat len), .ref s.heap.size, .ref a])) := c9.trans (by
      refine XS.astore X8.here hexec rfl (hb hbytes d39) rfl rfl rfl ?_
      refine XS.aloadN X8.here hexec rfl (hb hbytes d41) rfl rfl ?_
      refine XS.aload X8.here hexec rfl (hb hbytes d42) rfl rfl ?_
      refine XS.iloadN X8.here hexec rfl (hb hbytes d44) rfl ?_
      exact Steps.refl _)
    rw [n4]; exact hc
  obtain ⟨v11, T11, X11, E11, g11⟩ := X8.callS hexec (CodL.law l s.heap.size N) hown (wks W (staticW "java/lang/String" 47 CodL.yN)) (wk W CodL.tab) (W := 1) (Nat.le_of_ble_eq_true rfl) (Nat.le_of_ble_eq_true rfl) (Nat.le_refl _) (by show 0 + len + 0 ≤ len; omega) (g := (mkF m 45 #[.val (.ref a), .val (.ref b), .val (.int (Int32.ofNat o)), .val (.int (Int32.ofNat len)), .val .null, .val (.ref s.heap.size)] [.int (Int32.ofNat N.slots.size), .ref s.heap.size, .ref a])) rfl (by rw [hml]; rfl) c10 (argsL := [.ref s.heap.size, .int (Int32.ofNat N.slots.size)]) (rest := [.ref a]) rfl rfl (by show 2 * 0 + (1 + 0) ≤ _; decide) (hb hbytes d45) (⟨rfl, n1⟩)
  obtain ⟨rfl, q11⟩ := E11
  have hB11 := hB1.mv (X8.warmed.alike.symm.trans X11.warmed.alike) q11
  have c12 : Steps p.tables e below (s₁.setTop (entryFrame m #[.ref a, .ref b, .int (Int32.ofNat o), .int (Int32.ofNat len), .null] 6)) (T11.setTop (mkF m 48 #[.val (.ref a), .val (.ref b), .val (.int (Int32.ofNat o)), .val (.int (Int32.ofNat len)), .val .null, .val (.ref s.heap.size)] [.int 0, .ref a])) := g11
  obtain ⟨T13, X13, p13, bl13, sl13, st13⟩ := X11.finit hexec hown (wk W (.fieldLink "java/lang/String" 15 "java/lang/String" "coder" "B")) (Or.inr ⟨_, (wk W (.laysFinal "java/lang/String" "java/lang/String" "coder" "B"))⟩) (Or.inl ⟨rfl, hnm⟩) f2 (Or.inl rfl) hB11 (t := .byte) (by decide +kernel) rfl (g := (mkF m 48 #[.val (.ref a), .val (.ref b), .val (.int (Int32.ofNat o)), .val (.int (Int32.ofNat len)), .val .null, .val (.ref s.heap.size)] [.int 0, .ref a])) rfl (rest := []) rfl (hb hbytes d48)
  have c14 : Steps p.tables e below (s₁.setTop (entryFrame m #[.ref a, .ref b, .int (Int32.ofNat o), .int (Int32.ofNat len), .null] 6)) (T13.setTop (mkF m 54 #[.val (.ref a), .val (.ref b), .val (.int (Int32.ofNat o)), .val (.int (Int32.ofNat len)), .val .null, .val (.ref s.heap.size)] [.ref s.heap.size, .ref a])) := (c12.trans (st13 _ (Steps.refl _))).trans (by
    refine XS.aloadN X13.here hexec rfl (hb hbytes d51) rfl rfl ?_
    refine XS.aload X13.here hexec rfl (hb hbytes d52) rfl rfl ?_
    exact Steps.refl _)
  obtain ⟨T15, X15, p15, bl15, sl15, st15⟩ := X13.finit hexec hown (wk W (.fieldLink "java/lang/String" 9 "java/lang/String" "value" "[B")) (Or.inr ⟨_, (wk W (.laysFinal "java/lang/String" "java/lang/String" "value" "[B"))⟩) (Or.inl ⟨rfl, hnm⟩) f1 (Or.inl rfl) bl13 (t := (.array .byte)) (by decide +kernel) rfl (g := (mkF m 54 #[.val (.ref a), .val (.ref b), .val (.int (Int32.ofNat o)), .val (.int (Int32.ofNat len)), .val .null, .val (.ref s.heap.size)] [.ref s.heap.size, .ref a])) rfl (rest := []) rfl (hb hbytes d54)
  have c16 : Steps p.tables e below (s₁.setTop (entryFrame m #[.ref a, .ref b, .int (Int32.ofNat o), .int (Int32.ofNat len), .null] 6)) (T15.setTop (mkF m 57 #[.val (.ref a), .val (.ref b), .val (.int (Int32.ofNat o)), .val (.int (Int32.ofNat len)), .val .null, .val (.ref s.heap.size)] [])) := c14.trans (st15 _ (Steps.refl _))
  have ap := apart (Or.inr ⟨_, (wk W (.laysFinal "java/lang/String" "java/lang/String" "value" "[B"))⟩) (Or.inr ⟨_, (wk W (.laysFinal "java/lang/String" "java/lang/String" "coder" "B"))⟩) f1 f2 (t₁ := .array .byte) (t₂ := .byte) (by decide +kernel) (by decide +kernel) (by decide)
  have al := X8.warmed.alike.symm.trans X15.warmed.alike
  have n7 : T11.heap[s.heap.size]? = some N := by rw [q11]; exact n1.1
  exact ⟨T15, none, _, _, _, X15, by simp, rfl, by omega, (fun _ => rfl), ⟨rfl, _, N, bl15, ((Same.refl D _).set _ (by simp)).set _ (by simp), sl15, (Cell.slots_setSlot_ne _ ap).trans sl13, n1.keep al (p15.other hne (p13.other hne n7)), n2, by rw [al.findClass]; exact n3, n4, n5, fun y c h1 h2 => p15.other h1 (p13.other h1 (by rw [q11]; exact n6 y c h2)), by rw [p15.2.2, p13.2.2, q11]; exact z8⟩, fun fs hl => c16.trans (X15.returnOut hexec hret (hb hbytes d57) hl)⟩
end New4
namespace New1
def yN : MethodName := ⟨"java/lang/String", "<init>", "([C)V"⟩
abbrev yB : ByteArray := jdk_42_method_3_code
theorem d0 : decode yB 0 = .ok (.aload_n 0, 1) := by decide +kernel
theorem d1 : decode yB 1 = .ok (.aload_n 1, 1) := by decide +kernel
theorem d2 : decode yB 2 = .ok (.iconst 0, 1) := by decide +kernel
theorem d3 : decode yB 3 = .ok (.aload_n 1, 1) := by decide +kernel
theorem d4 : decode yB 4 = .ok (.arraylength, 1) := by decide +kernel
theorem d5 : decode yB 5 = .ok (.aconst_null, 1) := by decide +kernel
theorem d6 : decode yB 6 = .ok (.invokespecial 27, 3) := by decide +kernel
theorem d9 : decode yB 9 = .ok (.return_, 1) := by decide +kernel
def site : List Cond := [New4.tab] ++ initW "java/lang/String" 27 New4.yN
def tab : Cond := tabOf yN yB 2 none site
def P (a : Addr) (D : Cell) (fV fC : Field) (b : Addr) (A : Cell) (z : Int32) (args : Array Value) (s : State) : Prop := args = #[.ref a, .ref b] ∧ Blank "java/lang/String" a D s ∧ Found "java/lang/String" "value" "[B" fV s ∧ Found "java/lang/String" "coder" "B" fC s ∧ Ch b A s ∧ StaticIs s "java/lang/String" "COMPACT_STRINGS" "Z" (.int z) ∧ ¬ z = 0 ∧ 0 < A.slots.size ∧ A.slots.size ≤ 536870912 ∧ ∀ i, i < A.slots.size → ¬ 255 < cv A i
def E (a : Addr) (D : Cell) (fV fC : Field) (A : Cell) (r : Option Value) (s u : State) : Prop := Got a D fV fC A 0 A.slots.size r s u
/-- new String(chars), not empty, no char above 255: a Latin-1 String of their low bytes -/
theorem law (l : Launch) (a : Addr) (D : Cell) (fV fC : Field) (b : Addr) (A : Cell) (z : Int32) : Law l yN 2 1 3 52 yB 2 none site (P a D fV fC b A z) (E a D fV fC A) [⟨a, fC.slot⟩, ⟨a, fV.slot⟩] 1 A.slots.size := by
  refine Law.of_walk (plainFor_of_name (by decide +kernel)) (by decide +kernel) (by decide +kernel) (by decide) (fun _ _ h => by rw [h.1]; rfl) (fun _ U U' hal hh h => ⟨h.1, h.2.1.mv hal hh, h.2.2.1.al hal, h.2.2.2.1.al hal, h.2.2.2.2.1.mv hal hh, h.2.2.2.2.2.1.there hal hh, h.2.2.2.2.2.2⟩) (fun r U U' V V' h1 hal h2 h => Got.mv r U U' V V' h1 hal h2 h) ?_
  intro p e s m args below meth c s₁ X0 hexec hbytes hml hret hlk hnm hown hh0 W hP
  obtain ⟨rfl, hB, f1, f2, hA, s1, hz, l0, l2, hp⟩ := hP
  have c1 : Steps p.tables e below (s₁.setTop (entryFrame m #[.ref a, .ref b] 2)) (s₁.setTop (mkF m 0 #[.val (.ref a), .val (.ref b)] [])) := entry rfl
  have c2 : Steps p.tables e below (s₁.setTop (entryFrame m #[.ref a, .ref b] 2)) (s₁.setTop (mkF m 6 #[.val (.ref a), .val (.ref b)] [.null, .int (Int32.ofNat A.slots.size), .int 0, .ref b, .ref a])) := c1.trans (by
    refine XS.aloadN X0.here hexec rfl (hb hbytes d0) rfl rfl ?_
    refine XS.aloadN X0.here hexec rfl (hb hbytes d1) rfl rfl ?_
    refine iconstV X0.here hexec rfl 0 (hb hbytes d2) (by decide) ?_
    refine XS.aloadN X0.here hexec rfl (hb hbytes d3) rfl rfl ?_
    refine X0.alen hexec (hA.1.mv X0.warmed.alike hh0) rfl rfl (hb hbytes d4) ?_
    refine XS.aconstNull X0.here hexec rfl (hb hbytes d5) ?_
    exact Steps.refl _)
  obtain ⟨v3, T3, X3, E3, g3⟩ := X0.callN hexec (New4.law l a D fV fC b A z 0 A.slots.size) rfl hown (wks W (initW "java/lang/String" 27 New4.yN)) (W New4.tab (by simp only [site, List.mem_cons, List.mem_append, true_or, or_true])) (W := 0) (Nat.le_of_ble_eq_true rfl) (Nat.le_of_ble_eq_true rfl) (Nat.le_refl _) (by show 0 + A.slots.size ≤ A.slots.size; omega) (g := (mkF m 6 #[.val (.ref a), .val (.ref b)] [.null, .int (Int32.ofNat A.slots.size), .int (Int32.ofNat 0), .ref b, .ref a])) rfl (by rw [hml]; rfl) c2 (argsL := [.ref b, .int (Int32.ofNat 0), .int (Int32.ofNat A.slots.size), .null]) (rest := []) rfl rfl (by show 2 * 0 + 0 ≤ _; decide) (hb hbytes d6) (⟨rfl, hB.mv X0.warmed.alike hh0, f1.al X0.warmed.alike, f2.al X0.warmed.alike, hA.mv X0.warmed.alike hh0, s1.there X0.warmed.alike hh0, hz, l0, by omega, l2, fun i hi => by rw [Nat.zero_add]; exact hp i hi⟩)
  have e0 := Got.mv _ s₁ s _ _ hh0.symm (Vm.Alike.refl _) rfl E3
  obtain rfl := e0.1
  have c4 : Steps p.tables e below (s₁.setTop (entryFrame m #[.ref a, .ref b] 2)) (T3.setTop (mkF m 9 #[.val (.ref a), .val (.ref b)] [])) := g3
  exact ⟨T3, none, _, _, _, X3, by simp, rfl, by omega, (fun _ => rfl), e0, fun fs hl => c4.trans (X3.returnOut hexec hret (hb hbytes d9) hl)⟩
theorem pays {l : Launch} {R : Room} {p : Program} {e : Env} {below : List Frame} {s : State} {sargs : Array Value} {len W : Nat} (a : Addr) (D : Cell) (fV fC : Field) (b : Addr) (A : Cell) (z : Int32) (htab : tab.before sargs s = true) (hfr : 4 ≤ R.frames) (hlo : W + 65 ≤ R.locals) :
    Back l R p e below s sargs yN len W (fun A₁ a₁ => A₁.cells + 1 ≤ R.cells ∧ A₁.slots + A.slots.size ≤ R.slots ∧ P a D fV fC b A z a₁ A₁.U) (fun A₁ _ v₁ B₁ => E a D fV fC A v₁ A₁.U B₁.U ∧ B₁.locs = A₁.locs ++ [⟨a, fC.slot⟩, ⟨a, fV.slot⟩] ∧ B₁.cells = A₁.cells + 1 ∧ B₁.slots = A₁.slots + A.slots.size) :=
  (law l a D fV fC b A z).pays htab hfr (by omega)
end New1
end StrChars
namespace StrChars.Road
open Jvm Sem ClassFile Op Lib Jvm.Stand Jvm.Free Jvm.Free.XT
open Jvm.Lib.Cold (StaticIs)
abbrev ST : String := "java/lang/String"
/-- every table word that New1's law asks, flat -/
abbrev words : List Jvm.Cond := [.code New1.yN New1.yB 2 none, .initialized ST, .methodLink ST 27 New4.yN, .instanceMethod New4.yN,
  .code New4.yN New4.yB 6 none, .fieldLink ST 38 ST "COMPACT_STRINGS" "Z", .laysFinal ST ST "value" "[B", .fieldLink ST 9 ST "value" "[B", .laysFinal ST ST "coder" "B", .fieldLink ST 15 ST "coder" "B",
  .methodLink ST 1 Lib.objectInit, .instanceMethod Lib.objectInit, .code Lib.objectInit ⟨#[0xb1]⟩ 1 none, .methodLink ST 177 Cmp3.yN, .static Cmp3.yN, .methodLink ST 47 CodL.yN, .static CodL.yN,
  .code Cmp3.yN Cmp3.yB 6 (some (.array .byte)), .initialized U16, .arrayClass .byte, .methodLink U16 115 Cmp5.yN, .static Cmp5.yN, .code Cmp5.yN Cmp5.yB 7 (some .int), .code CodL.yN CodL.yB 2 (some .byte)]
theorem tab_of {a : Array Value} {s : State} (h : ∀ w ∈ words, w.before a s = true) : New1.tab.before a s = true := by
  have h5 : Cmp5.tab.before a s = true := unparts (wk h (.code Cmp5.yN Cmp5.yB 7 (some .int))) (wks h (.initialized Cmp5.yN.cls :: Cmp5.site))
  have hc : CodL.tab.before a s = true := unparts (wk h (.code CodL.yN CodL.yB 2 (some .byte))) (wks h (.initialized CodL.yN.cls :: CodL.site))
  have q5 : ∀ w ∈ Cmp5.tab :: words, w.before a s = true := fun w hw => (List.mem_cons.mp hw).elim (fun e => e ▸ h5) (h w)
  have h3 : Cmp3.tab.before a s = true := unparts (wk q5 (.code Cmp3.yN Cmp3.yB 6 (some (.array .byte)))) (wks q5 (.initialized Cmp3.yN.cls :: Cmp3.site))
  have q3 : ∀ w ∈ Cmp3.tab :: CodL.tab :: words, w.before a s = true := fun w hw => (List.mem_cons.mp hw).elim (fun e => e ▸ h3) fun hw => (List.mem_cons.mp hw).elim (fun e => e ▸ hc) (h w)
  have h4 : New4.tab.before a s = true := unparts (wk q3 (.code New4.yN New4.yB 6 none)) (wks q3 (.initialized New4.yN.cls :: New4.site))
  have q4 : ∀ w ∈ New4.tab :: words, w.before a s = true := fun w hw => (List.mem_cons.mp hw).elim (fun e => e ▸ h4) (h w)
  exact unparts (wk q4 (.code New1.yN New1.yB 2 none)) (wks q4 (.initialized New1.yN.cls :: New1.site))
/-- the words ride from the start Z to the walk's own state -/
theorem moved {Z s : State} {a0 args : Array Value} (hZ : Z.Warmed39 s.vm) (hw : ∀ d ∈ words, d.before a0 Z = true) : ∀ d ∈ words, d.before args s = true := fun d hd => by
  have q := hw d hd
  have t : ∀ d ∈ words, d = .arrayClass .byte ∨ (d.onTables && d.keepsFace) = true := by decide +kernel
  rcases t d hd with rfl | t
  · exact RoadKit.mvA hZ q
  · exact RoadKit.mv hZ q t
/-- WHAT COMES BACK, over the tables of the start Z: h the heap at the call, h' behind it -/
def Q (Z : State) (x : Addr) (A : Cell) (h : Heap) (v : Option Value) (h' : Heap) (L : List Loc) : Prop := v = none ∧ (∀ y ∈ L, y.base = x) ∧ RoadKit.Keep h h' [x] ∧ h'.size = h.size + 1 ∧ RoadKit.Exa Z h' x ST ∧ RoadKit.Fld Z h' x ST "value" "[B" (.ref h.size) ∧ RoadKit.Fld Z h' x ST "coder" "B" (.int 0) ∧
  (∃ V : Cell, RoadKit.Arr Z h' h.size V .byte ∧ V.vm = .none ∧ Z.vm.findClass "[B" = some V.cls ∧ V.slots.size = A.slots.size ∧ ∀ j, j < A.slots.size → V.slots[j]? = some (.int (lo8 (cv A j)))) ∧
  ∀ (O n d : String) (w : Value), RoadKit.Fld Z h x O n d w → RoadKit.slotOf Z O n d ≠ RoadKit.slotOf Z ST "value" "[B" → RoadKit.slotOf Z O n d ≠ RoadKit.slotOf Z ST "coder" "B" → RoadKit.Fld Z h' x O n d w
/-- **new String(chars) AT A CALL, IN THE ROAD'S FORM**: for specialBack behind newO: x the fresh String, b the char[] with the cell A -/
theorem back {p : Program} {l : Launch} {e : Env} {R : Room} {s : State} {args : Array Value} {below : List Frame} {len W : Nat} {Z : State} {a0 : Array Value} {h : Heap} (hZ : Z.Warmed39 s.vm) (hw : ∀ d ∈ words, d.before a0 Z = true) {kI : Nat} (wi : (Jvm.Cond.instantiable ST kI).before a0 Z = true)
    {x b : Addr} {A : Cell} {z : Int32} {v0 c0 : Value} (E : RoadKit.Exa Z h x ST) (V : RoadKit.Fld Z h x ST "value" "[B" v0) (C : RoadKit.Fld Z h x ST "coder" "B" c0) (K : RoadKit.Arr Z h b A .char) (hty : Typed .char A) (S : RoadKit.Sta Z h ST "COMPACT_STRINGS" "Z" (.int z)) (hz : ¬ z = 0)
    (l0 : 0 < A.slots.size) (l2 : A.slots.size ≤ 536870912) (hp : ∀ i, i < A.slots.size → ¬ 255 < cv A i) (hfr : 4 ≤ R.frames) (hlo : W + 65 ≤ R.locals) :
    Back l R p e below s args New1.yN len W (fun P a => a = #[.ref x, .ref b] ∧ P.U.heap = h ∧ P.cells + 1 ≤ R.cells ∧ P.slots + A.slots.size ≤ R.slots)
      (fun P _ v B => ∃ L, Q Z x A h v B.U.heap L ∧ B.locs = P.locs ++ L ∧ B.cells = P.cells + 1 ∧ B.slots = P.slots + A.slots.size) := by
  intro m meth c P g ig mk a X hg hsize hdg hW hn hp'
  obtain ⟨rfl, rfl, r1, r2⟩ := hp'
  have al : Z.vm.Alike P.U.vm := hZ.alike.trans X.warmed.alike
  obtain ⟨D, cfV, kV, iV, fV, hD, gV, stV, knV, obV, asV, slV⟩ := id V
  obtain ⟨D', cfC, kC, iC, fC, hD', gC, stC, -, -, asC, slC⟩ := id C
  cases hD.symm.trans hD'
  obtain ⟨D2, kD, e1, e2, e3, e4, e5⟩ := id E
  cases hD.symm.trans e1
  obtain ⟨c2, k2, i1, i2, i3, -⟩ := Cond.instantiable_spec wi
  cases e2.symm.trans i1
  cases e3.symm.trans i2
  obtain ⟨kU, u1, u2⟩ := al.2.2 _ _ e3
  have hB : Blank ST x D P.U := ⟨hD, ⟨knV, fun q hq => by rw [hq] at obV; cases obV⟩, by rw [al.findClass]; exact e2, kU, u1, by rw [u2]; exact i3, by rw [u2]; exact e5 i3⟩
  have F1 : Found ST "value" "[B" fV P.U := ⟨SBG.found_only al ⟨cfV, kV, iV, gV⟩, stV⟩
  have F2 : Found ST "coder" "B" fC P.U := ⟨SBG.found_only al ⟨cfC, kC, iC, gC⟩, stC⟩
  have hA : Ch b A P.U := ⟨⟨K.1, State.isArrayOf_alike al K.2.1, K.2.2, by omega⟩, hty⟩
  have hS : StaticIs P.U ST "COMPACT_STRINGS" "Z" (.int z) := by
    obtain ⟨cfS, iS, kS, fS, st, cS, t1, t2, t3, t4, t5, t6, t7⟩ := S
    exact StaticIs.there (s := { Z with heap := P.U.heap }) ⟨cfS, iS, kS, fS, st, cS, t1, t2, t3, t4, t5, (fun q => by rw [q] at t6; cases t6), t7⟩ al rfl
  obtain ⟨v, B, X', ⟨⟨hv, E', V', q1, q2, q3, q4, q5, q6, q7, q8, q9, q10, q11⟩, hl, hc, hs⟩, st⟩ := New1.pays x D fV fC b A z (tab_of (moved hZ hw)) hfr hlo m meth c P g ig mk _ X hg hsize hdg hW hn ⟨r1, r2, rfl, hB, F1, F2, hA, hS, hz, l0, l2, hp⟩
  have al' : Z.vm.Alike B.U.vm := hZ.alike.trans X'.warmed.alike
  have hsz : E'.slots.size = D.slots.size := by
    obtain ⟨-, -, -, kB, w1, w2, w3⟩ := q1
    obtain ⟨kB', y1, y2⟩ := al'.2.2 _ _ e3
    rw [q2.2.1] at w1
    cases w1.symm.trans y1
    rw [w3, e5 i3, y2]
  refine ⟨v, B, X', ⟨_, ⟨hv, ?_, ⟨by omega, fun y cy hy hn' => q10 y cy (by simpa using hn') hy, fun y cy hy => ?_⟩, q11, ⟨E', _, q1.1, by rw [q2.2.1]; exact e2, by rw [q2.2.1]; exact e3, by rw [q2.1]; exact obV, fun _ => by rw [hsz]; exact e5 i3⟩,
    ⟨E', cfV, kV, iV, fV, q1.1, gV, stV, by rw [q2.1]; exact knV, by rw [q2.1]; exact obV, by rw [q2.2.1]; exact asV, q3⟩, ⟨E', cfC, kC, iC, fC, q1.1, gC, stC, by rw [q2.1]; exact knV, by rw [q2.1]; exact obV, by rw [q2.2.1]; exact asC, q4⟩,
    ⟨V', ⟨q5.1, State.isArrayOf_alike al'.symm q5.2.1, q5.2.2.1⟩, q6, by rw [← al'.findClass]; exact q7, q8, fun j hj => by have := q9 j hj; rwa [Nat.zero_add] at this⟩, fun O n d w F n1 n2 => ?_⟩, hl, hc, hs⟩, st⟩
  · intro y hy
    simp only [List.mem_cons, List.not_mem_nil, or_false] at hy
    rcases hy with rfl | rfl <;> rfl
  · by_cases q : y = x
    · subst q
      cases hD.symm.trans hy
      exact ⟨E', q1.1, q2.2.1, q2.1, hsz⟩
    · exact ⟨cy, q10 y cy q hy, rfl, rfl, rfl⟩
  · obtain ⟨D3, cf, k, i, f, g1, g2, g3, g4, g5, g6, g7⟩ := F
    cases hD.symm.trans g1
    simp only [RoadKit.slotOf, g2, gV, gC, Option.map_some, Option.getD_some] at n1 n2
    exact ⟨E', cf, k, i, f, q1.1, g2, g3, by rw [q2.1]; exact g4, by rw [q2.1]; exact g5, by rw [q2.2.1]; exact g6, by rw [q2.2.2 f.slot (by simp [n1, n2])]; exact g7⟩
end StrChars.Road
namespace StrChars.Road
open Jvm Sem ClassFile Op Lib Jvm.Stand Jvm.Free Jvm.Free.XT
/-- WHAT COMES BACK, the byte[] as a list of values -/
def QA (Z : State) (x : Addr) (zn : Int32) (cs : List Int32) (h : Heap) (v : Option Value) (h' : Heap) (L : List Loc) : Prop := v = none ∧ (∀ y ∈ L, y.base = x) ∧ RoadKit.Keep h h' [x] ∧ h'.size = h.size + 1 ∧ RoadKit.Exa Z h' x ST ∧ RoadKit.Fld Z h' x ST "value" "[B" (.ref h.size) ∧ RoadKit.Fld Z h' x ST "coder" "B" (.int 0) ∧
  (∃ kb, Z.vm.findClass "[B" = some kb ∧ RoadKit.Arv Z h' h.size kb .byte zn (cs.map fun c => .int (lo8 c)) (.int 0)) ∧
  ∀ (O n d : String) (w : Value), RoadKit.Fld Z h x O n d w → RoadKit.slotOf Z O n d ≠ RoadKit.slotOf Z ST "value" "[B" → RoadKit.slotOf Z O n d ≠ RoadKit.slotOf Z ST "coder" "B" → RoadKit.Fld Z h' x O n d w
/-- **new String(chars) AT A CALL, THE ARRAYS AS LISTS**: the char[] at b holds cs, not empty, no char above 255 -/
theorem backArv {p : Program} {l : Launch} {e : Env} {R : Room} {s : State} {args : Array Value} {below : List Frame} {len W : Nat} {Z : State} {a0 : Array Value} {h : Heap} (hZ : Z.Warmed39 s.vm) (hw : ∀ d ∈ words, d.before a0 Z = true) {kI : Nat} (wi : (Jvm.Cond.instantiable ST kI).before a0 Z = true)
    {x b : Addr} {k : ClassId} {zn z : Int32} {cs : List Int32} {dv v0 c0 : Value} (E : RoadKit.Exa Z h x ST) (V : RoadKit.Fld Z h x ST "value" "[B" v0) (C : RoadKit.Fld Z h x ST "coder" "B" c0) (K : RoadKit.Arv Z h b k .char zn (cs.map Value.int) dv) (S : RoadKit.Sta Z h ST "COMPACT_STRINGS" "Z" (.int z)) (hz : ¬ z = 0)
    (hlen : zn.toNatClampNeg = cs.length) (h0 : 0 < cs.length) (hbig : cs.length ≤ 536870912) (hall : ∀ c ∈ cs, ¬ 255 < c) (hfr : 4 ≤ R.frames) (hlo : W + 65 ≤ R.locals) :
    Back l R p e below s args New1.yN len W (fun P a => a = #[.ref x, .ref b] ∧ P.U.heap = h ∧ P.cells + 1 ≤ R.cells ∧ P.slots + cs.length ≤ R.slots)
      (fun P _ v B => ∃ L, QA Z x zn cs h v B.U.heap L ∧ B.locs = P.locs ++ L ∧ B.cells = P.cells + 1 ∧ B.slots = P.slots + cs.length) := by
  obtain ⟨A, K1, K2, K3, K4, K5, K6⟩ := K
  have e : A.slots.size = cs.length := K3.trans hlen
  have hat : ∀ (i : Nat) (hi : i < cs.length), A.slots[i]? = some (.int cs[i]) := fun i hi => by rw [K5 i (by omega)]; simp [List.getD_eq_getElem?_getD, hi]
  have hcv : ∀ (i : Nat) (hi : i < cs.length), cv A i = cs[i] := fun i hi => by unfold cv; rw [hat i hi]
  have hty : Typed .char A := fun i v hv => by
    have hi : i < A.slots.size := (Array.getElem?_eq_some_iff.mp hv).1
    have q := K5 i hi
    rw [hv] at q
    rw [Option.some.inj q]
    exact K6 i hi
  refine Back.mono (back hZ hw wi E V C K1 hty S hz (by omega) (by omega) (fun i hi => by rw [hcv i (by omega)]; exact hall _ (List.getElem_mem _)) hfr hlo) (fun P a hp => ⟨hp.1, hp.2.1, hp.2.2.1, by rw [e]; exact hp.2.2.2⟩) (fun P a v B hp hq => ?_)
  obtain ⟨L, ⟨q1, q2, q3, q4, q5, q6, q7, ⟨V', v1, v2, v3, v4, v5⟩, q9⟩, hl, hc, hs⟩ := hq
  refine ⟨L, ⟨q1, q2, q3, q4, q5, q6, q7, ⟨V'.cls, v3, V', v1, rfl, by rw [v4, e, hlen], K4, fun i hi => ?_, fun i hi => ?_⟩, q9⟩, hl, hc, by rw [hs, e]⟩
  · have hi' : i < cs.length := by omega
    rw [v5 i (by omega), hcv i hi']; simp [List.getD_eq_getElem?_getD, hi']
  · have hi' : i < cs.length := by omega
    simp only [List.getD_eq_getElem?_getD, List.getElem?_map, List.getElem?_eq_getElem hi', Option.map_some, Option.getD_some]
    exact fits_lo8 _
end StrChars.Road
namespace StrChars.Road
open Jvm Sem ClassFile Op Lib Jvm.Stand Jvm.Free Jvm.Free.XT
/-- WHAT COMES BACK, in the writer's own shape -/
def QV (Z : State) (x : Addr) (N : Int32) (bs : List Int32) (h : Heap) (n0 : Nat) (v : Option Value) (h' : Heap) (L : List Loc) : Prop := v = none ∧ RoadKit.Fr n0 L ∧ RoadKit.Keep h h' [x] ∧ RoadKit.Exa Z h' x ST ∧ RoadKit.Fld Z h' x ST "coder" "B" (.int 0) ∧
  ∃ (t : Addr) (kb : ClassId), n0 ≤ t ∧ h.size ≤ t ∧ ¬ t = x ∧ RoadKit.Fld Z h' x ST "value" "[B" (.ref t) ∧ RoadKit.Arv Z h' t kb .byte N (bs.map Value.int) (.int 0)
/-- **new String(chars) AT A CALL, FOR THE WRITER**: a char[] of n known ints, each 0 to 255 -/
theorem backV {p : Program} {l : Launch} {e : Env} {R : Room} {s : State} {args : Array Value} {below : List Frame} {len W : Nat} {Z : State} {a0 : Array Value} {h : Heap} (hZ : Z.Warmed39 s.vm) (hw : ∀ d ∈ words, d.before a0 Z = true) {kI : Nat} (wi : (Jvm.Cond.instantiable ST kI).before a0 Z = true)
    {x b : Addr} {kC : ClassId} {cs bs : List Int32} {d v0 c0 : Value} {z N : Int32} {n n0 : Nat} (hx0 : n0 ≤ x) (hh0 : n0 ≤ h.size) (E : RoadKit.Exa Z h x ST) (V : RoadKit.Fld Z h x ST "value" "[B" v0) (C : RoadKit.Fld Z h x ST "coder" "B" c0) (K : RoadKit.Arv Z h b kC .char N (cs.map Value.int) d) (S : RoadKit.Sta Z h ST "COMPACT_STRINGS" "Z" (.int z)) (hz : ¬ z = 0)
    (hn : cs.length = n) (hN : N = Int32.ofNat n) (l0 : 0 < n) (l2 : n ≤ 4000) (hp : ∀ c ∈ cs, ¬ c < 0 ∧ ¬ (255 : Int32) < c) (hb : bs = cs.map (fun c => c.toInt8.toInt32)) (hfr : 4 ≤ R.frames) (hlo : W + 65 ≤ R.locals) :
    Back l R p e below s args (⟨"java/lang/String", "<init>", "([C)V"⟩ : MethodName) len W (fun P a => a = #[.ref x, .ref b] ∧ P.U.heap = h ∧ P.cells + 1 ≤ R.cells ∧ P.slots + n ≤ R.slots)
      (fun P _ v B => ∃ L, QV Z x N bs h n0 v B.U.heap L ∧ B.locs = P.locs ++ L ∧ B.cells = P.cells + 1 ∧ B.slots = P.slots + n) := by
  subst hn hN hb
  refine Back.mono (backArv hZ hw wi E V C K S hz (n32 (by omega)) l0 (by omega) (fun c hc => (hp c hc).2) hfr hlo) (fun P a hp => hp) (fun P a v B hp hq => ?_)
  obtain ⟨L, ⟨q1, q2, q3, q4, q5, q6, q7, ⟨kb, v1, v2⟩, q9⟩, hl, hc, hs⟩ := hq
  exact ⟨L, ⟨q1, fun y hy => by rw [q2 y hy]; exact hx0, q3, q5, q7, h.size, kb, hh0, Nat.le_refl _, Nat.ne_of_gt E.lt, q6, by rw [List.map_map]; exact v2⟩, hl, hc, hs⟩
end StrChars.Road
end Jvm.Pilot.@@N@@
namespace Jvm.Pilot.@@N@@
open Jvm Jvm.ClassFile Sem Op Lib Jvm.Free Jvm.Stand Jvm.LawKit Jvm.RoadKit Bundle Jvm.Pilot.@@N@@.Jvm.D
section Own
variable {p : Program} {l : Launch} {e : Env} {R : Room} {s : State} {m : MethodId} {args : Array Value} {below : List Frame} {meth : Method} {c : Code} {T : State} {locs : List Loc} {cells slots : Nat}
/-- from U the run comes to an end that Q allows -/
def own_Go (p : Program) (e : Env) (below : List Frame) (s : State) (kc ks : Nat) (Q : Option Value → Heap → List Loc → Prop) (U : State) : Prop :=
  ∃ s₂ o, Steps p.tables e below U s₂ ∧ s₂.status = .running ∧ Ended s₂ below o ∧ ∃ v L, o = .returned v ∧ Q v s₂.heap L ∧ FrameEnd s o s₂ L kc ks
theorem own_step {kc ks : Nat} {Q : Option Value → Heap → List Loc → Prop} {U U' : State} (k : ∀ t, Steps p.tables e below U' t → Steps p.tables e below U t) (g : own_Go p e below s kc ks Q U') : own_Go p e below s kc ks Q U := by
  obtain ⟨s₂, o, h, r⟩ := g
  exact ⟨s₂, o, k _ h, r⟩
theorem own_ret {kc ks : Nat} {Q : Option Value → Heap → List Loc → Prop} {U : State} (X : Stand p l e R s m args below meth c T locs cells slots) {v : Option Value} (hv : meth.sig.returnType = none → v = none) (hlocks : meth.locks = false) (hk : cells ≤ kc) (hs : slots ≤ ks) (hq : Q v T.heap locs)
    (k : ∀ fs, (∀ (f : JFrame) (acts : List Action), f.method = m → f.locked = none → f.entered = [] → (doReturn e (T.setTop f) acts v).1 = T.setFrames fs) → Steps p.tables e below U (T.setFrames fs)) : own_Go p e below s kc ks Q U := by
  obtain ⟨fs, hr, hrun, hended, hW, hsame⟩ := X.leave (v := v) hv hlocks
  exact ⟨_, _, k fs hr, hrun, hended, v, locs, rfl, hq, ⟨_, rfl⟩, hW, hsame.mono hk hs⟩
def own_GoW (p : Program) (e : Env) (below : List Frame) (s : State) (kc ks : Nat) (Q : Option Value → Heap → List Loc → Prop) (U : State) : Prop :=
  ∃ s₂ o, Steps p.tables e below U s₂ ∧ s₂.status = .running ∧ Ended s₂ below o ∧ ∃ v L, o = .returned v ∧ Q v s₂.heap L ∧ ReturnedEndW s o s₂ L kc ks
theorem own_stepW {kc ks : Nat} {Q : Option Value → Heap → List Loc → Prop} {U U' : State} (k : ∀ t, Steps p.tables e below U' t → Steps p.tables e below U t) (g : own_GoW p e below s kc ks Q U') : own_GoW p e below s kc ks Q U := by
  obtain ⟨s₂, o, h, r⟩ := g
  exact ⟨s₂, o, k _ h, r⟩
theorem own_retW {kc ks : Nat} {Q : Option Value → Heap → List Loc → Prop} {U : State} {vm₁ : Vm} {n : Nat} (X : Stand p l e R (s.setVm vm₁) m args below meth c T locs cells slots) (hS : s.Since vm₁ n) (hn : n ≤ T.heap.size) {v : Option Value} (hv : meth.sig.returnType = none → v = none) (hlocks : meth.locks = false) (hk : cells ≤ kc) (hs : slots ≤ ks) (hq : Q v T.heap locs)
    (k : ∀ fs, (∀ (f : JFrame) (acts : List Action), f.method = m → f.locked = none → f.entered = [] → (doReturn e (T.setTop f) acts v).1 = T.setFrames fs) → Steps p.tables e below U (T.setFrames fs)) : own_GoW p e below s kc ks Q U := by
  obtain ⟨fs, hr, hrun, hended, h1, h2, h3, h4⟩ := X.leaveW hS hn (v := v) hv hlocks
  exact ⟨_, _, k fs hr, hrun, hended, v, locs, rfl, hq, h1, h2, h3, h4.mono hk hs⟩
theorem own_narR {t : FieldType} {v : Value} (h : v.isRef = true) : narrow t v = v := by cases v <;> first | (cases h; done) | (cases t <;> rfl)
theorem own_fitR {t : String} {v : Value} (h : v.isRef = true) : fits (.object t) v = true := by cases v <;> first | (cases h; done) | rfl
theorem own_at {h : Heap} {a : Addr} {k : Cell} (e : T.heap = h) (q : h[a]? = some k) : T.heap[a]? = some k := e ▸ q
theorem own_pl0 {h : Heap} : ∀ a ∈ ([] : List Addr), ∀ c : Cell, h[a]? = some c → c.vm.isStatics = false := fun _ q => nomatch q
theorem own_plE {Z : State} {h : Heap} {a : Addr} {C : String} {ws : List Addr} (E : Exa Z h a C) (r : ∀ x ∈ ws, ∀ c : Cell, h[x]? = some c → c.vm.isStatics = false) : ∀ x ∈ a :: ws, ∀ c : Cell, h[x]? = some c → c.vm.isStatics = false := fun x hx c hc => by
  rcases List.mem_cons.mp hx with rfl | q
  · obtain ⟨cell, k, h1, -, -, h4, -⟩ := E
    cases h1.symm.trans hc; exact h4
  · exact r x q c hc
theorem own_plF {Z : State} {h : Heap} {a : Addr} {C n d : String} {v : Value} {ws : List Addr} (E : Fld Z h a C n d v) (r : ∀ x ∈ ws, ∀ c : Cell, h[x]? = some c → c.vm.isStatics = false) : ∀ x ∈ a :: ws, ∀ c : Cell, h[x]? = some c → c.vm.isStatics = false := fun x hx c hc => by
  rcases List.mem_cons.mp hx with rfl | q
  · exact old_plain E c hc
  · exact r x q c hc
theorem own_plV {Z : State} {h : Heap} {a : Addr} {k : ClassId} {ty : FieldType} {z : Int32} {vs : List Value} {d : Value} {ws : List Addr} (E : Arv Z h a k ty z vs d) (r : ∀ x ∈ ws, ∀ c : Cell, h[x]? = some c → c.vm.isStatics = false) : ∀ x ∈ a :: ws, ∀ c : Cell, h[x]? = some c → c.vm.isStatics = false := fun x hx c hc => by
  rcases List.mem_cons.mp hx with rfl | q
  · obtain ⟨cl, A, -⟩ := E
    cases A.1.symm.trans hc; exact A.plain
  · exact r x q c hc
theorem own_sta_keep {Z : State} {h h' : Heap} {C n d : String} {w : Value} {ws : List Addr} (F : Sta Z h C n d w) (K : Keep h h' ws) (r : ∀ x ∈ ws, ∀ c : Cell, h[x]? = some c → c.vm.isStatics = false) : Sta Z h' C n d w := by
  obtain ⟨cf, i, k, f, st, cell, h1, h2, h3, h4, h5, h6, h7⟩ := F
  exact ⟨cf, i, k, f, st, cell, h1, h2, h3, h4, K.2.1 st cell h5 (fun q => by rw [r st q cell h5] at h6; cases h6), h6, h7⟩
end Own
theorem own_and3 (x : Int32) : 0 ≤ (x &&& 3).toInt ∧ (x &&& 3).toInt < 4 := by
  have := Jvm.Kit.i32_mask x 3 (k := 2) (by decide) (by decide)
  omega
theorem own_four {x n : Int32} (h : x &&& 3 = n) : n = 0 ∨ n = 1 ∨ n = 2 ∨ n = 3 := by
  have h1 := own_and3 x
  rw [h] at h1
  have e0 : (0 : Int32).toInt = 0 := rfl
  have e1 : (1 : Int32).toInt = 1 := rfl
  have e2 : (2 : Int32).toInt = 2 := rfl
  have e3 : (3 : Int32).toInt = 3 := rfl
  simp only [← Int32.toInt_inj]
  omega
theorem own_lat (x : Int32) : ¬ (x &&& 255).toUInt32.toUInt16.toUInt32.toInt32.toUInt32.toUInt16.toUInt32.toInt32 < 0 ∧ ¬ (255 : Int32) < (x &&& 255).toUInt32.toUInt16.toUInt32.toInt32.toUInt32.toUInt16.toUInt32.toInt32 := by
  rw [i2c_mask, i2c_mask, Int32.lt_iff_toInt_lt, Int32.lt_iff_toInt_lt]
  have := Jvm.Kit.i32_mask x 255 (k := 8) (by decide) (by decide)
  have e : (255 : Int32).toInt = 255 := rfl
  have e0 : (0 : Int32).toInt = 0 := rfl
  omega
def own_ce (c : Int32) : Int32 := if 255 < c then 0 else 1
theorem own_le255 (x : Int32) : ¬ 255 < (x &&& 255).toUInt32.toUInt16.toUInt32.toInt32 := by
  rw [i2c_mask, Int32.lt_iff_toInt_lt]
  have := Jvm.Kit.i32_mask x 255 (k := 8) (by decide) (by decide)
  have e : (255 : Int32).toInt = 255 := rfl
  omega
theorem own_pn0 : plainName "java/lang/StringLatin1" = true := by first | (simp [plainName, overriddenIn]; done) | decide +kernel
theorem own_d15_0 : decode jdk_43_method_3_code 0 = .ok (.iload_n 0, 1) := by decide +kernel
theorem own_d15_1 : decode jdk_43_method_3_code 1 = .ok (.sipush 255, 3) := by decide +kernel
theorem own_d15_4 : decode jdk_43_method_3_code 4 = .ok (.if_icmp .gt 7, 3) := by decide +kernel
theorem own_d15_7 : decode jdk_43_method_3_code 7 = .ok (.iconst 1, 1) := by decide +kernel
theorem own_d15_8 : decode jdk_43_method_3_code 8 = .ok (.goto 4, 3) := by decide +kernel
theorem own_d15_11 : decode jdk_43_method_3_code 11 = .ok (.iconst 0, 1) := by decide +kernel
theorem own_d15_12 : decode jdk_43_method_3_code 12 = .ok (.ireturn, 1) := by decide +kernel
def own_Q_ce (Z : State) (p1 : Int32) (h0 : Heap) (n0 : Nat) (v : Option Value) (h : Heap) (L : List Loc) : Prop := v = some (.int (own_ce p1)) ∧ Fr n0 L ∧ h = h0
set_option maxRecDepth 65536 in
set_option maxHeartbeats 40000000 in
theorem own_m_ce (l : Launch) (Z : State) (a0 : Array Value) (hw : ∀ d ∈ tables_1, d.before a0 Z = true) (ws : List Jvm.Cond) (p1 : Int32) (h0 : Heap) (n0 : Nat) (Z0 : n0 ≤ h0.size)  :
    MetFree l (⟨"java/lang/StringLatin1", "canEncode", "(C)Z"⟩ : MethodName) (head1 (Jvm.Cond.code (⟨"java/lang/StringLatin1", "canEncode", "(C)Z"⟩ : MethodName) jdk_43_method_3_code 1 (some .boolean) :: ws) ({ frames := 0, cells := 0, slots := 0, locals := 0 } : Room)) (fun a U => a = #[(.int p1)] ∧ Z.Warmed39 U.vm ∧ U.heap = h0) (fun _ _ _ _ _ => True) (fun _ U o U' => ∃ v L, o = .returned v ∧ own_Q_ce Z p1 h0 n0 v U'.heap L ∧ FrameEnd U o U' L ({ frames := 0, cells := 0, slots := 0, locals := 0 } : Room).cells ({ frames := 0, cells := 0, slots := 0, locals := 0 } : Room).slots) := by
  refine MetFree.of_bodySF (plainFor_of_name own_pn0) hisR ?_
  intro p e s m args below meth c s₁ Bd hml0 hP hK
  obtain ⟨rfl, hZ, hh⟩ := hP
  have hx := Bd.exec
  have hby := Bd.bytes
  have hml : c.maxLocals = 1 := hml0
  have hown : s.vm.findClass "java/lang/StringLatin1" = some m.cls := findClass_of_methodNamed Bd.named
  have hnm := (name_of_methodNamed Bd.named Bd.method).1
  have X0 : Stand p l e ({ frames := 0, cells := 0, slots := 0, locals := 0 } : Room) s m #[(.int p1)] below meth c s₁ [] 0 0 := Stand.of_body Bd
  have e0 : s₁.heap = h0 := by rw [← hh, Bd.state]; rfl
  have N0 := Fr.nil n0
  have K0 : Keep h0 h0 [] := Keep.refl _ _
  show own_Go p e below s ({ frames := 0, cells := 0, slots := 0, locals := 0 } : Room).cells ({ frames := 0, cells := 0, slots := 0, locals := 0 } : Room).slots (own_Q_ce Z p1 h0 n0) (s₁.setTop (entryFrame m #[(.int p1)] 1))
  have ef : entryFrame m #[(.int p1)] 1 = (mkF m 0 #[.val (.int p1)] []) := by first | rfl | (simp [entryFrame, mkF, argsToLocals, Value.category, maxLocals]; done)
  rw [ef]
  show own_Go p e below s _ _ _ (s₁.setTop (mkF m 0 #[.val (.int p1)] []))
  refine own_step (U' := (s₁.setTop (mkF m 1 #[.val (.int p1)] [(.int p1)]))) (fun t ht => XS.iloadN X0.here hx rfl (hb hby own_d15_0) rfl ht) ?_
  refine own_step (U' := (s₁.setTop (mkF m 4 #[.val (.int p1)] [(.int (255 : Int32)), (.int p1)]))) (fun t ht => XS.sipush X0.here hx rfl (hb hby own_d15_1) ht) ?_
  by_cases hc4_1 : (255 : Int32) < p1
  ·
    refine own_step (U' := (s₁.setTop (mkF m 11 #[.val (.int p1)] []))) (fun t ht => XS.icmpYes X0.here hx rfl (pc0 := 4) (pc' := 11) rfl (hb hby own_d15_4) rfl (XT.ii_gt_t hc4_1) (by decide) (by decide) ht) ?_
    refine own_step (U' := (s₁.setTop (mkF m 12 #[.val (.int p1)] [(.int (0 : Int32))]))) (fun t ht => XS.iconst X0.here hx rfl (hb hby own_d15_11) ht) ?_
    refine own_ret X0 (v := (some (.int (nar .boolean (0 : Int32))))) (fun h => by rw [Bd.returns] at h; cases h) Bd.notSynchronized (by decide) (by decide) ?_ (fun fs hr => retN X0 hx (t := .boolean) Bd.returns (by simp) (hb hby own_d15_12) hr)
    show own_Q_ce Z p1 h0 n0 _ s₁.heap _
    rw [e0]
    refine ⟨?_, N0, rfl⟩
    simp [own_ce, nar, hc4_1]
  ·
    refine own_step (U' := (s₁.setTop (mkF m 7 #[.val (.int p1)] []))) (fun t ht => XS.icmpNo X0.here hx rfl (hb hby own_d15_4) rfl (XT.ii_gt_f hc4_1) ht) ?_
    refine own_step (U' := (s₁.setTop (mkF m 8 #[.val (.int p1)] [(.int (1 : Int32))]))) (fun t ht => XS.iconst X0.here hx rfl (hb hby own_d15_7) ht) ?_
    refine own_step (U' := (s₁.setTop (mkF m 12 #[.val (.int p1)] [(.int (1 : Int32))]))) (fun t ht => XS.goto X0.here hx rfl (pc0 := 8) (pc' := 12) rfl (hb hby own_d15_8) (by decide) (by decide) ht) ?_
    refine own_ret X0 (v := (some (.int (nar .boolean (1 : Int32))))) (fun h => by rw [Bd.returns] at h; cases h) Bd.notSynchronized (by decide) (by decide) ?_ (fun fs hr => retN X0 hx (t := .boolean) Bd.returns (by simp) (hb hby own_d15_12) hr)
    show own_Q_ce Z p1 h0 n0 _ s₁.heap _
    rw [e0]
    refine ⟨?_, N0, rfl⟩
    simp [own_ce, nar, hc4_1]
theorem own_d16_0 : decode jdk_43_method_46_code 0 = .ok (.iconst 1, 1) := by decide +kernel
theorem own_d16_1 : decode jdk_43_method_46_code 1 = .ok (.newarray .byte, 2) := by decide +kernel
theorem own_d16_3 : decode jdk_43_method_46_code 3 = .ok (.dup, 1) := by decide +kernel
theorem own_d16_4 : decode jdk_43_method_46_code 4 = .ok (.iconst 0, 1) := by decide +kernel
theorem own_d16_5 : decode jdk_43_method_46_code 5 = .ok (.iload_n 0, 1) := by decide +kernel
theorem own_d16_6 : decode jdk_43_method_46_code 6 = .ok (.i2b, 1) := by decide +kernel
theorem own_d16_7 : decode jdk_43_method_46_code 7 = .ok (.bastore, 1) := by decide +kernel
theorem own_d16_8 : decode jdk_43_method_46_code 8 = .ok (.areturn, 1) := by decide +kernel
def own_Q_tob (Z : State) (p1 : Int32) (h0 : Heap) (n0 : Nat) (v : Option Value) (h : Heap) (L : List Loc) : Prop := ∃ (r : Addr), v = some (.ref r) ∧ Fr n0 L ∧ Keep h0 h [] ∧ h0.size ≤ r
set_option maxRecDepth 65536 in
set_option maxHeartbeats 40000000 in
theorem own_m_tob (l : Launch) (Z : State) (a0 : Array Value) (hw : ∀ d ∈ tables_1, d.before a0 Z = true) (ws : List Jvm.Cond) (p1 : Int32) (h0 : Heap) (n0 : Nat) (Z0 : n0 ≤ h0.size)  :
    MetFree l (⟨"java/lang/StringLatin1", "toBytes", "(C)[B"⟩ : MethodName) (head1 (Jvm.Cond.code (⟨"java/lang/StringLatin1", "toBytes", "(C)[B"⟩ : MethodName) jdk_43_method_46_code 1 (some (.array .byte)) :: ws) ({ frames := 0, cells := 1, slots := 1, locals := 0 } : Room)) (fun a U => a = #[(.int p1)] ∧ Z.Warmed39 U.vm ∧ U.heap = h0) (fun _ _ _ _ _ => True) (fun _ U o U' => ∃ v L, o = .returned v ∧ own_Q_tob Z p1 h0 n0 v U'.heap L ∧ FrameEnd U o U' L ({ frames := 0, cells := 1, slots := 1, locals := 0 } : Room).cells ({ frames := 0, cells := 1, slots := 1, locals := 0 } : Room).slots) := by
  refine MetFree.of_bodySF (plainFor_of_name own_pn0) hisR ?_
  intro p e s m args below meth c s₁ Bd hml0 hP hK
  obtain ⟨rfl, hZ, hh⟩ := hP
  have hx := Bd.exec
  have hby := Bd.bytes
  have hml : c.maxLocals = 1 := hml0
  have hown : s.vm.findClass "java/lang/StringLatin1" = some m.cls := findClass_of_methodNamed Bd.named
  have hnm := (name_of_methodNamed Bd.named Bd.method).1
  have X0 : Stand p l e ({ frames := 0, cells := 1, slots := 1, locals := 0 } : Room) s m #[(.int p1)] below meth c s₁ [] 0 0 := Stand.of_body Bd
  have e0 : s₁.heap = h0 := by rw [← hh, Bd.state]; rfl
  have N0 := Fr.nil n0
  have K0 : Keep h0 h0 [] := Keep.refl _ _
  show own_Go p e below s ({ frames := 0, cells := 1, slots := 1, locals := 0 } : Room).cells ({ frames := 0, cells := 1, slots := 1, locals := 0 } : Room).slots (own_Q_tob Z p1 h0 n0) (s₁.setTop (entryFrame m #[(.int p1)] 1))
  have ef : entryFrame m #[(.int p1)] 1 = (mkF m 0 #[.val (.int p1)] []) := by first | rfl | (simp [entryFrame, mkF, argsToLocals, Value.category, maxLocals]; done)
  rw [ef]
  show own_Go p e below s _ _ _ (s₁.setTop (mkF m 0 #[.val (.int p1)] []))
  refine own_step (U' := (s₁.setTop (mkF m 1 #[.val (.int p1)] [(.int (1 : Int32))]))) (fun t ht => XS.iconst X0.here hx rfl (hb hby own_d16_0) ht) ?_
  obtain ⟨T2, h2, k2, X2, e2, E2, A2, st2⟩ := newP X0 hx hZ (hw _ (List.mem_of_getElem? (i := 25) rfl)) e0 (g := (mkF m 1 #[.val (.int p1)] [(.int (1 : Int32))])) rfl (hb hby own_d16_1) rfl (by decide) (cap := 1) (by decide) (by decide) (by decide) (by decide)
  obtain ⟨b2, g2⟩ : ∃ z, z = (h0).size := ⟨_, rfl⟩
  rw [← g2] at A2 st2
  have g_b2 : n0 ≤ b2 := Nat.le_trans (Nat.le_trans Z0 K0.1) (Nat.le_of_eq g2.symm)
  have sz_b2 : h0.size ≤ b2 := Nat.le_trans K0.1 (Nat.le_of_eq g2.symm)
  have K2 : Keep h0 h2 [] := K0.ext E2
  have V2 : Arv Z h2 b2 k2 .byte (1 : Int32) [(.int (0 : Int32))] (.int (0 : Int32)) := (Arv.new A2 (by decide)).pad (pad_rep [] (.int (0 : Int32)) 1)
  refine own_step (U' := (T2.setTop (mkF m 3 #[.val (.int p1)] [(.ref b2)]))) (fun t ht => st2 _ ht) ?_
  refine own_step (U' := (T2.setTop (mkF m 4 #[.val (.int p1)] [(.ref b2), (.ref b2)]))) (fun t ht => XS.dup X2.here hx rfl (hb hby own_d16_3) rfl rfl ht) ?_
  refine own_step (U' := (T2.setTop (mkF m 5 #[.val (.int p1)] [(.int (0 : Int32)), (.ref b2), (.ref b2)]))) (fun t ht => XS.iconst X2.here hx rfl (hb hby own_d16_4) ht) ?_
  refine own_step (U' := (T2.setTop (mkF m 6 #[.val (.int p1)] [(.int p1), (.int (0 : Int32)), (.ref b2), (.ref b2)]))) (fun t ht => XS.iloadN X2.here hx rfl (hb hby own_d16_5) rfl ht) ?_
  refine own_step (U' := (T2.setTop (mkF m 7 #[.val (.int p1)] [(.int (p1.toInt8.toInt32)), (.int (0 : Int32)), (.ref b2), (.ref b2)]))) (fun t ht => XT.i2b X2.here hx rfl (hb hby own_d16_6) rfl ht) ?_
  obtain ⟨cl3, Ar3, q3, S3, N3_, H3, G3⟩ := (id V2)
  have hin3 : ¬ ((0 : Int32) < 0 ∨ cl3.slots.size ≤ ((0 : Int32)).toNatClampNeg) := inb_of S3 ⟨by decide, by decide⟩
  obtain ⟨T3, h3, X3, e3, W3, st3⟩ := stB X2 hx hZ e2 Ar3 (j := (0 : Int32)) hin3 (g := (mkF m 7 #[.val (.int p1)] [(.int (p1.toInt8.toInt32)), (.int (0 : Int32)), (.ref b2), (.ref b2)])) rfl rfl (hb hby own_d16_7)
  have V3 : Arv Z h3 b2 k2 .byte (1 : Int32) [(.int ((p1.toInt8.toInt32).toInt8.toInt32))] (.int (0 : Int32)) := Arv.set Ar3 q3 S3 N3_ H3 G3 (fits_nar_byte _) W3 0 rfl (Nat.le_of_ble_eq_true rfl)
  have N3 := Fr.snoc X3 N0 g_b2
  have K3 : Keep h0 h3 [] := K2.wr W3 (Or.inr sz_b2)
  refine own_step (U' := (T3.setTop (mkF m 8 #[.val (.int p1)] [(.ref b2)]))) (fun t ht => st3 _ ht) ?_
  refine own_ret X3 (v := (some (.ref b2))) (fun h => by rw [Bd.returns] at h; cases h) Bd.notSynchronized (by decide) (by decide) ?_ (fun fs hr => retOut X3 hx Bd.returns (own_narR rfl) (Or.inr (Or.inr (Or.inr (Or.inr ⟨rfl, rfl, rfl⟩)))) (hb hby own_d16_8) hr)
  show own_Q_tob Z p1 h0 n0 _ T3.heap _
  rw [e3]
  exact ⟨b2, rfl, N3, K3, sz_b2⟩
theorem own_pn1 : plainName "java/lang/String" = true := by first | (simp [plainName, overriddenIn]; done) | decide +kernel
theorem own_d17_0 : decode jdk_42_method_151_code 0 = .ok (.aload_n 0, 1) := by decide +kernel
theorem own_d17_1 : decode jdk_42_method_151_code 1 = .ok (.invokespecial 1, 3) := by decide +kernel
theorem own_d17_4 : decode jdk_42_method_151_code 4 = .ok (.aload_n 0, 1) := by decide +kernel
theorem own_d17_5 : decode jdk_42_method_151_code 5 = .ok (.aload_n 1, 1) := by decide +kernel
theorem own_d17_6 : decode jdk_42_method_151_code 6 = .ok (.putfield 9, 3) := by decide +kernel
theorem own_d17_9 : decode jdk_42_method_151_code 9 = .ok (.aload_n 0, 1) := by decide +kernel
theorem own_d17_10 : decode jdk_42_method_151_code 10 = .ok (.iload_n 2, 1) := by decide +kernel
theorem own_d17_11 : decode jdk_42_method_151_code 11 = .ok (.putfield 15, 3) := by decide +kernel
theorem own_d17_14 : decode jdk_42_method_151_code 14 = .ok (.return_, 1) := by decide +kernel
def own_Q_sin (Z : State) (a1 : Addr) (b1 : Addr) (p2 : Int32) (u1 : Value) (u2 : Value) (h0 : Heap) (n0 : Nat) (v : Option Value) (h : Heap) (L : List Loc) : Prop := v = none ∧ Fr n0 L ∧ Keep h0 h [a1] ∧ (Fld Z h a1 "java/lang/String" "value" "[B" (.ref b1)) ∧ (Exa Z h a1 "java/lang/String")
set_option maxRecDepth 65536 in
set_option maxHeartbeats 40000000 in
theorem own_m_sin (l : Launch) (Z : State) (a0 : Array Value) (hw : ∀ d ∈ tables_1, d.before a0 Z = true) (ws : List Jvm.Cond) (a1 : Addr) (b1 : Addr) (p2 : Int32) (u1 : Value) (u2 : Value) (h0 : Heap) (n0 : Nat) (Z0 : n0 ≤ h0.size) (g_a1 : n0 ≤ a1) (F1 : Fld Z h0 a1 "java/lang/String" "value" "[B" u1) (F2 : Fld Z h0 a1 "java/lang/String" "coder" "B" u2) (E1 : Exa Z h0 a1 "java/lang/String") :
    MetFree l (⟨"java/lang/String", "<init>", "([BB)V"⟩ : MethodName) (head1 (Jvm.Cond.code (⟨"java/lang/String", "<init>", "([BB)V"⟩ : MethodName) jdk_42_method_151_code 3 none :: ws) ({ frames := 1, cells := 0, slots := 0, locals := 12 } : Room)) (fun a U => a = #[(.ref a1), (.ref b1), (.int p2)] ∧ Z.Warmed39 U.vm ∧ U.heap = h0) (fun _ _ _ _ _ => True) (fun _ U o U' => ∃ v L, o = .returned v ∧ own_Q_sin Z a1 b1 p2 u1 u2 h0 n0 v U'.heap L ∧ FrameEnd U o U' L ({ frames := 1, cells := 0, slots := 0, locals := 12 } : Room).cells ({ frames := 1, cells := 0, slots := 0, locals := 12 } : Room).slots) := by
  refine MetFree.of_bodySF (plainFor_of_name own_pn1) hisR ?_
  intro p e s m args below meth c s₁ Bd hml0 hP hK
  obtain ⟨rfl, hZ, hh⟩ := hP
  have hx := Bd.exec
  have hby := Bd.bytes
  have hml : c.maxLocals = 3 := hml0
  have hown : s.vm.findClass "java/lang/String" = some m.cls := findClass_of_methodNamed Bd.named
  have hnm := (name_of_methodNamed Bd.named Bd.method).1
  have X0 : Stand p l e ({ frames := 1, cells := 0, slots := 0, locals := 12 } : Room) s m #[(.ref a1), (.ref b1), (.int p2)] below meth c s₁ [] 0 0 := Stand.of_body Bd
  have e0 : s₁.heap = h0 := by rw [← hh, Bd.state]; rfl
  have N0 := Fr.nil n0
  have K0 : Keep h0 h0 [a1] := Keep.refl _ _
  show own_Go p e below s ({ frames := 1, cells := 0, slots := 0, locals := 12 } : Room).cells ({ frames := 1, cells := 0, slots := 0, locals := 12 } : Room).slots (own_Q_sin Z a1 b1 p2 u1 u2 h0 n0) (s₁.setTop (entryFrame m #[(.ref a1), (.ref b1), (.int p2)] 3))
  have ef : entryFrame m #[(.ref a1), (.ref b1), (.int p2)] 3 = (mkF m 0 #[.val (.ref a1), .val (.ref b1), .val (.int p2)] []) := by first | rfl | (simp [entryFrame, mkF, argsToLocals, Value.category, maxLocals]; done)
  rw [ef]
  show own_Go p e below s _ _ _ (s₁.setTop (mkF m 0 #[.val (.ref a1), .val (.ref b1), .val (.int p2)] []))
  refine own_step (U' := (s₁.setTop (mkF m 1 #[.val (.ref a1), .val (.ref b1), .val (.int p2)] [(.ref a1)]))) (fun t ht => XS.aloadN X0.here hx rfl (hb hby own_d17_0) rfl rfl ht) ?_
  obtain ⟨T4, X4, e4, st4⟩ := initO X0 hx hZ hown (hw _ (List.mem_of_getElem? (i := 17) rfl)) (hw _ (List.mem_of_getElem? (i := 18) rfl)) (hw _ (List.mem_of_getElem? (i := 19) rfl)) e0 (g := (mkF m 1 #[.val (.ref a1), .val (.ref b1), .val (.int p2)] [(.ref a1)])) rfl (by rw [hml]; rfl) rfl (hb hby own_d17_1) (by decide) (W := 0) (by show 2 * 0 + _ ≤ _; exact Nat.le_of_eq rfl) (by decide)
  refine own_step (U' := (T4.setTop (mkF m 4 #[.val (.ref a1), .val (.ref b1), .val (.int p2)] []))) (fun t ht => st4 _ ht) ?_
  refine own_step (U' := (T4.setTop (mkF m 5 #[.val (.ref a1), .val (.ref b1), .val (.int p2)] [(.ref a1)]))) (fun t ht => XS.aloadN X4.here hx rfl (hb hby own_d17_4) rfl rfl ht) ?_
  refine own_step (U' := (T4.setTop (mkF m 6 #[.val (.ref a1), .val (.ref b1), .val (.int p2)] [(.ref b1), (.ref a1)]))) (fun t ht => XS.aloadN X4.here hx rfl (hb hby own_d17_5) rfl rfl ht) ?_
  obtain ⟨T5, h5, X5, e5, W5, st5⟩ := putF X4 hx hZ hown (host := "") (Or.inl (hw _ (List.mem_of_getElem? (i := 34) rfl))) Via.refl e4 F1 E1 (Or.inr ⟨(hw _ (List.mem_of_getElem? (i := 35) rfl)), rfl, hnm⟩) (hw _ (List.mem_of_getElem? (i := 8) rfl)) (ty := (.array .byte)) (by decide) rfl rfl (g := (mkF m 6 #[.val (.ref a1), .val (.ref b1), .val (.int p2)] [(.ref b1), (.ref a1)])) rfl rfl (hb hby own_d17_6)
  have f5_1 : Fld Z h5 a1 "java/lang/String" "coder" "B" u2 := F2.other W5 (Or.inr (slot_ne (Or.inr (hw _ (List.mem_of_getElem? (i := 33) rfl))) (Or.inr (hw _ (List.mem_of_getElem? (i := 35) rfl))) (by decide) (t := .byte) (t' := (.array .byte)) (by decide) (by decide)))
  have f5_2 : Exa Z h5 a1 "java/lang/String" := E1.wr W5
  have F5 := F1.same W5
  have N5 := Fr.snoc X5 N0 g_a1
  have K5 : Keep h0 h5 [a1] := K0.wr W5 (Or.inl (by simp))
  refine own_step (U' := (T5.setTop (mkF m 9 #[.val (.ref a1), .val (.ref b1), .val (.int p2)] []))) (fun t ht => st5 _ ht) ?_
  refine own_step (U' := (T5.setTop (mkF m 10 #[.val (.ref a1), .val (.ref b1), .val (.int p2)] [(.ref a1)]))) (fun t ht => XS.aloadN X5.here hx rfl (hb hby own_d17_9) rfl rfl ht) ?_
  refine own_step (U' := (T5.setTop (mkF m 11 #[.val (.ref a1), .val (.ref b1), .val (.int p2)] [(.int p2), (.ref a1)]))) (fun t ht => XS.iloadN X5.here hx rfl (hb hby own_d17_10) rfl ht) ?_
  obtain ⟨T6, h6, X6, e6, W6, st6⟩ := putFN X5 hx hZ hown (hw _ (List.mem_of_getElem? (i := 32) rfl)) Via.refl e5 f5_1 f5_2 (Or.inr ⟨(hw _ (List.mem_of_getElem? (i := 33) rfl)), rfl, hnm⟩) (hw _ (List.mem_of_getElem? (i := 8) rfl)) (ty := .byte) (v' := (.int (p2.toInt8.toInt32))) (by decide) rfl (fits_nar_byte _) (g := (mkF m 11 #[.val (.ref a1), .val (.ref b1), .val (.int p2)] [(.int p2), (.ref a1)])) rfl rfl (hb hby own_d17_11)
  have f6_1 : Exa Z h6 a1 "java/lang/String" := f5_2.wr W6
  have f6_2 : Fld Z h6 a1 "java/lang/String" "value" "[B" (.ref b1) := F5.other W6 (Or.inr (slot_ne (Or.inr (hw _ (List.mem_of_getElem? (i := 35) rfl))) (Or.inr (hw _ (List.mem_of_getElem? (i := 33) rfl))) (by decide) (t := (.array .byte)) (t' := .byte) (by decide) (by decide)))
  have F6 := f5_1.same W6
  have N6 := Fr.snoc X6 N5 g_a1
  have K6 : Keep h0 h6 [a1] := K5.wr W6 (Or.inl (by simp))
  refine own_step (U' := (T6.setTop (mkF m 14 #[.val (.ref a1), .val (.ref b1), .val (.int p2)] []))) (fun t ht => st6 _ ht) ?_
  refine own_ret X6 (v := none) (fun _ => rfl) Bd.notSynchronized (by decide) (by decide) ?_ (fun fs hr => X6.returnOut hx Bd.returns (hb hby own_d17_14) hr)
  show own_Q_sin Z a1 b1 p2 u1 u2 h0 n0 _ T6.heap _
  rw [e6]
  exact ⟨rfl, N6, K6, f6_2, f6_1⟩
theorem own_pd0 : parseMethodDescriptor "(C)Z" = some ⟨[.char], some .boolean⟩ := by decide +kernel
theorem own_pd1 : parseMethodDescriptor "(C)[B" = some ⟨[.char], some (.array .byte)⟩ := by decide +kernel
theorem own_pd2 : parseMethodDescriptor "([BB)V" = some ⟨[(.array .byte), .byte], none⟩ := by decide +kernel
theorem own_d14_0 : decode jdk_42_method_139_code 0 = .ok (.getstatic 38, 3) := by decide +kernel
theorem own_d14_3 : decode jdk_42_method_139_code 3 = .ok (.ifCond .eq 23, 3) := by decide +kernel
theorem own_d14_6 : decode jdk_42_method_139_code 6 = .ok (.iload_n 0, 1) := by decide +kernel
theorem own_d14_7 : decode jdk_42_method_139_code 7 = .ok (.invokestatic 1015, 3) := by decide +kernel
theorem own_d14_10 : decode jdk_42_method_139_code 10 = .ok (.ifCond .eq 16, 3) := by decide +kernel
theorem own_d14_13 : decode jdk_42_method_139_code 13 = .ok (.new 10, 3) := by decide +kernel
theorem own_d14_16 : decode jdk_42_method_139_code 16 = .ok (.dup, 1) := by decide +kernel
theorem own_d14_17 : decode jdk_42_method_139_code 17 = .ok (.iload_n 0, 1) := by decide +kernel
theorem own_d14_18 : decode jdk_42_method_139_code 18 = .ok (.invokestatic 1018, 3) := by decide +kernel
theorem own_d14_21 : decode jdk_42_method_139_code 21 = .ok (.iconst 0, 1) := by decide +kernel
theorem own_d14_22 : decode jdk_42_method_139_code 22 = .ok (.invokespecial 209, 3) := by decide +kernel
theorem own_d14_25 : decode jdk_42_method_139_code 25 = .ok (.areturn, 1) := by decide +kernel
def own_Q_vof (Z : State) (p1 : Int32) (cz : Int32) (h0 : Heap) (n0 : Nat) (v : Option Value) (h : Heap) (L : List Loc) : Prop := ∃ (r : Addr), v = some (.ref r) ∧ Fr n0 L ∧ Keep h0 h [] ∧ h0.size ≤ r ∧ (Exa Z h r "java/lang/String")
set_option maxRecDepth 65536 in
set_option maxHeartbeats 40000000 in
theorem own_m_vof (l : Launch) (Z : State) (a0 : Array Value) (hw : ∀ d ∈ tables_1, d.before a0 Z = true) (ws : List Jvm.Cond) (p1 : Int32) (cz : Int32) (h0 : Heap) (n0 : Nat) (Z0 : n0 ≤ h0.size) (S_cz : Sta Z h0 "java/lang/String" "COMPACT_STRINGS" "Z" (.int cz)) (hcz : ¬ cz = 0) (hp1 : ¬ 255 < p1) :
    MetFree l (⟨"java/lang/String", "valueOf", "(C)Ljava/lang/String;"⟩ : MethodName) (head1 (Jvm.Cond.code (⟨"java/lang/String", "valueOf", "(C)Ljava/lang/String;"⟩ : MethodName) jdk_42_method_139_code 1 (some (.object "java/lang/String")) :: ws) ({ frames := 2, cells := 2, slots := 5, locals := 27 } : Room)) (fun a U => a = #[(.int p1)] ∧ Z.Warmed39 U.vm ∧ U.heap = h0) (fun _ _ _ _ _ => True) (fun _ U o U' => ∃ v L, o = .returned v ∧ own_Q_vof Z p1 cz h0 n0 v U'.heap L ∧ FrameEnd U o U' L ({ frames := 2, cells := 2, slots := 5, locals := 27 } : Room).cells ({ frames := 2, cells := 2, slots := 5, locals := 27 } : Room).slots) := by
  refine MetFree.of_bodySF (plainFor_of_name own_pn1) hisR ?_
  intro p e s m args below meth c s₁ Bd hml0 hP hK
  obtain ⟨rfl, hZ, hh⟩ := hP
  have hx := Bd.exec
  have hby := Bd.bytes
  have hml : c.maxLocals = 1 := hml0
  have hown : s.vm.findClass "java/lang/String" = some m.cls := findClass_of_methodNamed Bd.named
  have hnm := (name_of_methodNamed Bd.named Bd.method).1
  have X0 : Stand p l e ({ frames := 2, cells := 2, slots := 5, locals := 27 } : Room) s m #[(.int p1)] below meth c s₁ [] 0 0 := Stand.of_body Bd
  have e0 : s₁.heap = h0 := by rw [← hh, Bd.state]; rfl
  have N0 := Fr.nil n0
  have K0 : Keep h0 h0 [] := Keep.refl _ _
  show own_Go p e below s ({ frames := 2, cells := 2, slots := 5, locals := 27 } : Room).cells ({ frames := 2, cells := 2, slots := 5, locals := 27 } : Room).slots (own_Q_vof Z p1 cz h0 n0) (s₁.setTop (entryFrame m #[(.int p1)] 1))
  have ef : entryFrame m #[(.int p1)] 1 = (mkF m 0 #[.val (.int p1)] []) := by first | rfl | (simp [entryFrame, mkF, argsToLocals, Value.category, maxLocals]; done)
  rw [ef]
  show own_Go p e below s _ _ _ (s₁.setTop (mkF m 0 #[.val (.int p1)] []))
  obtain ⟨T7, X7, e7, st7⟩ := getS2 X0 hx hZ hown (host := "") (Or.inl (hw _ (List.mem_of_getElem? (i := 20) rfl))) Via.refl e0 S_cz (g := (mkF m 0 #[.val (.int p1)] [])) rfl (hb hby own_d14_0)
  refine own_step (U' := (T7.setTop (mkF m 3 #[.val (.int p1)] [(.int cz)]))) (fun t ht => st7 _ ht) ?_
  refine own_step (U' := (T7.setTop (mkF m 6 #[.val (.int p1)] []))) (fun t ht => XS.ifNo X7.here hx rfl (hb hby own_d14_3) rfl (XT.i0_eq_f (hcz : ¬ (cz = 0))) ht) ?_
  refine own_step (U' := (T7.setTop (mkF m 7 #[.val (.int p1)] [(.int p1)]))) (fun t ht => XS.iloadN X7.here hx rfl (hb hby own_d14_6) rfl ht) ?_
  obtain ⟨_, _, ⟨T8, L8, k8, n8⟩, -, X8, ⟨Lc8, hQ8, l8, y8, z8⟩, st8⟩ := Jvm.LawKit.callS X7 hx (y := (⟨"java/lang/StringLatin1", "canEncode", "(C)Z"⟩ : MethodName)) hown (mvT hZ (hw _ (List.mem_of_getElem? (i := 88) rfl))) (mvT hZ (hw _ (List.mem_of_getElem? (i := 89) rfl))) (mvT hZ (hw _ (List.mem_of_getElem? (i := 90) rfl))) (mvT hZ (hw _ (List.mem_of_getElem? (i := 91) rfl))) (by decide) (backOf (W := 0) (own_m_ce l Z a0 hw [] (p1) h0 n0 Z0 ) hZ (hw _ (List.mem_of_getElem? (i := 91) rfl)) (hw _ (List.mem_of_getElem? (i := 90) rfl)) (by decide) (by decide)) (g := (mkF m 7 #[.val (.int p1)] [(.int p1)])) rfl (by rw [hml]; rfl) (argsL := [(.int p1)]) (rest := []) (lenOf own_pd0 rfl) rfl (by show 2 * 0 + _ ≤ _; exact Nat.le_of_eq rfl) (hb hby own_d14_7) (fun _ _ => ⟨rfl, e7, (by decide : 0 + 0 ≤ _), (by decide : 0 + 0 ≤ _)⟩)
  dsimp only [Pt.U, Pt.locs, Pt.cells, Pt.slots] at X8 l8 y8 z8 st8 hQ8
  subst l8 y8 z8
  obtain ⟨rfl, Nq8, Kq8⟩ := hQ8
  have N8 := Fr.app N0 Nq8
  have e8 : T8.heap = h0 := Kq8
  refine own_step (U' := (T8.setTop (mkF m 10 #[.val (.int p1)] [(.int (own_ce p1))]))) (fun t ht => st8 _ ht) ?_
  refine own_step (U' := (T8.setTop (mkF m 13 #[.val (.int p1)] []))) (fun t ht => XS.ifNo X8.here hx rfl (hb hby own_d14_10) rfl (XT.i0_eq_f ((by simp [own_ce, hp1]) : ¬ ((own_ce p1) = 0))) ht) ?_
  obtain ⟨T9, h9, X9, e9, E9, A9, D9, -, st9⟩ := newO X8 hx hZ hown (hw _ (List.mem_of_getElem? (i := 92) rfl)) (hw _ (List.mem_of_getElem? (i := 8) rfl)) (hw _ (List.mem_of_getElem? (i := 9) rfl)) e8 (g := (mkF m 13 #[.val (.int p1)] [])) rfl (hb hby own_d14_13) (by decide) (by decide)
  obtain ⟨b9, g9⟩ : ∃ z, z = (h0).size := ⟨_, rfl⟩
  rw [← g9] at A9 D9 st9
  have g_b9 : n0 ≤ b9 := Nat.le_trans (Nat.le_trans Z0 K0.1) (Nat.le_of_eq g9.symm)
  have sz_b9 : h0.size ≤ b9 := Nat.le_trans K0.1 (Nat.le_of_eq g9.symm)
  have f9_0 : Sta Z h9 "java/lang/String" "COMPACT_STRINGS" "Z" (.int cz) := S_cz.ext E9
  have K9 : Keep h0 h9 [] := K0.ext E9
  have F9_33 : Fld Z h9 b9 "java/lang/String" "coder" "B" (.int (0 : Int32)) := D9 (Or.inr (hw _ (List.mem_of_getElem? (i := 33) rfl))) (ty := .byte) (by decide)
  have F9_35 : Fld Z h9 b9 "java/lang/String" "value" "[B" .null := D9 (Or.inr (hw _ (List.mem_of_getElem? (i := 35) rfl))) (ty := (.array .byte)) (by decide)
  refine own_step (U' := (T9.setTop (mkF m 16 #[.val (.int p1)] [(.ref b9)]))) (fun t ht => st9 _ ht) ?_
  refine own_step (U' := (T9.setTop (mkF m 17 #[.val (.int p1)] [(.ref b9), (.ref b9)]))) (fun t ht => XS.dup X9.here hx rfl (hb hby own_d14_16) rfl rfl ht) ?_
  refine own_step (U' := (T9.setTop (mkF m 18 #[.val (.int p1)] [(.int p1), (.ref b9), (.ref b9)]))) (fun t ht => XS.iloadN X9.here hx rfl (hb hby own_d14_17) rfl ht) ?_
  obtain ⟨_, _, ⟨T10, L10, k10, n10⟩, -, X10, ⟨Lc10, hQ10, l10, y10, z10⟩, st10⟩ := Jvm.LawKit.callS X9 hx (y := (⟨"java/lang/StringLatin1", "toBytes", "(C)[B"⟩ : MethodName)) hown (mvT hZ (hw _ (List.mem_of_getElem? (i := 93) rfl))) (mvT hZ (hw _ (List.mem_of_getElem? (i := 94) rfl))) (mvT hZ (hw _ (List.mem_of_getElem? (i := 90) rfl))) (mvT hZ (hw _ (List.mem_of_getElem? (i := 95) rfl))) (by decide) (backOf (W := 2) (own_m_tob l Z a0 hw [] (p1) h9 n0 (Nat.le_trans Z0 K9.1) ) hZ (hw _ (List.mem_of_getElem? (i := 95) rfl)) (hw _ (List.mem_of_getElem? (i := 90) rfl)) (by decide) (by decide)) (g := (mkF m 18 #[.val (.int p1)] [(.int p1), (.ref b9), (.ref b9)])) rfl (by rw [hml]; rfl) (argsL := [(.int p1)]) (rest := [(.ref b9), (.ref b9)]) (lenOf own_pd1 rfl) rfl (by show 2 * 0 + _ ≤ _; exact Nat.le_of_eq rfl) (hb hby own_d14_18) (fun _ _ => ⟨rfl, e9, (by decide : 1 + 1 ≤ _), (by decide : 4 + 1 ≤ _)⟩)
  dsimp only [Pt.U, Pt.locs, Pt.cells, Pt.slots] at X10 l10 y10 z10 st10 hQ10
  subst l10 y10 z10
  obtain ⟨r_10, rfl, Nq10, Kq10, sq_r_10⟩ := hQ10
  have N10 := Fr.app N8 Nq10
  have ne_b9_r_10 : b9 ≠ r_10 := Nat.ne_of_lt (Nat.lt_of_lt_of_le A9.lt sq_r_10)
  have g_r_10 : n0 ≤ r_10 := Nat.le_trans (Nat.le_trans Z0 K9.1) sq_r_10
  have sz_r_10 : h0.size ≤ r_10 := Nat.le_trans K9.1 sq_r_10
  have f10_0 : Sta Z T10.heap "java/lang/String" "COMPACT_STRINGS" "Z" (.int cz) := own_sta_keep f9_0 Kq10 own_pl0
  have f10_1 : Exa Z T10.heap b9 "java/lang/String" := A9.keep Kq10
  have f10_2 : Fld Z T10.heap b9 "java/lang/String" "coder" "B" (.int (0 : Int32)) := F9_33.keep Kq10 nin0
  have f10_3 : Fld Z T10.heap b9 "java/lang/String" "value" "[B" .null := F9_35.keep Kq10 nin0
  have K10 : Keep h0 T10.heap [] := K9.trans Kq10 all0
  refine own_step (U' := (T10.setTop (mkF m 21 #[.val (.int p1)] [(.ref r_10), (.ref b9), (.ref b9)]))) (fun t ht => st10 _ ht) ?_
  refine own_step (U' := (T10.setTop (mkF m 22 #[.val (.int p1)] [(.int (0 : Int32)), (.ref r_10), (.ref b9), (.ref b9)]))) (fun t ht => XS.iconst X10.here hx rfl (hb hby own_d14_21) ht) ?_
  obtain ⟨_, _, ⟨T11, L11, k11, n11⟩, -, X11, ⟨Lc11, hQ11, l11, y11, z11⟩, st11⟩ := X10.specialBack hx (y := (⟨"java/lang/String", "<init>", "([BB)V"⟩ : MethodName)) rfl hown (mvT hZ (hw _ (List.mem_of_getElem? (i := 96) rfl))) (mvT hZ (hw _ (List.mem_of_getElem? (i := 97) rfl))) (mvT hZ (hw _ (List.mem_of_getElem? (i := 98) rfl))) (by decide) (backOf (W := 1) (own_m_sin l Z a0 hw [] (b9) (r_10) ((0 : Int32)) (.null) ((.int (0 : Int32))) T10.heap n0 (Nat.le_trans Z0 K10.1) g_b9 f10_3 f10_2 f10_1) hZ (hw _ (List.mem_of_getElem? (i := 98) rfl)) (hw _ (List.mem_of_getElem? (i := 9) rfl)) (by decide) (by decide)) (g := (mkF m 22 #[.val (.int p1)] [(.int (0 : Int32)), (.ref r_10), (.ref b9), (.ref b9)])) rfl (by rw [hml]; rfl) (Steps.refl _) (a := b9) (argsL := [(.ref r_10), (.int (0 : Int32))]) (rest := [(.ref b9)]) (lenOf own_pd2 rfl) rfl (by show 2 * 0 + _ ≤ _; exact Nat.le_of_eq rfl) (hb hby own_d14_22) (fun _ _ => ⟨rfl, rfl, (by decide : 2 + 0 ≤ _), (by decide : 5 + 0 ≤ _)⟩)
  dsimp only [Pt.U, Pt.locs, Pt.cells, Pt.slots] at X11 l11 y11 z11 st11 hQ11
  subst l11 y11 z11
  obtain ⟨rfl, Nq11, Kq11, Fq11_0, Fq11_1⟩ := hQ11
  have N11 := Fr.app N10 Nq11
  have f11_0 : Sta Z T11.heap "java/lang/String" "COMPACT_STRINGS" "Z" (.int cz) := own_sta_keep f10_0 Kq11 (own_plE f10_1 own_pl0)
  have f11_1 : Exa Z T11.heap b9 "java/lang/String" := f10_1.keep Kq11
  have K11 : Keep h0 T11.heap [] := K10.trans Kq11 (allS (Or.inr sz_b9) all0)
  refine own_step (U' := (T11.setTop (mkF m 25 #[.val (.int p1)] [(.ref b9)]))) (fun t ht => st11.trans ht) ?_
  refine own_ret X11 (v := (some (.ref b9))) (fun h => by rw [Bd.returns] at h; cases h) Bd.notSynchronized (by decide) (by decide) ?_ (fun fs hr => retOut X11 hx Bd.returns (own_narR rfl) (Or.inr (Or.inr (Or.inr (Or.inr ⟨rfl, rfl, rfl⟩)))) (hb hby own_d14_25) hr)
  show own_Q_vof Z p1 cz h0 n0 _ T11.heap _
  show own_Q_vof Z p1 cz h0 n0 _ T11.heap _
  exact ⟨b9, rfl, N11, K11, sz_b9, Fq11_1⟩
def own_Key (Z : State) (h : Heap) (u : Value) : Prop := u = .null ∨ ∃ y, u = .ref y ∧ Exa Z h y "java/lang/String"
theorem own_Key.isRef {Z : State} {h : Heap} {u : Value} (F : own_Key Z h u) : u.isRef = true := by rcases F with rfl | ⟨y, rfl, -⟩ <;> rfl
theorem own_Key.ext {Z : State} {h h' : Heap} {u : Value} (F : own_Key Z h u) (E : Ext h h') : own_Key Z h' u := F.imp id fun ⟨y, e, q⟩ => ⟨y, e, q.ext E⟩
theorem own_Key.wr {Z : State} {h h' : Heap} {u v : Value} {a : Addr} {sl : Nat} (F : own_Key Z h u) (W : Wr h h' a sl v) : own_Key Z h' u := F.imp id fun ⟨y, e, q⟩ => ⟨y, e, q.wr W⟩
theorem own_Key.keep {Z : State} {h h' : Heap} {u : Value} {ws : List Addr} (F : own_Key Z h u) (K : Keep h h' ws) : own_Key Z h' u := F.imp id fun ⟨y, e, q⟩ => ⟨y, e, q.keep K⟩
theorem own_Key.sto {Z : State} {h : Heap} {u : Value} {a : Addr} {c : Cell} {ty : FieldType} {k : ClassId} (F : own_Key Z h u) (A : Arr Z h a c ty) (q : c.cls = k) (O : Ovr Z k "java/lang/String") : Sto Z h a u := by
  rcases F with rfl | ⟨y, rfl, E⟩
  · exact Or.inl rfl
  · exact Sto.ofV A q O (Ins.self E)
def own_ie (z : Int64) : Int32 := if z = 0 then 1 else 0
theorem own_mvRef {Z s : State} {a0 args : Array Value} {own : String} {index : Nat} {y : MethodName} {m : MethodId} (hZ : Z.Warmed39 s.vm) (hn : Z.methodNamed? y = some m) (hy : y.cls ≠ "java/lang/invoke/MethodHandle" ∧ y.cls ≠ "java/lang/invoke/VarHandle") (h : (Cond.methodRef own index y).before a0 Z = true) : (Cond.methodRef own index y).before args s = true := by
  have h1 : (Cond.methodRef own index y).before a0 (Z.setVm s.vm) = true := Cond.methodRef_warmed39 hZ hn hy h
  exact h1
theorem own_initRef {tb : Tables} [Ours tb] {e : Env} {below : List Frame} {U : State} {mm : MethodId} {cc : Code} (h : At U mm cc below) (hexec : tb.exec = Jvm.exec)
    {own : String} (hown : U.vm.findClass own = some mm.cls) {idx : Nat} {t : MethodName} (ht1 : t.name = "<init>") (hnot : t.cls ≠ "java/lang/invoke/MethodHandle" ∧ t.cls ≠ "java/lang/invoke/VarHandle") {args : Array Value} {bytes : ByteArray} {maxL : Nat}
    (hlink : (Cond.methodRef own idx t).before args U = true) (hinst : (Cond.instanceMethod t).before args U = true) (hcode : (Cond.code t bytes maxL none).before args U = true)
    {f : JFrame} (hf : f.method = mm) {a : Addr} {argsL rest : List Value} (hlen : ∀ sig, parseMethodDescriptor t.desc = some sig → argsL.length = sig.parameters.length) (hstack : f.stack = argsL.reverse ++ .ref a :: rest) (hd : decode cc.code f.pc = .ok (.invokespecial idx, 3)) :
    ∃ tm, U.methodNamed? t = some tm ∧
      ∀ target, (∀ acts, Steps tb e below (doInvoke e (U.setTop { f with stack := rest }) acts tm (.ref a :: argsL).toArray).1 target) → Steps tb e below (U.setTop f) target := by
  subst hf
  obtain ⟨obj, methO, hnO, hmO, hstO, habO⟩ := Cond.instanceMethod_spec hinst
  obtain ⟨methO', cO, hmO', hcO, hbO, hlO, -, hlockO, -, hsigO⟩ := Cond.code_spec hnO hcode
  cases hmO.symm.trans hmO'
  obtain ⟨kO, hkO, hnameO⟩ := className_of_methodNamed hnO
  obtain ⟨hnameMO, hdescO⟩ := name_of_methodNamed hnO hmO
  obtain ⟨m, c', hm, hready, hfind, hnr⟩ := Cond.methodRef_named e hown hlink
  cases hm.symm.trans (State.methodFound?_of_named hnO hnot)
  cases hfind.symm.trans (findClass_of_methodNamed hnO)
  refine ⟨obj, hnO, fun target hrest => ?_⟩
  jvm_step h [hexec, hd, invokespecial.wp_init (e := e) (s := U) (k := kO) (meth := methO) (m := obj) (a := a) (args := argsL) (rest := rest) (f := f) h.top hnr hready hkO hmO (by rw [hnameMO]; exact ht1) hstO habO (by rw [hdescO, ← ht1]; exact lookupSpecial_of_named hnO hmO hstO) (hlen _ hsigO) hstack]
  exact hrest
theorem own_specialRef {p : Program} {l : Launch} {e : Env} {R : Room} {s : State} {m : MethodId} {args : Array Value} {below : List Frame} {meth : Method} {c : Code} {T : State} {locs : List Loc} {cells slots : Nat} {Z : State} {a0 : Array Value} (X : Stand p l e R s m args below meth c T locs cells slots) (hexec : p.tables.exec = Jvm.exec) (hZ : Z.Warmed39 s.vm) {own : String} {index : Nat} {y : MethodName} (hy1 : y.name = "<init>")
    (hown : s.vm.findClass own = some m.cls) (hlink : (Cond.methodRef own index y).before a0 Z = true) (hinst : (Cond.instanceMethod y).before a0 Z = true)
    {bytes : ByteArray} {maxL : Nat} (hcode : (Cond.code y bytes maxL none).before a0 Z = true)
    (hy : y.cls ≠ "java/lang/invoke/MethodHandle" ∧ y.cls ≠ "java/lang/invoke/VarHandle")
    {W : Nat} {Pre : Pt → Array Value → Prop} {Post : Pt → Array Value → Option Value → Pt → Prop} (hK : Back l R p e below s args y 3 W Pre Post)
    {g : JFrame} (hg : g.method = m) (hsize : g.locals.size = c.maxLocals) {a : Addr} {argsL rest : List Value}
    (hlen : ∀ sig, parseMethodDescriptor y.desc = some sig → argsL.length = sig.parameters.length) (hstack : g.stack = argsL.reverse ++ .ref a :: rest) (hW : 2 * g.monitorRoom + (rest.map fun v => v.category).sum ≤ W)
    (hdg : decode c.code g.pc = .ok (.invokespecial index, 3)) (hpre : ∀ vm₁, s.WarmedH vm₁ → Pre ⟨T.setVm vm₁, locs, cells, slots⟩ (.ref a :: argsL).toArray) :
    ∃ (v : Option Value) (vm₁ : Vm) (B : Pt), s.WarmedH vm₁ ∧ Stand p l e R s m args below meth c B.U B.locs B.cells B.slots ∧ Post ⟨T.setVm vm₁, locs, cells, slots⟩ (.ref a :: argsL).toArray v B ∧
      Steps p.tables e below (T.setTop g) (B.U.setTop { g with pc := g.pc + 3, stack := v.toList ++ rest }) := by
  have hT : Z.Warmed39 T.vm := wtrans hZ X.warmed
  obtain ⟨m0, _, hn0, -⟩ := Cond.instanceMethod_spec hinst
  obtain ⟨mk, hnamed, hstep⟩ := own_initRef (e := e) X.here hexec (by rw [X.warmed.alike.findClass]; exact hown) hy1 hy (own_mvRef (args := args) hT hn0 hy hlink) (mv hT hinst) (mv hT hcode) (f := g) hg hlen hstack hdg
  obtain ⟨v, B, X', hpost, hsteps⟩ := hK m meth c ⟨T.setVm T.vm, locs, cells, slots⟩ { g with stack := rest } (.invokespecial index) mk (Value.ref a :: argsL).toArray X hg hsize hdg hW hnamed (hpre T.vm X.warmed)
  exact ⟨v, T.vm, B, X.warmed, X', hpost, (hstep _ fun acts => by rw [doInvoke_state]; exact Steps.refl _).trans hsteps⟩
theorem own_pn2 : plainName "com/example/call_throttle/callthrottle/KeyQueue$Chunk" = true := by first | (simp [plainName, overriddenIn]; done) | decide +kernel
theorem own_d9_0 : decode prog_13_method_1_code 0 = .ok (.aload_n 0, 1) := by decide +kernel
theorem own_d9_1 : decode prog_13_method_1_code 1 = .ok (.invokespecial 3, 3) := by decide +kernel
theorem own_d9_4 : decode prog_13_method_1_code 4 = .ok (.aload_n 0, 1) := by decide +kernel
theorem own_d9_5 : decode prog_13_method_1_code 5 = .ok (.sipush 1024, 3) := by decide +kernel
theorem own_d9_8 : decode prog_13_method_1_code 8 = .ok (.anewarray 9, 3) := by decide +kernel
theorem own_d9_11 : decode prog_13_method_1_code 11 = .ok (.putfield 11, 3) := by decide +kernel
theorem own_d9_14 : decode prog_13_method_1_code 14 = .ok (.return_, 1) := by decide +kernel
def own_Q_chi (Z : State) (c1 : Addr) (u1 : Value) (h0 : Heap) (n0 : Nat) (v : Option Value) (h : Heap) (L : List Loc) : Prop := ∃ (r1 : Addr) (kA : ClassId), v = none ∧ Fr n0 L ∧ Keep h0 h [c1] ∧ h0.size ≤ r1 ∧ c1 ≠ r1 ∧ Ovr Z kA "java/lang/String" ∧ (Fld Z h c1 "com/example/call_throttle/callthrottle/KeyQueue$Chunk" "keys" "[Ljava/lang/String;" (.ref r1)) ∧ (Exa Z h c1 "com/example/call_throttle/callthrottle/KeyQueue$Chunk") ∧ (Arv Z h r1 kA (.object "java/lang/String") (1024 : Int32) [.null, .null, .null, .null] .null)
set_option maxRecDepth 65536 in
set_option maxHeartbeats 40000000 in
theorem own_m_chi (l : Launch) (Z : State) (a0 : Array Value) (hw : ∀ d ∈ tables_1, d.before a0 Z = true) (ws : List Jvm.Cond) (c1 : Addr) (u1 : Value) (h0 : Heap) (n0 : Nat) (Z0 : n0 ≤ h0.size) (g_c1 : n0 ≤ c1) (Fk : Fld Z h0 c1 "com/example/call_throttle/callthrottle/KeyQueue$Chunk" "keys" "[Ljava/lang/String;" u1) (E2 : Exa Z h0 c1 "com/example/call_throttle/callthrottle/KeyQueue$Chunk") :
    MetFree l (⟨"com/example/call_throttle/callthrottle/KeyQueue$Chunk", "<init>", "()V"⟩ : MethodName) (head1 (Jvm.Cond.code (⟨"com/example/call_throttle/callthrottle/KeyQueue$Chunk", "<init>", "()V"⟩ : MethodName) prog_13_method_1_code 1 none :: ws) ({ frames := 1, cells := 1, slots := 1024, locals := 12 } : Room)) (fun a U => a = #[(.ref c1)] ∧ Z.Warmed39 U.vm ∧ U.heap = h0) (fun _ _ _ _ _ => True) (fun _ U o U' => ∃ v L, o = .returned v ∧ own_Q_chi Z c1 u1 h0 n0 v U'.heap L ∧ FrameEnd U o U' L ({ frames := 1, cells := 1, slots := 1024, locals := 12 } : Room).cells ({ frames := 1, cells := 1, slots := 1024, locals := 12 } : Room).slots) := by
  refine MetFree.of_bodySF (plainFor_of_name own_pn2) hisR ?_
  intro p e s m args below meth c s₁ Bd hml0 hP hK
  obtain ⟨rfl, hZ, hh⟩ := hP
  have hx := Bd.exec
  have hby := Bd.bytes
  have hml : c.maxLocals = 1 := hml0
  have hown : s.vm.findClass "com/example/call_throttle/callthrottle/KeyQueue$Chunk" = some m.cls := findClass_of_methodNamed Bd.named
  have hnm := (name_of_methodNamed Bd.named Bd.method).1
  have X0 : Stand p l e ({ frames := 1, cells := 1, slots := 1024, locals := 12 } : Room) s m #[(.ref c1)] below meth c s₁ [] 0 0 := Stand.of_body Bd
  have e0 : s₁.heap = h0 := by rw [← hh, Bd.state]; rfl
  have N0 := Fr.nil n0
  have K0 : Keep h0 h0 [c1] := Keep.refl _ _
  show own_Go p e below s ({ frames := 1, cells := 1, slots := 1024, locals := 12 } : Room).cells ({ frames := 1, cells := 1, slots := 1024, locals := 12 } : Room).slots (own_Q_chi Z c1 u1 h0 n0) (s₁.setTop (entryFrame m #[(.ref c1)] 1))
  have ef : entryFrame m #[(.ref c1)] 1 = (mkF m 0 #[.val (.ref c1)] []) := by first | rfl | (simp [entryFrame, mkF, argsToLocals, Value.category, maxLocals]; done)
  rw [ef]
  show own_Go p e below s _ _ _ (s₁.setTop (mkF m 0 #[.val (.ref c1)] []))
  refine own_step (U' := (s₁.setTop (mkF m 1 #[.val (.ref c1)] [(.ref c1)]))) (fun t ht => XS.aloadN X0.here hx rfl (hb hby own_d9_0) rfl rfl ht) ?_
  obtain ⟨T12, X12, e12, st12⟩ := initO X0 hx hZ hown (hw _ (List.mem_of_getElem? (i := 49) rfl)) (hw _ (List.mem_of_getElem? (i := 18) rfl)) (hw _ (List.mem_of_getElem? (i := 19) rfl)) e0 (g := (mkF m 1 #[.val (.ref c1)] [(.ref c1)])) rfl (by rw [hml]; rfl) rfl (hb hby own_d9_1) (by decide) (W := 0) (by show 2 * 0 + _ ≤ _; exact Nat.le_of_eq rfl) (by decide)
  refine own_step (U' := (T12.setTop (mkF m 4 #[.val (.ref c1)] []))) (fun t ht => st12 _ ht) ?_
  refine own_step (U' := (T12.setTop (mkF m 5 #[.val (.ref c1)] [(.ref c1)]))) (fun t ht => XS.aloadN X12.here hx rfl (hb hby own_d9_4) rfl rfl ht) ?_
  refine own_step (U' := (T12.setTop (mkF m 8 #[.val (.ref c1)] [(.int (1024 : Int32)), (.ref c1)]))) (fun t ht => XS.sipush X12.here hx rfl (hb hby own_d9_5) ht) ?_
  obtain ⟨T13, h13, k13, X13, e13, E13, A13, O13, st13⟩ := newR X12 hx hZ hown (hw _ (List.mem_of_getElem? (i := 50) rfl)) (hw _ (List.mem_of_getElem? (i := 51) rfl)) e12 (g := (mkF m 8 #[.val (.ref c1)] [(.int (1024 : Int32)), (.ref c1)])) rfl (hb hby own_d9_8) rfl (by decide) (cap := 1024) (by decide) (by decide) (by decide) (by decide)
  obtain ⟨b13, g13⟩ : ∃ z, z = (h0).size := ⟨_, rfl⟩
  rw [← g13] at A13 st13
  have ne_c1_b13 : c1 ≠ b13 := Nat.ne_of_lt (Nat.lt_of_lt_of_le Fk.lt (Nat.le_of_eq g13.symm))
  have g_b13 : n0 ≤ b13 := Nat.le_trans (Nat.le_trans Z0 K0.1) (Nat.le_of_eq g13.symm)
  have sz_b13 : h0.size ≤ b13 := Nat.le_trans K0.1 (Nat.le_of_eq g13.symm)
  have f13_0 : Fld Z h13 c1 "com/example/call_throttle/callthrottle/KeyQueue$Chunk" "keys" "[Ljava/lang/String;" u1 := Fk.ext E13
  have f13_1 : Exa Z h13 c1 "com/example/call_throttle/callthrottle/KeyQueue$Chunk" := E2.ext E13
  have K13 : Keep h0 h13 [c1] := K0.ext E13
  have V13 : Arv Z h13 b13 k13 (.object "java/lang/String") (1024 : Int32) [.null, .null, .null, .null] .null := (Arv.new A13 (by decide)).pad (pad_rep [] .null 4)
  refine own_step (U' := (T13.setTop (mkF m 11 #[.val (.ref c1)] [(.ref b13), (.ref c1)]))) (fun t ht => st13 _ ht) ?_
  obtain ⟨T14, h14, X14, e14, W14, st14⟩ := putF X13 hx hZ hown (host := "") (Or.inl (hw _ (List.mem_of_getElem? (i := 52) rfl))) Via.refl e13 f13_0 f13_1 (Or.inr ⟨(hw _ (List.mem_of_getElem? (i := 53) rfl)), rfl, hnm⟩) (hw _ (List.mem_of_getElem? (i := 44) rfl)) (ty := (.array (.object "java/lang/String"))) (by decide) rfl rfl (g := (mkF m 11 #[.val (.ref c1)] [(.ref b13), (.ref c1)])) rfl rfl (hb hby own_d9_11)
  have f14_1 : Exa Z h14 c1 "com/example/call_throttle/callthrottle/KeyQueue$Chunk" := f13_1.wr W14
  have f14_2 : Arv Z h14 b13 k13 (.object "java/lang/String") (1024 : Int32) [.null, .null, .null, .null] .null := V13.other W14 (Ne.symm ne_c1_b13)
  have F14 := f13_0.same W14
  have N14 := Fr.snoc X14 N0 g_c1
  have K14 : Keep h0 h14 [c1] := K13.wr W14 (Or.inl (by simp))
  refine own_step (U' := (T14.setTop (mkF m 14 #[.val (.ref c1)] []))) (fun t ht => st14 _ ht) ?_
  refine own_ret X14 (v := none) (fun _ => rfl) Bd.notSynchronized (by decide) (by decide) ?_ (fun fs hr => X14.returnOut hx Bd.returns (hb hby own_d9_14) hr)
  show own_Q_chi Z c1 u1 h0 n0 _ T14.heap _
  rw [e14]
  exact ⟨b13, k13, rfl, N14, K14, sz_b13, ne_c1_b13, O13, F14, f14_1, f14_2⟩
theorem own_pn3 : plainName "com/example/call_throttle/callthrottle/KeyQueue" = true := by first | (simp [plainName, overriddenIn]; done) | decide +kernel
theorem own_pd3 : parseMethodDescriptor "()V" = some ⟨[], none⟩ := by decide +kernel
theorem own_d8_0 : decode prog_12_method_1_code 0 = .ok (.aload_n 0, 1) := by decide +kernel
theorem own_d8_1 : decode prog_12_method_1_code 1 = .ok (.invokespecial 1, 3) := by decide +kernel
theorem own_d8_4 : decode prog_12_method_1_code 4 = .ok (.aload_n 0, 1) := by decide +kernel
theorem own_d8_5 : decode prog_12_method_1_code 5 = .ok (.new 7, 3) := by decide +kernel
theorem own_d8_8 : decode prog_12_method_1_code 8 = .ok (.dup, 1) := by decide +kernel
theorem own_d8_9 : decode prog_12_method_1_code 9 = .ok (.invokespecial 9, 3) := by decide +kernel
theorem own_d8_12 : decode prog_12_method_1_code 12 = .ok (.putfield 10, 3) := by decide +kernel
theorem own_d8_15 : decode prog_12_method_1_code 15 = .ok (.aload_n 0, 1) := by decide +kernel
theorem own_d8_16 : decode prog_12_method_1_code 16 = .ok (.aload_n 0, 1) := by decide +kernel
theorem own_d8_17 : decode prog_12_method_1_code 17 = .ok (.getfield 10, 3) := by decide +kernel
theorem own_d8_20 : decode prog_12_method_1_code 20 = .ok (.putfield 16, 3) := by decide +kernel
theorem own_d8_23 : decode prog_12_method_1_code 23 = .ok (.return_, 1) := by decide +kernel
def own_Q_kqi (Z : State) (a1 : Addr) (u1 : Value) (u2 : Value) (fi : Int32) (li : Int32) (sz : Int64) (h0 : Heap) (n0 : Nat) (v : Option Value) (h : Heap) (L : List Loc) : Prop := ∃ (c1 : Addr) (r1 : Addr) (kA : ClassId), v = none ∧ Fr n0 L ∧ Keep h0 h [a1] ∧ h0.size ≤ c1 ∧ h0.size ≤ r1 ∧ a1 ≠ r1 ∧ c1 ≠ r1 ∧ Ovr Z kA "java/lang/String" ∧ (Fld Z h a1 "com/example/call_throttle/callthrottle/KeyQueue" "first" "Lcom/example/call_throttle/callthrottle/KeyQueue$Chunk;" (.ref c1)) ∧ (Fld Z h a1 "com/example/call_throttle/callthrottle/KeyQueue" "last" "Lcom/example/call_throttle/callthrottle/KeyQueue$Chunk;" (.ref c1)) ∧ (Fld Z h a1 "com/example/call_throttle/callthrottle/KeyQueue" "firstIndex" "I" (.int fi)) ∧ (Fld Z h a1 "com/example/call_throttle/callthrottle/KeyQueue" "lastIndex" "I" (.int li)) ∧ (Fld Z h a1 "com/example/call_throttle/callthrottle/KeyQueue" "size" "J" (.long sz)) ∧ (Exa Z h a1 "com/example/call_throttle/callthrottle/KeyQueue") ∧ (Fld Z h c1 "com/example/call_throttle/callthrottle/KeyQueue$Chunk" "keys" "[Ljava/lang/String;" (.ref r1)) ∧ (Exa Z h c1 "com/example/call_throttle/callthrottle/KeyQueue$Chunk") ∧ (Arv Z h r1 kA (.object "java/lang/String") (1024 : Int32) [.null, .null, .null, .null] .null)
set_option maxRecDepth 65536 in
set_option maxHeartbeats 40000000 in
theorem own_m_kqi (l : Launch) (Z : State) (a0 : Array Value) (hw : ∀ d ∈ tables_1, d.before a0 Z = true) (ws : List Jvm.Cond) (a1 : Addr) (u1 : Value) (u2 : Value) (fi : Int32) (li : Int32) (sz : Int64) (h0 : Heap) (n0 : Nat) (Z0 : n0 ≤ h0.size) (g_a1 : n0 ≤ a1) (Ff : Fld Z h0 a1 "com/example/call_throttle/callthrottle/KeyQueue" "first" "Lcom/example/call_throttle/callthrottle/KeyQueue$Chunk;" u1) (Fl : Fld Z h0 a1 "com/example/call_throttle/callthrottle/KeyQueue" "last" "Lcom/example/call_throttle/callthrottle/KeyQueue$Chunk;" u2) (Ffi : Fld Z h0 a1 "com/example/call_throttle/callthrottle/KeyQueue" "firstIndex" "I" (.int fi)) (Fli : Fld Z h0 a1 "com/example/call_throttle/callthrottle/KeyQueue" "lastIndex" "I" (.int li)) (Fsz : Fld Z h0 a1 "com/example/call_throttle/callthrottle/KeyQueue" "size" "J" (.long sz)) (E1 : Exa Z h0 a1 "com/example/call_throttle/callthrottle/KeyQueue") :
    MetFree l (⟨"com/example/call_throttle/callthrottle/KeyQueue", "<init>", "()V"⟩ : MethodName) (head1 (Jvm.Cond.code (⟨"com/example/call_throttle/callthrottle/KeyQueue", "<init>", "()V"⟩ : MethodName) prog_12_method_1_code 1 none :: ws) ({ frames := 2, cells := 2, slots := 1026, locals := 26 } : Room)) (fun a U => a = #[(.ref a1)] ∧ Z.Warmed39 U.vm ∧ U.heap = h0) (fun _ _ _ _ _ => True) (fun _ U o U' => ∃ v L, o = .returned v ∧ own_Q_kqi Z a1 u1 u2 fi li sz h0 n0 v U'.heap L ∧ FrameEnd U o U' L ({ frames := 2, cells := 2, slots := 1026, locals := 26 } : Room).cells ({ frames := 2, cells := 2, slots := 1026, locals := 26 } : Room).slots) := by
  refine MetFree.of_bodySF (plainFor_of_name own_pn3) hisR ?_
  intro p e s m args below meth c s₁ Bd hml0 hP hK
  obtain ⟨rfl, hZ, hh⟩ := hP
  have hx := Bd.exec
  have hby := Bd.bytes
  have hml : c.maxLocals = 1 := hml0
  have hown : s.vm.findClass "com/example/call_throttle/callthrottle/KeyQueue" = some m.cls := findClass_of_methodNamed Bd.named
  have hnm := (name_of_methodNamed Bd.named Bd.method).1
  have X0 : Stand p l e ({ frames := 2, cells := 2, slots := 1026, locals := 26 } : Room) s m #[(.ref a1)] below meth c s₁ [] 0 0 := Stand.of_body Bd
  have e0 : s₁.heap = h0 := by rw [← hh, Bd.state]; rfl
  have N0 := Fr.nil n0
  have K0 : Keep h0 h0 [a1] := Keep.refl _ _
  show own_Go p e below s ({ frames := 2, cells := 2, slots := 1026, locals := 26 } : Room).cells ({ frames := 2, cells := 2, slots := 1026, locals := 26 } : Room).slots (own_Q_kqi Z a1 u1 u2 fi li sz h0 n0) (s₁.setTop (entryFrame m #[(.ref a1)] 1))
  have ef : entryFrame m #[(.ref a1)] 1 = (mkF m 0 #[.val (.ref a1)] []) := by first | rfl | (simp [entryFrame, mkF, argsToLocals, Value.category, maxLocals]; done)
  rw [ef]
  show own_Go p e below s _ _ _ (s₁.setTop (mkF m 0 #[.val (.ref a1)] []))
  refine own_step (U' := (s₁.setTop (mkF m 1 #[.val (.ref a1)] [(.ref a1)]))) (fun t ht => XS.aloadN X0.here hx rfl (hb hby own_d8_0) rfl rfl ht) ?_
  obtain ⟨T15, X15, e15, st15⟩ := initO X0 hx hZ hown (hw _ (List.mem_of_getElem? (i := 42) rfl)) (hw _ (List.mem_of_getElem? (i := 18) rfl)) (hw _ (List.mem_of_getElem? (i := 19) rfl)) e0 (g := (mkF m 1 #[.val (.ref a1)] [(.ref a1)])) rfl (by rw [hml]; rfl) rfl (hb hby own_d8_1) (by decide) (W := 0) (by show 2 * 0 + _ ≤ _; exact Nat.le_of_eq rfl) (by decide)
  refine own_step (U' := (T15.setTop (mkF m 4 #[.val (.ref a1)] []))) (fun t ht => st15 _ ht) ?_
  refine own_step (U' := (T15.setTop (mkF m 5 #[.val (.ref a1)] [(.ref a1)]))) (fun t ht => XS.aloadN X15.here hx rfl (hb hby own_d8_4) rfl rfl ht) ?_
  obtain ⟨T16, h16, X16, e16, E16, A16, D16, -, st16⟩ := newO X15 hx hZ hown (hw _ (List.mem_of_getElem? (i := 43) rfl)) (hw _ (List.mem_of_getElem? (i := 44) rfl)) (hw _ (List.mem_of_getElem? (i := 45) rfl)) e15 (g := (mkF m 5 #[.val (.ref a1)] [(.ref a1)])) rfl (hb hby own_d8_5) (by decide) (by decide)
  obtain ⟨b16, g16⟩ : ∃ z, z = (h0).size := ⟨_, rfl⟩
  rw [← g16] at A16 D16 st16
  have ne_a1_b16 : a1 ≠ b16 := Nat.ne_of_lt (Nat.lt_of_lt_of_le Ff.lt (Nat.le_of_eq g16.symm))
  have g_b16 : n0 ≤ b16 := Nat.le_trans (Nat.le_trans Z0 K0.1) (Nat.le_of_eq g16.symm)
  have sz_b16 : h0.size ≤ b16 := Nat.le_trans K0.1 (Nat.le_of_eq g16.symm)
  have f16_0 : Fld Z h16 a1 "com/example/call_throttle/callthrottle/KeyQueue" "first" "Lcom/example/call_throttle/callthrottle/KeyQueue$Chunk;" u1 := Ff.ext E16
  have f16_1 : Fld Z h16 a1 "com/example/call_throttle/callthrottle/KeyQueue" "last" "Lcom/example/call_throttle/callthrottle/KeyQueue$Chunk;" u2 := Fl.ext E16
  have f16_2 : Fld Z h16 a1 "com/example/call_throttle/callthrottle/KeyQueue" "firstIndex" "I" (.int fi) := Ffi.ext E16
  have f16_3 : Fld Z h16 a1 "com/example/call_throttle/callthrottle/KeyQueue" "lastIndex" "I" (.int li) := Fli.ext E16
  have f16_4 : Fld Z h16 a1 "com/example/call_throttle/callthrottle/KeyQueue" "size" "J" (.long sz) := Fsz.ext E16
  have f16_5 : Exa Z h16 a1 "com/example/call_throttle/callthrottle/KeyQueue" := E1.ext E16
  have K16 : Keep h0 h16 [a1] := K0.ext E16
  have F16_53 : Fld Z h16 b16 "com/example/call_throttle/callthrottle/KeyQueue$Chunk" "keys" "[Ljava/lang/String;" .null := D16 (Or.inr (hw _ (List.mem_of_getElem? (i := 53) rfl))) (ty := (.array (.object "java/lang/String"))) (by decide)
  have F16_100 : Fld Z h16 b16 "com/example/call_throttle/callthrottle/KeyQueue$Chunk" "next" "Lcom/example/call_throttle/callthrottle/KeyQueue$Chunk;" .null := D16 (Or.inl (hw _ (List.mem_of_getElem? (i := 100) rfl))) (ty := (.object "com/example/call_throttle/callthrottle/KeyQueue$Chunk")) (by decide)
  refine own_step (U' := (T16.setTop (mkF m 8 #[.val (.ref a1)] [(.ref b16), (.ref a1)]))) (fun t ht => st16 _ ht) ?_
  refine own_step (U' := (T16.setTop (mkF m 9 #[.val (.ref a1)] [(.ref b16), (.ref b16), (.ref a1)]))) (fun t ht => XS.dup X16.here hx rfl (hb hby own_d8_8) rfl rfl ht) ?_
  obtain ⟨_, _, ⟨T17, L17, k17, n17⟩, -, X17, ⟨Lc17, hQ17, l17, y17, z17⟩, st17⟩ := own_specialRef X16 hx hZ (y := (⟨"com/example/call_throttle/callthrottle/KeyQueue$Chunk", "<init>", "()V"⟩ : MethodName)) rfl hown (hw _ (List.mem_of_getElem? (i := 46) rfl)) (hw _ (List.mem_of_getElem? (i := 47) rfl)) (hw _ (List.mem_of_getElem? (i := 48) rfl)) (by decide) (backOf (W := 2) (own_m_chi l Z a0 hw [] (b16) (.null) h16 n0 (Nat.le_trans Z0 K16.1) g_b16 F16_53 A16) hZ (hw _ (List.mem_of_getElem? (i := 48) rfl)) (hw _ (List.mem_of_getElem? (i := 45) rfl)) (by decide) (by decide)) (g := (mkF m 9 #[.val (.ref a1)] [(.ref b16), (.ref b16), (.ref a1)])) rfl (by rw [hml]; rfl) (a := b16) (argsL := []) (rest := [(.ref b16), (.ref a1)]) (lenOf own_pd3 rfl) rfl (by show 2 * 0 + _ ≤ _; exact Nat.le_of_eq rfl) (hb hby own_d8_9) (fun _ _ => ⟨rfl, e16, (by decide : 1 + 1 ≤ _), (by decide : 2 + 1024 ≤ _)⟩)
  dsimp only [Pt.U, Pt.locs, Pt.cells, Pt.slots] at X17 l17 y17 z17 st17 hQ17
  subst l17 y17 z17
  obtain ⟨r1_17, kA_17, rfl, Nq17, Kq17, sq_r1_17, p17_0, p17_1, Fq17_0, Fq17_1, Fq17_2⟩ := hQ17
  have N17 := Fr.app N0 Nq17
  have ne_a1_r1_17 : a1 ≠ r1_17 := Nat.ne_of_lt (Nat.lt_of_lt_of_le f16_0.lt sq_r1_17)
  have ne_b16_r1_17 : b16 ≠ r1_17 := Nat.ne_of_lt (Nat.lt_of_lt_of_le A16.lt sq_r1_17)
  have g_r1_17 : n0 ≤ r1_17 := Nat.le_trans (Nat.le_trans Z0 K16.1) sq_r1_17
  have sz_r1_17 : h0.size ≤ r1_17 := Nat.le_trans K16.1 sq_r1_17
  have f17_0 : Fld Z T17.heap a1 "com/example/call_throttle/callthrottle/KeyQueue" "first" "Lcom/example/call_throttle/callthrottle/KeyQueue$Chunk;" u1 := f16_0.keep Kq17 (ninS ne_a1_b16 nin0)
  have f17_1 : Fld Z T17.heap a1 "com/example/call_throttle/callthrottle/KeyQueue" "last" "Lcom/example/call_throttle/callthrottle/KeyQueue$Chunk;" u2 := f16_1.keep Kq17 (ninS ne_a1_b16 nin0)
  have f17_2 : Fld Z T17.heap a1 "com/example/call_throttle/callthrottle/KeyQueue" "firstIndex" "I" (.int fi) := f16_2.keep Kq17 (ninS ne_a1_b16 nin0)
  have f17_3 : Fld Z T17.heap a1 "com/example/call_throttle/callthrottle/KeyQueue" "lastIndex" "I" (.int li) := f16_3.keep Kq17 (ninS ne_a1_b16 nin0)
  have f17_4 : Fld Z T17.heap a1 "com/example/call_throttle/callthrottle/KeyQueue" "size" "J" (.long sz) := f16_4.keep Kq17 (ninS ne_a1_b16 nin0)
  have f17_5 : Exa Z T17.heap a1 "com/example/call_throttle/callthrottle/KeyQueue" := f16_5.keep Kq17
  have f17_6 : Exa Z T17.heap b16 "com/example/call_throttle/callthrottle/KeyQueue$Chunk" := A16.keep Kq17
  have K17 : Keep h0 T17.heap [a1] := K16.trans Kq17 (allS (Or.inr sz_b16) all0)
  refine own_step (U' := (T17.setTop (mkF m 12 #[.val (.ref a1)] [(.ref b16), (.ref a1)]))) (fun t ht => st17.trans ht) ?_
  obtain ⟨T18, h18, X18, e18, W18, st18⟩ := putF X17 hx hZ hown (host := "") (Or.inl (hw _ (List.mem_of_getElem? (i := 54) rfl))) Via.refl rfl f17_0 f17_5 (Or.inl (hw _ (List.mem_of_getElem? (i := 55) rfl))) (hw _ (List.mem_of_getElem? (i := 37) rfl)) (ty := (.object "com/example/call_throttle/callthrottle/KeyQueue$Chunk")) (by decide) rfl rfl (g := (mkF m 12 #[.val (.ref a1)] [(.ref b16), (.ref a1)])) rfl rfl (hb hby own_d8_12)
  have f18_1 : Fld Z h18 a1 "com/example/call_throttle/callthrottle/KeyQueue" "last" "Lcom/example/call_throttle/callthrottle/KeyQueue$Chunk;" u2 := f17_1.other W18 (Or.inr (slot_ne (Or.inl (hw _ (List.mem_of_getElem? (i := 57) rfl))) (Or.inl (hw _ (List.mem_of_getElem? (i := 55) rfl))) (by decide) (t := (.object "com/example/call_throttle/callthrottle/KeyQueue$Chunk")) (t' := (.object "com/example/call_throttle/callthrottle/KeyQueue$Chunk")) (by decide) (by decide)))
  have f18_2 : Fld Z h18 a1 "com/example/call_throttle/callthrottle/KeyQueue" "firstIndex" "I" (.int fi) := f17_2.other W18 (Or.inr (slot_ne (Or.inl (hw _ (List.mem_of_getElem? (i := 84) rfl))) (Or.inl (hw _ (List.mem_of_getElem? (i := 55) rfl))) (by decide) (t := .int) (t' := (.object "com/example/call_throttle/callthrottle/KeyQueue$Chunk")) (by decide) (by decide)))
  have f18_3 : Fld Z h18 a1 "com/example/call_throttle/callthrottle/KeyQueue" "lastIndex" "I" (.int li) := f17_3.other W18 (Or.inr (slot_ne (Or.inl (hw _ (List.mem_of_getElem? (i := 76) rfl))) (Or.inl (hw _ (List.mem_of_getElem? (i := 55) rfl))) (by decide) (t := .int) (t' := (.object "com/example/call_throttle/callthrottle/KeyQueue$Chunk")) (by decide) (by decide)))
  have f18_4 : Fld Z h18 a1 "com/example/call_throttle/callthrottle/KeyQueue" "size" "J" (.long sz) := f17_4.other W18 (Or.inr (slot_ne (Or.inl (hw _ (List.mem_of_getElem? (i := 64) rfl))) (Or.inl (hw _ (List.mem_of_getElem? (i := 55) rfl))) (by decide) (t := .long) (t' := (.object "com/example/call_throttle/callthrottle/KeyQueue$Chunk")) (by decide) (by decide)))
  have f18_5 : Exa Z h18 a1 "com/example/call_throttle/callthrottle/KeyQueue" := f17_5.wr W18
  have f18_6 : Fld Z h18 b16 "com/example/call_throttle/callthrottle/KeyQueue$Chunk" "keys" "[Ljava/lang/String;" (.ref r1_17) := Fq17_0.other W18 (Or.inl (Ne.symm ne_a1_b16))
  have f18_7 : Exa Z h18 b16 "com/example/call_throttle/callthrottle/KeyQueue$Chunk" := Fq17_1.wr W18
  have f18_8 : Arv Z h18 r1_17 kA_17 (.object "java/lang/String") (1024 : Int32) [.null, .null, .null, .null] .null := Fq17_2.other W18 (Ne.symm ne_a1_r1_17)
  have F18 := f17_0.same W18
  have N18 := Fr.snoc X18 N17 g_a1
  have K18 : Keep h0 h18 [a1] := K17.wr W18 (Or.inl (by simp))
  refine own_step (U' := (T18.setTop (mkF m 15 #[.val (.ref a1)] []))) (fun t ht => st18 _ ht) ?_
  refine own_step (U' := (T18.setTop (mkF m 16 #[.val (.ref a1)] [(.ref a1)]))) (fun t ht => XS.aloadN X18.here hx rfl (hb hby own_d8_15) rfl rfl ht) ?_
  refine own_step (U' := (T18.setTop (mkF m 17 #[.val (.ref a1)] [(.ref a1), (.ref a1)]))) (fun t ht => XS.aloadN X18.here hx rfl (hb hby own_d8_16) rfl rfl ht) ?_
  obtain ⟨T19, X19, e19, st19⟩ := getF X18 hx hZ hown (host := "") (Or.inl (hw _ (List.mem_of_getElem? (i := 54) rfl))) Via.refl e18 F18 (g := (mkF m 17 #[.val (.ref a1)] [(.ref a1), (.ref a1)])) rfl rfl (hb hby own_d8_17)
  refine own_step (U' := (T19.setTop (mkF m 20 #[.val (.ref a1)] [(.ref b16), (.ref a1)]))) (fun t ht => st19 _ ht) ?_
  obtain ⟨T20, h20, X20, e20, W20, st20⟩ := putF X19 hx hZ hown (host := "") (Or.inl (hw _ (List.mem_of_getElem? (i := 56) rfl))) Via.refl e19 f18_1 f18_5 (Or.inl (hw _ (List.mem_of_getElem? (i := 57) rfl))) (hw _ (List.mem_of_getElem? (i := 37) rfl)) (ty := (.object "com/example/call_throttle/callthrottle/KeyQueue$Chunk")) (by decide) rfl rfl (g := (mkF m 20 #[.val (.ref a1)] [(.ref b16), (.ref a1)])) rfl rfl (hb hby own_d8_20)
  have f20_1 : Fld Z h20 a1 "com/example/call_throttle/callthrottle/KeyQueue" "firstIndex" "I" (.int fi) := f18_2.other W20 (Or.inr (slot_ne (Or.inl (hw _ (List.mem_of_getElem? (i := 84) rfl))) (Or.inl (hw _ (List.mem_of_getElem? (i := 57) rfl))) (by decide) (t := .int) (t' := (.object "com/example/call_throttle/callthrottle/KeyQueue$Chunk")) (by decide) (by decide)))
  have f20_2 : Fld Z h20 a1 "com/example/call_throttle/callthrottle/KeyQueue" "lastIndex" "I" (.int li) := f18_3.other W20 (Or.inr (slot_ne (Or.inl (hw _ (List.mem_of_getElem? (i := 76) rfl))) (Or.inl (hw _ (List.mem_of_getElem? (i := 57) rfl))) (by decide) (t := .int) (t' := (.object "com/example/call_throttle/callthrottle/KeyQueue$Chunk")) (by decide) (by decide)))
  have f20_3 : Fld Z h20 a1 "com/example/call_throttle/callthrottle/KeyQueue" "size" "J" (.long sz) := f18_4.other W20 (Or.inr (slot_ne (Or.inl (hw _ (List.mem_of_getElem? (i := 64) rfl))) (Or.inl (hw _ (List.mem_of_getElem? (i := 57) rfl))) (by decide) (t := .long) (t' := (.object "com/example/call_throttle/callthrottle/KeyQueue$Chunk")) (by decide) (by decide)))
  have f20_4 : Exa Z h20 a1 "com/example/call_throttle/callthrottle/KeyQueue" := f18_5.wr W20
  have f20_5 : Fld Z h20 b16 "com/example/call_throttle/callthrottle/KeyQueue$Chunk" "keys" "[Ljava/lang/String;" (.ref r1_17) := f18_6.other W20 (Or.inl (Ne.symm ne_a1_b16))
  have f20_6 : Exa Z h20 b16 "com/example/call_throttle/callthrottle/KeyQueue$Chunk" := f18_7.wr W20
  have f20_7 : Arv Z h20 r1_17 kA_17 (.object "java/lang/String") (1024 : Int32) [.null, .null, .null, .null] .null := f18_8.other W20 (Ne.symm ne_a1_r1_17)
  have f20_8 : Fld Z h20 a1 "com/example/call_throttle/callthrottle/KeyQueue" "first" "Lcom/example/call_throttle/callthrottle/KeyQueue$Chunk;" (.ref b16) := F18.other W20 (Or.inr (slot_ne (Or.inl (hw _ (List.mem_of_getElem? (i := 55) rfl))) (Or.inl (hw _ (List.mem_of_getElem? (i := 57) rfl))) (by decide) (t := (.object "com/example/call_throttle/callthrottle/KeyQueue$Chunk")) (t' := (.object "com/example/call_throttle/callthrottle/KeyQueue$Chunk")) (by decide) (by decide)))
  have F20 := f18_1.same W20
  have N20 := Fr.snoc X20 N18 g_a1
  have K20 : Keep h0 h20 [a1] := K18.wr W20 (Or.inl (by simp))
  refine own_step (U' := (T20.setTop (mkF m 23 #[.val (.ref a1)] []))) (fun t ht => st20 _ ht) ?_
  refine own_ret X20 (v := none) (fun _ => rfl) Bd.notSynchronized (by decide) (by decide) ?_ (fun fs hr => X20.returnOut hx Bd.returns (hb hby own_d8_23) hr)
  show own_Q_kqi Z a1 u1 u2 fi li sz h0 n0 _ T20.heap _
  rw [e20]
  exact ⟨b16, r1_17, kA_17, rfl, N20, K20, sz_b16, sz_r1_17, ne_a1_r1_17, p17_0, p17_1, f20_8, F20, f20_1, f20_2, f20_3, f20_4, f20_5, f20_6, f20_7⟩
theorem own_d12_0 : decode prog_12_method_2_code 0 = .ok (.aload_n 0, 1) := by decide +kernel
theorem own_d12_1 : decode prog_12_method_2_code 1 = .ok (.getfield 19, 3) := by decide +kernel
theorem own_d12_4 : decode prog_12_method_2_code 4 = .ok (.sipush 1024, 3) := by decide +kernel
theorem own_d12_7 : decode prog_12_method_2_code 7 = .ok (.if_icmp .ne 29, 3) := by decide +kernel
theorem own_d12_36 : decode prog_12_method_2_code 36 = .ok (.aload_n 0, 1) := by decide +kernel
theorem own_d12_37 : decode prog_12_method_2_code 37 = .ok (.getfield 16, 3) := by decide +kernel
theorem own_d12_40 : decode prog_12_method_2_code 40 = .ok (.getfield 26, 3) := by decide +kernel
theorem own_d12_43 : decode prog_12_method_2_code 43 = .ok (.aload_n 0, 1) := by decide +kernel
theorem own_d12_44 : decode prog_12_method_2_code 44 = .ok (.dup, 1) := by decide +kernel
theorem own_d12_45 : decode prog_12_method_2_code 45 = .ok (.getfield 19, 3) := by decide +kernel
theorem own_d12_48 : decode prog_12_method_2_code 48 = .ok (.dup_x1, 1) := by decide +kernel
theorem own_d12_49 : decode prog_12_method_2_code 49 = .ok (.iconst 1, 1) := by decide +kernel
theorem own_d12_50 : decode prog_12_method_2_code 50 = .ok (.iadd, 1) := by decide +kernel
theorem own_d12_51 : decode prog_12_method_2_code 51 = .ok (.putfield 19, 3) := by decide +kernel
theorem own_d12_54 : decode prog_12_method_2_code 54 = .ok (.aload_n 1, 1) := by decide +kernel
theorem own_d12_55 : decode prog_12_method_2_code 55 = .ok (.aastore, 1) := by decide +kernel
theorem own_d12_56 : decode prog_12_method_2_code 56 = .ok (.aload_n 0, 1) := by decide +kernel
theorem own_d12_57 : decode prog_12_method_2_code 57 = .ok (.dup, 1) := by decide +kernel
theorem own_d12_58 : decode prog_12_method_2_code 58 = .ok (.getfield 30, 3) := by decide +kernel
theorem own_d12_61 : decode prog_12_method_2_code 61 = .ok (.lconst 1, 1) := by decide +kernel
theorem own_d12_62 : decode prog_12_method_2_code 62 = .ok (.ladd, 1) := by decide +kernel
theorem own_d12_63 : decode prog_12_method_2_code 63 = .ok (.putfield 30, 3) := by decide +kernel
theorem own_d12_66 : decode prog_12_method_2_code 66 = .ok (.return_, 1) := by decide +kernel
def own_Q_add (Z : State) (a1 : Addr) (c1 : Addr) (r1 : Addr) (kA : ClassId) (fi : Int32) (li : Int32) (sz : Int64) (vs : List Value) (s1 : Value) (i1 : Nat) (h0 : Heap) (n0 : Nat) (v : Option Value) (h : Heap) (L : List Loc) : Prop := v = none ∧ Fr n0 L ∧ Keep h0 h [a1, r1] ∧ (Fld Z h a1 "com/example/call_throttle/callthrottle/KeyQueue" "first" "Lcom/example/call_throttle/callthrottle/KeyQueue$Chunk;" (.ref c1)) ∧ (Fld Z h a1 "com/example/call_throttle/callthrottle/KeyQueue" "last" "Lcom/example/call_throttle/callthrottle/KeyQueue$Chunk;" (.ref c1)) ∧ (Fld Z h a1 "com/example/call_throttle/callthrottle/KeyQueue" "firstIndex" "I" (.int fi)) ∧ (Fld Z h a1 "com/example/call_throttle/callthrottle/KeyQueue" "lastIndex" "I" (.int (li + (1 : Int32)))) ∧ (Fld Z h a1 "com/example/call_throttle/callthrottle/KeyQueue" "size" "J" (.long (sz + (1 : Int64)))) ∧ (Exa Z h a1 "com/example/call_throttle/callthrottle/KeyQueue") ∧ (Fld Z h c1 "com/example/call_throttle/callthrottle/KeyQueue$Chunk" "keys" "[Ljava/lang/String;" (.ref r1)) ∧ (Exa Z h c1 "com/example/call_throttle/callthrottle/KeyQueue$Chunk") ∧ (Arv Z h r1 kA (.object "java/lang/String") (1024 : Int32) (vs.set i1 s1) .null)
set_option maxRecDepth 65536 in
set_option maxHeartbeats 40000000 in
theorem own_m_add (l : Launch) (Z : State) (a0 : Array Value) (hw : ∀ d ∈ tables_1, d.before a0 Z = true) (ws : List Jvm.Cond) (a1 : Addr) (c1 : Addr) (r1 : Addr) (kA : ClassId) (fi : Int32) (li : Int32) (sz : Int64) (vs : List Value) (s1 : Value) (i1 : Nat) (h0 : Heap) (n0 : Nat) (Z0 : n0 ≤ h0.size) (g_a1 : n0 ≤ a1) (g_r1 : n0 ≤ r1) (ne_a1_r1 : a1 ≠ r1) (ne_c1_r1 : c1 ≠ r1) (Ff : Fld Z h0 a1 "com/example/call_throttle/callthrottle/KeyQueue" "first" "Lcom/example/call_throttle/callthrottle/KeyQueue$Chunk;" (.ref c1)) (Fl : Fld Z h0 a1 "com/example/call_throttle/callthrottle/KeyQueue" "last" "Lcom/example/call_throttle/callthrottle/KeyQueue$Chunk;" (.ref c1)) (Ffi : Fld Z h0 a1 "com/example/call_throttle/callthrottle/KeyQueue" "firstIndex" "I" (.int fi)) (Fli : Fld Z h0 a1 "com/example/call_throttle/callthrottle/KeyQueue" "lastIndex" "I" (.int li)) (Fsz : Fld Z h0 a1 "com/example/call_throttle/callthrottle/KeyQueue" "size" "J" (.long sz)) (E1 : Exa Z h0 a1 "com/example/call_throttle/callthrottle/KeyQueue") (Fk : Fld Z h0 c1 "com/example/call_throttle/callthrottle/KeyQueue$Chunk" "keys" "[Ljava/lang/String;" (.ref r1)) (E2 : Exa Z h0 c1 "com/example/call_throttle/callthrottle/KeyQueue$Chunk") (V1 : Arv Z h0 r1 kA (.object "java/lang/String") (1024 : Int32) vs .null) (hs1 : own_Key Z h0 s1) (hov : Ovr Z kA "java/lang/String") (hl : ¬ li = 1024) (hb1 : ¬ li < 0) (hb2 : li < 1024) (hi : li.toNatClampNeg = i1) (hi2 : i1 < vs.length) :
    MetFree l (⟨"com/example/call_throttle/callthrottle/KeyQueue", "addLast", "(Ljava/lang/String;)V"⟩ : MethodName) (head1 (Jvm.Cond.code (⟨"com/example/call_throttle/callthrottle/KeyQueue", "addLast", "(Ljava/lang/String;)V"⟩ : MethodName) prog_12_method_2_code 3 none :: ws) ({ frames := 0, cells := 0, slots := 0, locals := 0 } : Room)) (fun a U => a = #[(.ref a1), s1] ∧ Z.Warmed39 U.vm ∧ U.heap = h0) (fun _ _ _ _ _ => True) (fun _ U o U' => ∃ v L, o = .returned v ∧ own_Q_add Z a1 c1 r1 kA fi li sz vs s1 i1 h0 n0 v U'.heap L ∧ FrameEnd U o U' L ({ frames := 0, cells := 0, slots := 0, locals := 0 } : Room).cells ({ frames := 0, cells := 0, slots := 0, locals := 0 } : Room).slots) := by
  refine MetFree.of_bodySF (plainFor_of_name own_pn3) hisR ?_
  intro p e s m args below meth c s₁ Bd hml0 hP hK
  obtain ⟨rfl, hZ, hh⟩ := hP
  have hx := Bd.exec
  have hby := Bd.bytes
  have hml : c.maxLocals = 3 := hml0
  have hown : s.vm.findClass "com/example/call_throttle/callthrottle/KeyQueue" = some m.cls := findClass_of_methodNamed Bd.named
  have hnm := (name_of_methodNamed Bd.named Bd.method).1
  have X0 : Stand p l e ({ frames := 0, cells := 0, slots := 0, locals := 0 } : Room) s m #[(.ref a1), s1] below meth c s₁ [] 0 0 := Stand.of_body Bd
  have e0 : s₁.heap = h0 := by rw [← hh, Bd.state]; rfl
  have N0 := Fr.nil n0
  have K0 : Keep h0 h0 [a1, r1] := Keep.refl _ _
  show own_Go p e below s ({ frames := 0, cells := 0, slots := 0, locals := 0 } : Room).cells ({ frames := 0, cells := 0, slots := 0, locals := 0 } : Room).slots (own_Q_add Z a1 c1 r1 kA fi li sz vs s1 i1 h0 n0) (s₁.setTop (entryFrame m #[(.ref a1), s1] 3))
  have ef : entryFrame m #[(.ref a1), s1] 3 = (mkF m 0 #[.val (.ref a1), .val s1, .unset] []) := by first | rfl | (rcases XT.refc (hs1.isRef) with rfl | ⟨_, rfl⟩ <;> rfl) | (simp [entryFrame, mkF, argsToLocals, Value.category, maxLocals]; done)
  rw [ef]
  show own_Go p e below s _ _ _ (s₁.setTop (mkF m 0 #[.val (.ref a1), .val s1, .unset] []))
  refine own_step (U' := (s₁.setTop (mkF m 1 #[.val (.ref a1), .val s1, .unset] [(.ref a1)]))) (fun t ht => XS.aloadN X0.here hx rfl (hb hby own_d12_0) rfl rfl ht) ?_
  obtain ⟨T21, X21, e21, st21⟩ := getF X0 hx hZ hown (host := "") (Or.inl (hw _ (List.mem_of_getElem? (i := 75) rfl))) Via.refl e0 Fli (g := (mkF m 1 #[.val (.ref a1), .val s1, .unset] [(.ref a1)])) rfl rfl (hb hby own_d12_1)
  refine own_step (U' := (T21.setTop (mkF m 4 #[.val (.ref a1), .val s1, .unset] [(.int li)]))) (fun t ht => st21 _ ht) ?_
  refine own_step (U' := (T21.setTop (mkF m 7 #[.val (.ref a1), .val s1, .unset] [(.int (1024 : Int32)), (.int li)]))) (fun t ht => XS.sipush X21.here hx rfl (hb hby own_d12_4) ht) ?_
  refine own_step (U' := (T21.setTop (mkF m 36 #[.val (.ref a1), .val s1, .unset] []))) (fun t ht => XS.icmpYes X21.here hx rfl (pc0 := 7) (pc' := 36) rfl (hb hby own_d12_7) rfl (XT.ii_ne_t (hl : ¬ (li = (1024 : Int32)))) (by decide) (by decide) ht) ?_
  refine own_step (U' := (T21.setTop (mkF m 37 #[.val (.ref a1), .val s1, .unset] [(.ref a1)]))) (fun t ht => XS.aloadN X21.here hx rfl (hb hby own_d12_36) rfl rfl ht) ?_
  obtain ⟨T22, X22, e22, st22⟩ := getF X21 hx hZ hown (host := "") (Or.inl (hw _ (List.mem_of_getElem? (i := 56) rfl))) Via.refl e21 Fl (g := (mkF m 37 #[.val (.ref a1), .val s1, .unset] [(.ref a1)])) rfl rfl (hb hby own_d12_37)
  refine own_step (U' := (T22.setTop (mkF m 40 #[.val (.ref a1), .val s1, .unset] [(.ref c1)]))) (fun t ht => st22 _ ht) ?_
  obtain ⟨T23, X23, e23, st23⟩ := getF X22 hx hZ hown (host := "") (Or.inl (hw _ (List.mem_of_getElem? (i := 77) rfl))) Via.refl e22 Fk (g := (mkF m 40 #[.val (.ref a1), .val s1, .unset] [(.ref c1)])) rfl rfl (hb hby own_d12_40)
  refine own_step (U' := (T23.setTop (mkF m 43 #[.val (.ref a1), .val s1, .unset] [(.ref r1)]))) (fun t ht => st23 _ ht) ?_
  refine own_step (U' := (T23.setTop (mkF m 44 #[.val (.ref a1), .val s1, .unset] [(.ref a1), (.ref r1)]))) (fun t ht => XS.aloadN X23.here hx rfl (hb hby own_d12_43) rfl rfl ht) ?_
  refine own_step (U' := (T23.setTop (mkF m 45 #[.val (.ref a1), .val s1, .unset] [(.ref a1), (.ref a1), (.ref r1)]))) (fun t ht => XS.dup X23.here hx rfl (hb hby own_d12_44) rfl rfl ht) ?_
  obtain ⟨T24, X24, e24, st24⟩ := getF X23 hx hZ hown (host := "") (Or.inl (hw _ (List.mem_of_getElem? (i := 75) rfl))) Via.refl e23 Fli (g := (mkF m 45 #[.val (.ref a1), .val s1, .unset] [(.ref a1), (.ref a1), (.ref r1)])) rfl rfl (hb hby own_d12_45)
  refine own_step (U' := (T24.setTop (mkF m 48 #[.val (.ref a1), .val s1, .unset] [(.int li), (.ref a1), (.ref r1)]))) (fun t ht => st24 _ ht) ?_
  refine own_step (U' := (T24.setTop (mkF m 49 #[.val (.ref a1), .val s1, .unset] [(.int li), (.ref a1), (.int li), (.ref r1)]))) (fun t ht => XT.dupX1 X24.here hx rfl (hb hby own_d12_48) rfl rfl rfl ht) ?_
  refine own_step (U' := (T24.setTop (mkF m 50 #[.val (.ref a1), .val s1, .unset] [(.int (1 : Int32)), (.int li), (.ref a1), (.int li), (.ref r1)]))) (fun t ht => XS.iconst X24.here hx rfl (hb hby own_d12_49) ht) ?_
  refine own_step (U' := (T24.setTop (mkF m 51 #[.val (.ref a1), .val s1, .unset] [(.int (li + (1 : Int32))), (.ref a1), (.int li), (.ref r1)]))) (fun t ht => XS.iadd X24.here hx rfl (hb hby own_d12_50) rfl ht) ?_
  obtain ⟨T25, h25, X25, e25, W25, st25⟩ := putF X24 hx hZ hown (host := "") (Or.inl (hw _ (List.mem_of_getElem? (i := 75) rfl))) Via.refl e24 Fli E1 (Or.inl (hw _ (List.mem_of_getElem? (i := 76) rfl))) (hw _ (List.mem_of_getElem? (i := 37) rfl)) (ty := .int) (by decide) rfl rfl (g := (mkF m 51 #[.val (.ref a1), .val s1, .unset] [(.int (li + (1 : Int32))), (.ref a1), (.int li), (.ref r1)])) rfl rfl (hb hby own_d12_51)
  have f25_0 : Fld Z h25 a1 "com/example/call_throttle/callthrottle/KeyQueue" "first" "Lcom/example/call_throttle/callthrottle/KeyQueue$Chunk;" (.ref c1) := Ff.other W25 (Or.inr (slot_ne (Or.inl (hw _ (List.mem_of_getElem? (i := 55) rfl))) (Or.inl (hw _ (List.mem_of_getElem? (i := 76) rfl))) (by decide) (t := (.object "com/example/call_throttle/callthrottle/KeyQueue$Chunk")) (t' := .int) (by decide) (by decide)))
  have f25_1 : Fld Z h25 a1 "com/example/call_throttle/callthrottle/KeyQueue" "last" "Lcom/example/call_throttle/callthrottle/KeyQueue$Chunk;" (.ref c1) := Fl.other W25 (Or.inr (slot_ne (Or.inl (hw _ (List.mem_of_getElem? (i := 57) rfl))) (Or.inl (hw _ (List.mem_of_getElem? (i := 76) rfl))) (by decide) (t := (.object "com/example/call_throttle/callthrottle/KeyQueue$Chunk")) (t' := .int) (by decide) (by decide)))
  have f25_2 : Fld Z h25 a1 "com/example/call_throttle/callthrottle/KeyQueue" "firstIndex" "I" (.int fi) := Ffi.other W25 (Or.inr (slot_ne (Or.inl (hw _ (List.mem_of_getElem? (i := 84) rfl))) (Or.inl (hw _ (List.mem_of_getElem? (i := 76) rfl))) (by decide) (t := .int) (t' := .int) (by decide) (by decide)))
  have f25_4 : Fld Z h25 a1 "com/example/call_throttle/callthrottle/KeyQueue" "size" "J" (.long sz) := Fsz.other W25 (Or.inr (slot_ne (Or.inl (hw _ (List.mem_of_getElem? (i := 64) rfl))) (Or.inl (hw _ (List.mem_of_getElem? (i := 76) rfl))) (by decide) (t := .long) (t' := .int) (by decide) (by decide)))
  have f25_5 : Exa Z h25 a1 "com/example/call_throttle/callthrottle/KeyQueue" := E1.wr W25
  have f25_6 : Fld Z h25 c1 "com/example/call_throttle/callthrottle/KeyQueue$Chunk" "keys" "[Ljava/lang/String;" (.ref r1) := Fk.other W25 (Or.inl (ne_exa E2 E1 (by decide)))
  have f25_7 : Exa Z h25 c1 "com/example/call_throttle/callthrottle/KeyQueue$Chunk" := E2.wr W25
  have f25_8 : Arv Z h25 r1 kA (.object "java/lang/String") (1024 : Int32) vs .null := V1.other W25 (Ne.symm ne_a1_r1)
  have f25_9 : own_Key Z h25 s1 := hs1.wr W25
  have F25 := Fli.same W25
  have N25 := Fr.snoc X25 N0 g_a1
  have K25 : Keep h0 h25 [a1, r1] := K0.wr W25 (Or.inl (by simp))
  refine own_step (U' := (T25.setTop (mkF m 54 #[.val (.ref a1), .val s1, .unset] [(.int li), (.ref r1)]))) (fun t ht => st25 _ ht) ?_
  refine own_step (U' := (T25.setTop (mkF m 55 #[.val (.ref a1), .val s1, .unset] [s1, (.int li), (.ref r1)]))) (fun t ht => XS.aloadN X25.here hx rfl (hb hby own_d12_54) rfl hs1.isRef ht) ?_
  obtain ⟨cl26, Ar26, q26, S26, N26_, H26, G26⟩ := (id f25_8)
  have hin26 : ¬ (li < 0 ∨ cl26.slots.size ≤ (li).toNatClampNeg) := inb_of S26 ⟨hb1, hb2⟩
  obtain ⟨T26, h26, X26, e26, W26, st26⟩ := stR X25 hx hZ e25 Ar26 (j := li) hin26 rfl (f25_9.sto Ar26 q26 hov) (g := (mkF m 55 #[.val (.ref a1), .val s1, .unset] [s1, (.int li), (.ref r1)])) rfl rfl (hb hby own_d12_55)
  have f26_0 : Fld Z h26 a1 "com/example/call_throttle/callthrottle/KeyQueue" "first" "Lcom/example/call_throttle/callthrottle/KeyQueue$Chunk;" (.ref c1) := f25_0.other W26 (Or.inl ne_a1_r1)
  have f26_1 : Fld Z h26 a1 "com/example/call_throttle/callthrottle/KeyQueue" "last" "Lcom/example/call_throttle/callthrottle/KeyQueue$Chunk;" (.ref c1) := f25_1.other W26 (Or.inl ne_a1_r1)
  have f26_2 : Fld Z h26 a1 "com/example/call_throttle/callthrottle/KeyQueue" "firstIndex" "I" (.int fi) := f25_2.other W26 (Or.inl ne_a1_r1)
  have f26_3 : Fld Z h26 a1 "com/example/call_throttle/callthrottle/KeyQueue" "size" "J" (.long sz) := f25_4.other W26 (Or.inl ne_a1_r1)
  have f26_4 : Exa Z h26 a1 "com/example/call_throttle/callthrottle/KeyQueue" := f25_5.wr W26
  have f26_5 : Fld Z h26 c1 "com/example/call_throttle/callthrottle/KeyQueue$Chunk" "keys" "[Ljava/lang/String;" (.ref r1) := f25_6.other W26 (Or.inl ne_c1_r1)
  have f26_6 : Exa Z h26 c1 "com/example/call_throttle/callthrottle/KeyQueue$Chunk" := f25_7.wr W26
  have f26_8 : own_Key Z h26 s1 := f25_9.wr W26
  have f26_9 : Fld Z h26 a1 "com/example/call_throttle/callthrottle/KeyQueue" "lastIndex" "I" (.int (li + (1 : Int32))) := F25.other W26 (Or.inl ne_a1_r1)
  have V26 : Arv Z h26 r1 kA (.object "java/lang/String") (1024 : Int32) (vs.set i1 s1) .null := Arv.set Ar26 q26 S26 N26_ H26 G26 (own_fitR hs1.isRef) W26 i1 hi hi2
  have N26 := Fr.snoc X26 N25 g_r1
  have K26 : Keep h0 h26 [a1, r1] := K25.wr W26 (Or.inl (by simp))
  refine own_step (U' := (T26.setTop (mkF m 56 #[.val (.ref a1), .val s1, .unset] []))) (fun t ht => st26 _ ht) ?_
  refine own_step (U' := (T26.setTop (mkF m 57 #[.val (.ref a1), .val s1, .unset] [(.ref a1)]))) (fun t ht => XS.aloadN X26.here hx rfl (hb hby own_d12_56) rfl rfl ht) ?_
  refine own_step (U' := (T26.setTop (mkF m 58 #[.val (.ref a1), .val s1, .unset] [(.ref a1), (.ref a1)]))) (fun t ht => XS.dup X26.here hx rfl (hb hby own_d12_57) rfl rfl ht) ?_
  obtain ⟨T27, X27, e27, st27⟩ := getF X26 hx hZ hown (host := "") (Or.inl (hw _ (List.mem_of_getElem? (i := 63) rfl))) Via.refl e26 f26_3 (g := (mkF m 58 #[.val (.ref a1), .val s1, .unset] [(.ref a1), (.ref a1)])) rfl rfl (hb hby own_d12_58)
  refine own_step (U' := (T27.setTop (mkF m 61 #[.val (.ref a1), .val s1, .unset] [(.long sz), (.ref a1)]))) (fun t ht => st27 _ ht) ?_
  refine own_step (U' := (T27.setTop (mkF m 62 #[.val (.ref a1), .val s1, .unset] [(.long (1 : Int64)), (.long sz), (.ref a1)]))) (fun t ht => XT.lconstV X27.here hx rfl (1 : Int64) (hb hby own_d12_61) rfl ht) ?_
  refine own_step (U' := (T27.setTop (mkF m 63 #[.val (.ref a1), .val s1, .unset] [(.long (sz + (1 : Int64))), (.ref a1)]))) (fun t ht => XT.ladd X27.here hx rfl (hb hby own_d12_62) rfl ht) ?_
  obtain ⟨T28, h28, X28, e28, W28, st28⟩ := putF X27 hx hZ hown (host := "") (Or.inl (hw _ (List.mem_of_getElem? (i := 63) rfl))) Via.refl e27 f26_3 f26_4 (Or.inl (hw _ (List.mem_of_getElem? (i := 64) rfl))) (hw _ (List.mem_of_getElem? (i := 37) rfl)) (ty := .long) (by decide) rfl rfl (g := (mkF m 63 #[.val (.ref a1), .val s1, .unset] [(.long (sz + (1 : Int64))), (.ref a1)])) rfl rfl (hb hby own_d12_63)
  have f28_0 : Fld Z h28 a1 "com/example/call_throttle/callthrottle/KeyQueue" "first" "Lcom/example/call_throttle/callthrottle/KeyQueue$Chunk;" (.ref c1) := f26_0.other W28 (Or.inr (slot_ne (Or.inl (hw _ (List.mem_of_getElem? (i := 55) rfl))) (Or.inl (hw _ (List.mem_of_getElem? (i := 64) rfl))) (by decide) (t := (.object "com/example/call_throttle/callthrottle/KeyQueue$Chunk")) (t' := .long) (by decide) (by decide)))
  have f28_1 : Fld Z h28 a1 "com/example/call_throttle/callthrottle/KeyQueue" "last" "Lcom/example/call_throttle/callthrottle/KeyQueue$Chunk;" (.ref c1) := f26_1.other W28 (Or.inr (slot_ne (Or.inl (hw _ (List.mem_of_getElem? (i := 57) rfl))) (Or.inl (hw _ (List.mem_of_getElem? (i := 64) rfl))) (by decide) (t := (.object "com/example/call_throttle/callthrottle/KeyQueue$Chunk")) (t' := .long) (by decide) (by decide)))
  have f28_2 : Fld Z h28 a1 "com/example/call_throttle/callthrottle/KeyQueue" "firstIndex" "I" (.int fi) := f26_2.other W28 (Or.inr (slot_ne (Or.inl (hw _ (List.mem_of_getElem? (i := 84) rfl))) (Or.inl (hw _ (List.mem_of_getElem? (i := 64) rfl))) (by decide) (t := .int) (t' := .long) (by decide) (by decide)))
  have f28_4 : Exa Z h28 a1 "com/example/call_throttle/callthrottle/KeyQueue" := f26_4.wr W28
  have f28_5 : Fld Z h28 c1 "com/example/call_throttle/callthrottle/KeyQueue$Chunk" "keys" "[Ljava/lang/String;" (.ref r1) := f26_5.other W28 (Or.inl (ne_exa f26_6 f26_4 (by decide)))
  have f28_6 : Exa Z h28 c1 "com/example/call_throttle/callthrottle/KeyQueue$Chunk" := f26_6.wr W28
  have f28_7 : own_Key Z h28 s1 := f26_8.wr W28
  have f28_8 : Fld Z h28 a1 "com/example/call_throttle/callthrottle/KeyQueue" "lastIndex" "I" (.int (li + (1 : Int32))) := f26_9.other W28 (Or.inr (slot_ne (Or.inl (hw _ (List.mem_of_getElem? (i := 76) rfl))) (Or.inl (hw _ (List.mem_of_getElem? (i := 64) rfl))) (by decide) (t := .int) (t' := .long) (by decide) (by decide)))
  have f28_9 : Arv Z h28 r1 kA (.object "java/lang/String") (1024 : Int32) (vs.set i1 s1) .null := V26.other W28 (Ne.symm ne_a1_r1)
  have F28 := f26_3.same W28
  have N28 := Fr.snoc X28 N26 g_a1
  have K28 : Keep h0 h28 [a1, r1] := K26.wr W28 (Or.inl (by simp))
  refine own_step (U' := (T28.setTop (mkF m 66 #[.val (.ref a1), .val s1, .unset] []))) (fun t ht => st28 _ ht) ?_
  refine own_ret X28 (v := none) (fun _ => rfl) Bd.notSynchronized (by decide) (by decide) ?_ (fun fs hr => X28.returnOut hx Bd.returns (hb hby own_d12_66) hr)
  show own_Q_add Z a1 c1 r1 kA fi li sz vs s1 i1 h0 n0 _ T28.heap _
  rw [e28]
  exact ⟨rfl, N28, K28, f28_0, f28_1, f28_2, f28_8, F28, f28_4, f28_5, f28_6, f28_9⟩
theorem own_d13_0 : decode prog_12_method_3_code 0 = .ok (.aload_n 0, 1) := by decide +kernel
theorem own_d13_1 : decode prog_12_method_3_code 1 = .ok (.getfield 30, 3) := by decide +kernel
theorem own_d13_4 : decode prog_12_method_3_code 4 = .ok (.lconst 0, 1) := by decide +kernel
theorem own_d13_5 : decode prog_12_method_3_code 5 = .ok (.lcmp, 1) := by decide +kernel
theorem own_d13_6 : decode prog_12_method_3_code 6 = .ok (.ifCond .ne 11, 3) := by decide +kernel
theorem own_d13_17 : decode prog_12_method_3_code 17 = .ok (.aload_n 0, 1) := by decide +kernel
theorem own_d13_18 : decode prog_12_method_3_code 18 = .ok (.getfield 37, 3) := by decide +kernel
theorem own_d13_21 : decode prog_12_method_3_code 21 = .ok (.sipush 1024, 3) := by decide +kernel
theorem own_d13_24 : decode prog_12_method_3_code 24 = .ok (.if_icmp .ne 19, 3) := by decide +kernel
theorem own_d13_43 : decode prog_12_method_3_code 43 = .ok (.aload_n 0, 1) := by decide +kernel
theorem own_d13_44 : decode prog_12_method_3_code 44 = .ok (.getfield 10, 3) := by decide +kernel
theorem own_d13_47 : decode prog_12_method_3_code 47 = .ok (.getfield 26, 3) := by decide +kernel
theorem own_d13_50 : decode prog_12_method_3_code 50 = .ok (.aload_n 0, 1) := by decide +kernel
theorem own_d13_51 : decode prog_12_method_3_code 51 = .ok (.getfield 37, 3) := by decide +kernel
theorem own_d13_54 : decode prog_12_method_3_code 54 = .ok (.aaload, 1) := by decide +kernel
theorem own_d13_55 : decode prog_12_method_3_code 55 = .ok (.astore_n 1, 1) := by decide +kernel
theorem own_d13_56 : decode prog_12_method_3_code 56 = .ok (.aload_n 0, 1) := by decide +kernel
theorem own_d13_57 : decode prog_12_method_3_code 57 = .ok (.getfield 10, 3) := by decide +kernel
theorem own_d13_60 : decode prog_12_method_3_code 60 = .ok (.getfield 26, 3) := by decide +kernel
theorem own_d13_63 : decode prog_12_method_3_code 63 = .ok (.aload_n 0, 1) := by decide +kernel
theorem own_d13_64 : decode prog_12_method_3_code 64 = .ok (.dup, 1) := by decide +kernel
theorem own_d13_65 : decode prog_12_method_3_code 65 = .ok (.getfield 37, 3) := by decide +kernel
theorem own_d13_68 : decode prog_12_method_3_code 68 = .ok (.dup_x1, 1) := by decide +kernel
theorem own_d13_69 : decode prog_12_method_3_code 69 = .ok (.iconst 1, 1) := by decide +kernel
theorem own_d13_70 : decode prog_12_method_3_code 70 = .ok (.iadd, 1) := by decide +kernel
theorem own_d13_71 : decode prog_12_method_3_code 71 = .ok (.putfield 37, 3) := by decide +kernel
theorem own_d13_74 : decode prog_12_method_3_code 74 = .ok (.aconst_null, 1) := by decide +kernel
theorem own_d13_75 : decode prog_12_method_3_code 75 = .ok (.aastore, 1) := by decide +kernel
theorem own_d13_76 : decode prog_12_method_3_code 76 = .ok (.aload_n 0, 1) := by decide +kernel
theorem own_d13_77 : decode prog_12_method_3_code 77 = .ok (.dup, 1) := by decide +kernel
theorem own_d13_78 : decode prog_12_method_3_code 78 = .ok (.getfield 30, 3) := by decide +kernel
theorem own_d13_81 : decode prog_12_method_3_code 81 = .ok (.lconst 1, 1) := by decide +kernel
theorem own_d13_82 : decode prog_12_method_3_code 82 = .ok (.lsub, 1) := by decide +kernel
theorem own_d13_83 : decode prog_12_method_3_code 83 = .ok (.putfield 30, 3) := by decide +kernel
theorem own_d13_86 : decode prog_12_method_3_code 86 = .ok (.aload_n 1, 1) := by decide +kernel
theorem own_d13_87 : decode prog_12_method_3_code 87 = .ok (.areturn, 1) := by decide +kernel
def own_Q_rem (Z : State) (a1 : Addr) (c1 : Addr) (r1 : Addr) (kA : ClassId) (fi : Int32) (li : Int32) (sz : Int64) (vs : List Value) (u1 : Value) (j1 : Nat) (h0 : Heap) (n0 : Nat) (v : Option Value) (h : Heap) (L : List Loc) : Prop := v = some u1 ∧ Fr n0 L ∧ Keep h0 h [a1, r1] ∧ (Fld Z h a1 "com/example/call_throttle/callthrottle/KeyQueue" "first" "Lcom/example/call_throttle/callthrottle/KeyQueue$Chunk;" (.ref c1)) ∧ (Fld Z h a1 "com/example/call_throttle/callthrottle/KeyQueue" "last" "Lcom/example/call_throttle/callthrottle/KeyQueue$Chunk;" (.ref c1)) ∧ (Fld Z h a1 "com/example/call_throttle/callthrottle/KeyQueue" "firstIndex" "I" (.int (fi + (1 : Int32)))) ∧ (Fld Z h a1 "com/example/call_throttle/callthrottle/KeyQueue" "lastIndex" "I" (.int li)) ∧ (Fld Z h a1 "com/example/call_throttle/callthrottle/KeyQueue" "size" "J" (.long (sz - (1 : Int64)))) ∧ (Exa Z h a1 "com/example/call_throttle/callthrottle/KeyQueue") ∧ (Fld Z h c1 "com/example/call_throttle/callthrottle/KeyQueue$Chunk" "keys" "[Ljava/lang/String;" (.ref r1)) ∧ (Exa Z h c1 "com/example/call_throttle/callthrottle/KeyQueue$Chunk") ∧ (Arv Z h r1 kA (.object "java/lang/String") (1024 : Int32) (vs.set j1 .null) .null)
set_option maxRecDepth 65536 in
set_option maxHeartbeats 40000000 in
theorem own_m_rem (l : Launch) (Z : State) (a0 : Array Value) (hw : ∀ d ∈ tables_1, d.before a0 Z = true) (ws : List Jvm.Cond) (a1 : Addr) (c1 : Addr) (r1 : Addr) (kA : ClassId) (fi : Int32) (li : Int32) (sz : Int64) (vs : List Value) (u1 : Value) (j1 : Nat) (h0 : Heap) (n0 : Nat) (Z0 : n0 ≤ h0.size) (g_a1 : n0 ≤ a1) (g_r1 : n0 ≤ r1) (ne_a1_r1 : a1 ≠ r1) (ne_c1_r1 : c1 ≠ r1) (Ff : Fld Z h0 a1 "com/example/call_throttle/callthrottle/KeyQueue" "first" "Lcom/example/call_throttle/callthrottle/KeyQueue$Chunk;" (.ref c1)) (Fl : Fld Z h0 a1 "com/example/call_throttle/callthrottle/KeyQueue" "last" "Lcom/example/call_throttle/callthrottle/KeyQueue$Chunk;" (.ref c1)) (Ffi : Fld Z h0 a1 "com/example/call_throttle/callthrottle/KeyQueue" "firstIndex" "I" (.int fi)) (Fli : Fld Z h0 a1 "com/example/call_throttle/callthrottle/KeyQueue" "lastIndex" "I" (.int li)) (Fsz : Fld Z h0 a1 "com/example/call_throttle/callthrottle/KeyQueue" "size" "J" (.long sz)) (E1 : Exa Z h0 a1 "com/example/call_throttle/callthrottle/KeyQueue") (Fk : Fld Z h0 c1 "com/example/call_throttle/callthrottle/KeyQueue$Chunk" "keys" "[Ljava/lang/String;" (.ref r1)) (E2 : Exa Z h0 c1 "com/example/call_throttle/callthrottle/KeyQueue$Chunk") (V1 : Arv Z h0 r1 kA (.object "java/lang/String") (1024 : Int32) vs .null) (hsz : ¬ sz = 0) (hf : ¬ fi = 1024) (hb1 : ¬ fi < 0) (hb2 : fi < 1024) (hj : fi.toNatClampNeg = j1) (hj2 : j1 < vs.length) (hu : vs.getD fi.toNatClampNeg .null = u1) (hur : u1.isRef = true) :
    MetFree l (⟨"com/example/call_throttle/callthrottle/KeyQueue", "removeFirst", "()Ljava/lang/String;"⟩ : MethodName) (head1 (Jvm.Cond.code (⟨"com/example/call_throttle/callthrottle/KeyQueue", "removeFirst", "()Ljava/lang/String;"⟩ : MethodName) prog_12_method_3_code 2 (some (.object "java/lang/String")) :: ws) ({ frames := 0, cells := 0, slots := 0, locals := 0 } : Room)) (fun a U => a = #[(.ref a1)] ∧ Z.Warmed39 U.vm ∧ U.heap = h0) (fun _ _ _ _ _ => True) (fun _ U o U' => ∃ v L, o = .returned v ∧ own_Q_rem Z a1 c1 r1 kA fi li sz vs u1 j1 h0 n0 v U'.heap L ∧ FrameEnd U o U' L ({ frames := 0, cells := 0, slots := 0, locals := 0 } : Room).cells ({ frames := 0, cells := 0, slots := 0, locals := 0 } : Room).slots) := by
  refine MetFree.of_bodySF (plainFor_of_name own_pn3) hisR ?_
  intro p e s m args below meth c s₁ Bd hml0 hP hK
  obtain ⟨rfl, hZ, hh⟩ := hP
  have hx := Bd.exec
  have hby := Bd.bytes
  have hml : c.maxLocals = 2 := hml0
  have hown : s.vm.findClass "com/example/call_throttle/callthrottle/KeyQueue" = some m.cls := findClass_of_methodNamed Bd.named
  have hnm := (name_of_methodNamed Bd.named Bd.method).1
  have X0 : Stand p l e ({ frames := 0, cells := 0, slots := 0, locals := 0 } : Room) s m #[(.ref a1)] below meth c s₁ [] 0 0 := Stand.of_body Bd
  have e0 : s₁.heap = h0 := by rw [← hh, Bd.state]; rfl
  have N0 := Fr.nil n0
  have K0 : Keep h0 h0 [a1, r1] := Keep.refl _ _
  show own_Go p e below s ({ frames := 0, cells := 0, slots := 0, locals := 0 } : Room).cells ({ frames := 0, cells := 0, slots := 0, locals := 0 } : Room).slots (own_Q_rem Z a1 c1 r1 kA fi li sz vs u1 j1 h0 n0) (s₁.setTop (entryFrame m #[(.ref a1)] 2))
  have ef : entryFrame m #[(.ref a1)] 2 = (mkF m 0 #[.val (.ref a1), .unset] []) := by first | rfl | (simp [entryFrame, mkF, argsToLocals, Value.category, maxLocals]; done)
  rw [ef]
  show own_Go p e below s _ _ _ (s₁.setTop (mkF m 0 #[.val (.ref a1), .unset] []))
  refine own_step (U' := (s₁.setTop (mkF m 1 #[.val (.ref a1), .unset] [(.ref a1)]))) (fun t ht => XS.aloadN X0.here hx rfl (hb hby own_d13_0) rfl rfl ht) ?_
  obtain ⟨T29, X29, e29, st29⟩ := getF X0 hx hZ hown (host := "") (Or.inl (hw _ (List.mem_of_getElem? (i := 63) rfl))) Via.refl e0 Fsz (g := (mkF m 1 #[.val (.ref a1), .unset] [(.ref a1)])) rfl rfl (hb hby own_d13_1)
  refine own_step (U' := (T29.setTop (mkF m 4 #[.val (.ref a1), .unset] [(.long sz)]))) (fun t ht => st29 _ ht) ?_
  refine own_step (U' := (T29.setTop (mkF m 5 #[.val (.ref a1), .unset] [(.long (0 : Int64)), (.long sz)]))) (fun t ht => XT.lconstV X29.here hx rfl (0 : Int64) (hb hby own_d13_4) rfl ht) ?_
  refine own_step (U' := (T29.setTop (mkF m 6 #[.val (.ref a1), .unset] [(.int (XT.cmpL sz (0 : Int64)))]))) (fun t ht => XT.lcmp X29.here hx rfl (hb hby own_d13_5) rfl ht) ?_
  refine own_step (U' := (T29.setTop (mkF m 17 #[.val (.ref a1), .unset] []))) (fun t ht => XS.ifYes X29.here hx rfl (pc0 := 6) (pc' := 17) rfl (hb hby own_d13_6) rfl (XT.ll_ne_t (hsz : ¬ (sz = (0 : Int64)))) (by decide) (by decide) ht) ?_
  refine own_step (U' := (T29.setTop (mkF m 18 #[.val (.ref a1), .unset] [(.ref a1)]))) (fun t ht => XS.aloadN X29.here hx rfl (hb hby own_d13_17) rfl rfl ht) ?_
  obtain ⟨T30, X30, e30, st30⟩ := getF X29 hx hZ hown (host := "") (Or.inl (hw _ (List.mem_of_getElem? (i := 83) rfl))) Via.refl e29 Ffi (g := (mkF m 18 #[.val (.ref a1), .unset] [(.ref a1)])) rfl rfl (hb hby own_d13_18)
  refine own_step (U' := (T30.setTop (mkF m 21 #[.val (.ref a1), .unset] [(.int fi)]))) (fun t ht => st30 _ ht) ?_
  refine own_step (U' := (T30.setTop (mkF m 24 #[.val (.ref a1), .unset] [(.int (1024 : Int32)), (.int fi)]))) (fun t ht => XS.sipush X30.here hx rfl (hb hby own_d13_21) ht) ?_
  refine own_step (U' := (T30.setTop (mkF m 43 #[.val (.ref a1), .unset] []))) (fun t ht => XS.icmpYes X30.here hx rfl (pc0 := 24) (pc' := 43) rfl (hb hby own_d13_24) rfl (XT.ii_ne_t (hf : ¬ (fi = (1024 : Int32)))) (by decide) (by decide) ht) ?_
  refine own_step (U' := (T30.setTop (mkF m 44 #[.val (.ref a1), .unset] [(.ref a1)]))) (fun t ht => XS.aloadN X30.here hx rfl (hb hby own_d13_43) rfl rfl ht) ?_
  obtain ⟨T31, X31, e31, st31⟩ := getF X30 hx hZ hown (host := "") (Or.inl (hw _ (List.mem_of_getElem? (i := 54) rfl))) Via.refl e30 Ff (g := (mkF m 44 #[.val (.ref a1), .unset] [(.ref a1)])) rfl rfl (hb hby own_d13_44)
  refine own_step (U' := (T31.setTop (mkF m 47 #[.val (.ref a1), .unset] [(.ref c1)]))) (fun t ht => st31 _ ht) ?_
  obtain ⟨T32, X32, e32, st32⟩ := getF X31 hx hZ hown (host := "") (Or.inl (hw _ (List.mem_of_getElem? (i := 77) rfl))) Via.refl e31 Fk (g := (mkF m 47 #[.val (.ref a1), .unset] [(.ref c1)])) rfl rfl (hb hby own_d13_47)
  refine own_step (U' := (T32.setTop (mkF m 50 #[.val (.ref a1), .unset] [(.ref r1)]))) (fun t ht => st32 _ ht) ?_
  refine own_step (U' := (T32.setTop (mkF m 51 #[.val (.ref a1), .unset] [(.ref a1), (.ref r1)]))) (fun t ht => XS.aloadN X32.here hx rfl (hb hby own_d13_50) rfl rfl ht) ?_
  obtain ⟨T33, X33, e33, st33⟩ := getF X32 hx hZ hown (host := "") (Or.inl (hw _ (List.mem_of_getElem? (i := 83) rfl))) Via.refl e32 Ffi (g := (mkF m 51 #[.val (.ref a1), .unset] [(.ref a1), (.ref r1)])) rfl rfl (hb hby own_d13_51)
  refine own_step (U' := (T33.setTop (mkF m 54 #[.val (.ref a1), .unset] [(.int fi), (.ref r1)]))) (fun t ht => st33 _ ht) ?_
  obtain ⟨cl34, Ar34, q34, S34, N34_, H34, G34⟩ := (id V1)
  have hin34 : ¬ (fi < 0 ∨ cl34.slots.size ≤ (fi).toNatClampNeg) := inb_of S34 ⟨hb1, hb2⟩
  have hat34 : cl34.slots[(fi).toNatClampNeg]? = some u1 := Has.at H34 hin34 hu
  refine own_step (U' := (T33.setTop (mkF m 55 #[.val (.ref a1), .unset] [u1]))) (fun t ht => X33.aaload hx (j := fi) (v := u1) (own_at e33 Ar34.1) (State.isArrayOf_alike hZ.alike Ar34.2.1) rfl Ar34.2.2 hin34 hat34 (g := (mkF m 54 #[.val (.ref a1), .unset] [(.int fi), (.ref r1)])) rfl rfl (hb hby own_d13_54) _ ht) ?_
  refine own_step (U' := (T33.setTop (mkF m 56 #[.val (.ref a1), .val u1] []))) (fun t ht => XS.astoreN X33.here hx rfl (hb hby own_d13_55) rfl hur (l' := #[.val (.ref a1), .val u1]) (by first | rfl | exact XS.store1 rfl (by first | exact Or.inl rfl | exact Or.inr ⟨_, rfl, rfl⟩ | exact XT.slot1 rfl) (by first | rfl | exact XT.cat1 hur)) ht) ?_
  refine own_step (U' := (T33.setTop (mkF m 57 #[.val (.ref a1), .val u1] [(.ref a1)]))) (fun t ht => XS.aloadN X33.here hx rfl (hb hby own_d13_56) rfl rfl ht) ?_
  obtain ⟨T35, X35, e35, st35⟩ := getF X33 hx hZ hown (host := "") (Or.inl (hw _ (List.mem_of_getElem? (i := 54) rfl))) Via.refl e33 Ff (g := (mkF m 57 #[.val (.ref a1), .val u1] [(.ref a1)])) rfl rfl (hb hby own_d13_57)
  refine own_step (U' := (T35.setTop (mkF m 60 #[.val (.ref a1), .val u1] [(.ref c1)]))) (fun t ht => st35 _ ht) ?_
  obtain ⟨T36, X36, e36, st36⟩ := getF X35 hx hZ hown (host := "") (Or.inl (hw _ (List.mem_of_getElem? (i := 77) rfl))) Via.refl e35 Fk (g := (mkF m 60 #[.val (.ref a1), .val u1] [(.ref c1)])) rfl rfl (hb hby own_d13_60)
  refine own_step (U' := (T36.setTop (mkF m 63 #[.val (.ref a1), .val u1] [(.ref r1)]))) (fun t ht => st36 _ ht) ?_
  refine own_step (U' := (T36.setTop (mkF m 64 #[.val (.ref a1), .val u1] [(.ref a1), (.ref r1)]))) (fun t ht => XS.aloadN X36.here hx rfl (hb hby own_d13_63) rfl rfl ht) ?_
  refine own_step (U' := (T36.setTop (mkF m 65 #[.val (.ref a1), .val u1] [(.ref a1), (.ref a1), (.ref r1)]))) (fun t ht => XS.dup X36.here hx rfl (hb hby own_d13_64) rfl rfl ht) ?_
  obtain ⟨T37, X37, e37, st37⟩ := getF X36 hx hZ hown (host := "") (Or.inl (hw _ (List.mem_of_getElem? (i := 83) rfl))) Via.refl e36 Ffi (g := (mkF m 65 #[.val (.ref a1), .val u1] [(.ref a1), (.ref a1), (.ref r1)])) rfl rfl (hb hby own_d13_65)
  refine own_step (U' := (T37.setTop (mkF m 68 #[.val (.ref a1), .val u1] [(.int fi), (.ref a1), (.ref r1)]))) (fun t ht => st37 _ ht) ?_
  refine own_step (U' := (T37.setTop (mkF m 69 #[.val (.ref a1), .val u1] [(.int fi), (.ref a1), (.int fi), (.ref r1)]))) (fun t ht => XT.dupX1 X37.here hx rfl (hb hby own_d13_68) rfl rfl rfl ht) ?_
  refine own_step (U' := (T37.setTop (mkF m 70 #[.val (.ref a1), .val u1] [(.int (1 : Int32)), (.int fi), (.ref a1), (.int fi), (.ref r1)]))) (fun t ht => XS.iconst X37.here hx rfl (hb hby own_d13_69) ht) ?_
  refine own_step (U' := (T37.setTop (mkF m 71 #[.val (.ref a1), .val u1] [(.int (fi + (1 : Int32))), (.ref a1), (.int fi), (.ref r1)]))) (fun t ht => XS.iadd X37.here hx rfl (hb hby own_d13_70) rfl ht) ?_
  obtain ⟨T38, h38, X38, e38, W38, st38⟩ := putF X37 hx hZ hown (host := "") (Or.inl (hw _ (List.mem_of_getElem? (i := 83) rfl))) Via.refl e37 Ffi E1 (Or.inl (hw _ (List.mem_of_getElem? (i := 84) rfl))) (hw _ (List.mem_of_getElem? (i := 37) rfl)) (ty := .int) (by decide) rfl rfl (g := (mkF m 71 #[.val (.ref a1), .val u1] [(.int (fi + (1 : Int32))), (.ref a1), (.int fi), (.ref r1)])) rfl rfl (hb hby own_d13_71)
  have f38_0 : Fld Z h38 a1 "com/example/call_throttle/callthrottle/KeyQueue" "first" "Lcom/example/call_throttle/callthrottle/KeyQueue$Chunk;" (.ref c1) := Ff.other W38 (Or.inr (slot_ne (Or.inl (hw _ (List.mem_of_getElem? (i := 55) rfl))) (Or.inl (hw _ (List.mem_of_getElem? (i := 84) rfl))) (by decide) (t := (.object "com/example/call_throttle/callthrottle/KeyQueue$Chunk")) (t' := .int) (by decide) (by decide)))
  have f38_1 : Fld Z h38 a1 "com/example/call_throttle/callthrottle/KeyQueue" "last" "Lcom/example/call_throttle/callthrottle/KeyQueue$Chunk;" (.ref c1) := Fl.other W38 (Or.inr (slot_ne (Or.inl (hw _ (List.mem_of_getElem? (i := 57) rfl))) (Or.inl (hw _ (List.mem_of_getElem? (i := 84) rfl))) (by decide) (t := (.object "com/example/call_throttle/callthrottle/KeyQueue$Chunk")) (t' := .int) (by decide) (by decide)))
  have f38_3 : Fld Z h38 a1 "com/example/call_throttle/callthrottle/KeyQueue" "lastIndex" "I" (.int li) := Fli.other W38 (Or.inr (slot_ne (Or.inl (hw _ (List.mem_of_getElem? (i := 76) rfl))) (Or.inl (hw _ (List.mem_of_getElem? (i := 84) rfl))) (by decide) (t := .int) (t' := .int) (by decide) (by decide)))
  have f38_4 : Fld Z h38 a1 "com/example/call_throttle/callthrottle/KeyQueue" "size" "J" (.long sz) := Fsz.other W38 (Or.inr (slot_ne (Or.inl (hw _ (List.mem_of_getElem? (i := 64) rfl))) (Or.inl (hw _ (List.mem_of_getElem? (i := 84) rfl))) (by decide) (t := .long) (t' := .int) (by decide) (by decide)))
  have f38_5 : Exa Z h38 a1 "com/example/call_throttle/callthrottle/KeyQueue" := E1.wr W38
  have f38_6 : Fld Z h38 c1 "com/example/call_throttle/callthrottle/KeyQueue$Chunk" "keys" "[Ljava/lang/String;" (.ref r1) := Fk.other W38 (Or.inl (ne_exa E2 E1 (by decide)))
  have f38_7 : Exa Z h38 c1 "com/example/call_throttle/callthrottle/KeyQueue$Chunk" := E2.wr W38
  have f38_8 : Arv Z h38 r1 kA (.object "java/lang/String") (1024 : Int32) vs .null := V1.other W38 (Ne.symm ne_a1_r1)
  have F38 := Ffi.same W38
  have N38 := Fr.snoc X38 N0 g_a1
  have K38 : Keep h0 h38 [a1, r1] := K0.wr W38 (Or.inl (by simp))
  refine own_step (U' := (T38.setTop (mkF m 74 #[.val (.ref a1), .val u1] [(.int fi), (.ref r1)]))) (fun t ht => st38 _ ht) ?_
  refine own_step (U' := (T38.setTop (mkF m 75 #[.val (.ref a1), .val u1] [.null, (.int fi), (.ref r1)]))) (fun t ht => XS.aconstNull X38.here hx rfl (hb hby own_d13_74) ht) ?_
  obtain ⟨cl39, Ar39, q39, S39, N39_, H39, G39⟩ := (id f38_8)
  have hin39 : ¬ (fi < 0 ∨ cl39.slots.size ≤ (fi).toNatClampNeg) := inb_of S39 ⟨hb1, hb2⟩
  obtain ⟨T39, h39, X39, e39, W39, st39⟩ := stR X38 hx hZ e38 Ar39 (j := fi) hin39 rfl (Or.inl rfl) (g := (mkF m 75 #[.val (.ref a1), .val u1] [.null, (.int fi), (.ref r1)])) rfl rfl (hb hby own_d13_75)
  have f39_0 : Fld Z h39 a1 "com/example/call_throttle/callthrottle/KeyQueue" "first" "Lcom/example/call_throttle/callthrottle/KeyQueue$Chunk;" (.ref c1) := f38_0.other W39 (Or.inl ne_a1_r1)
  have f39_1 : Fld Z h39 a1 "com/example/call_throttle/callthrottle/KeyQueue" "last" "Lcom/example/call_throttle/callthrottle/KeyQueue$Chunk;" (.ref c1) := f38_1.other W39 (Or.inl ne_a1_r1)
  have f39_2 : Fld Z h39 a1 "com/example/call_throttle/callthrottle/KeyQueue" "lastIndex" "I" (.int li) := f38_3.other W39 (Or.inl ne_a1_r1)
  have f39_3 : Fld Z h39 a1 "com/example/call_throttle/callthrottle/KeyQueue" "size" "J" (.long sz) := f38_4.other W39 (Or.inl ne_a1_r1)
  have f39_4 : Exa Z h39 a1 "com/example/call_throttle/callthrottle/KeyQueue" := f38_5.wr W39
  have f39_5 : Fld Z h39 c1 "com/example/call_throttle/callthrottle/KeyQueue$Chunk" "keys" "[Ljava/lang/String;" (.ref r1) := f38_6.other W39 (Or.inl ne_c1_r1)
  have f39_6 : Exa Z h39 c1 "com/example/call_throttle/callthrottle/KeyQueue$Chunk" := f38_7.wr W39
  have f39_8 : Fld Z h39 a1 "com/example/call_throttle/callthrottle/KeyQueue" "firstIndex" "I" (.int (fi + (1 : Int32))) := F38.other W39 (Or.inl ne_a1_r1)
  have V39 : Arv Z h39 r1 kA (.object "java/lang/String") (1024 : Int32) (vs.set j1 .null) .null := Arv.set Ar39 q39 S39 N39_ H39 G39 rfl W39 j1 hj hj2
  have N39 := Fr.snoc X39 N38 g_r1
  have K39 : Keep h0 h39 [a1, r1] := K38.wr W39 (Or.inl (by simp))
  refine own_step (U' := (T39.setTop (mkF m 76 #[.val (.ref a1), .val u1] []))) (fun t ht => st39 _ ht) ?_
  refine own_step (U' := (T39.setTop (mkF m 77 #[.val (.ref a1), .val u1] [(.ref a1)]))) (fun t ht => XS.aloadN X39.here hx rfl (hb hby own_d13_76) rfl rfl ht) ?_
  refine own_step (U' := (T39.setTop (mkF m 78 #[.val (.ref a1), .val u1] [(.ref a1), (.ref a1)]))) (fun t ht => XS.dup X39.here hx rfl (hb hby own_d13_77) rfl rfl ht) ?_
  obtain ⟨T40, X40, e40, st40⟩ := getF X39 hx hZ hown (host := "") (Or.inl (hw _ (List.mem_of_getElem? (i := 63) rfl))) Via.refl e39 f39_3 (g := (mkF m 78 #[.val (.ref a1), .val u1] [(.ref a1), (.ref a1)])) rfl rfl (hb hby own_d13_78)
  refine own_step (U' := (T40.setTop (mkF m 81 #[.val (.ref a1), .val u1] [(.long sz), (.ref a1)]))) (fun t ht => st40 _ ht) ?_
  refine own_step (U' := (T40.setTop (mkF m 82 #[.val (.ref a1), .val u1] [(.long (1 : Int64)), (.long sz), (.ref a1)]))) (fun t ht => XT.lconstV X40.here hx rfl (1 : Int64) (hb hby own_d13_81) rfl ht) ?_
  refine own_step (U' := (T40.setTop (mkF m 83 #[.val (.ref a1), .val u1] [(.long (sz - (1 : Int64))), (.ref a1)]))) (fun t ht => XT.lsub X40.here hx rfl (hb hby own_d13_82) rfl ht) ?_
  obtain ⟨T41, h41, X41, e41, W41, st41⟩ := putF X40 hx hZ hown (host := "") (Or.inl (hw _ (List.mem_of_getElem? (i := 63) rfl))) Via.refl e40 f39_3 f39_4 (Or.inl (hw _ (List.mem_of_getElem? (i := 64) rfl))) (hw _ (List.mem_of_getElem? (i := 37) rfl)) (ty := .long) (by decide) rfl rfl (g := (mkF m 83 #[.val (.ref a1), .val u1] [(.long (sz - (1 : Int64))), (.ref a1)])) rfl rfl (hb hby own_d13_83)
  have f41_0 : Fld Z h41 a1 "com/example/call_throttle/callthrottle/KeyQueue" "first" "Lcom/example/call_throttle/callthrottle/KeyQueue$Chunk;" (.ref c1) := f39_0.other W41 (Or.inr (slot_ne (Or.inl (hw _ (List.mem_of_getElem? (i := 55) rfl))) (Or.inl (hw _ (List.mem_of_getElem? (i := 64) rfl))) (by decide) (t := (.object "com/example/call_throttle/callthrottle/KeyQueue$Chunk")) (t' := .long) (by decide) (by decide)))
  have f41_1 : Fld Z h41 a1 "com/example/call_throttle/callthrottle/KeyQueue" "last" "Lcom/example/call_throttle/callthrottle/KeyQueue$Chunk;" (.ref c1) := f39_1.other W41 (Or.inr (slot_ne (Or.inl (hw _ (List.mem_of_getElem? (i := 57) rfl))) (Or.inl (hw _ (List.mem_of_getElem? (i := 64) rfl))) (by decide) (t := (.object "com/example/call_throttle/callthrottle/KeyQueue$Chunk")) (t' := .long) (by decide) (by decide)))
  have f41_2 : Fld Z h41 a1 "com/example/call_throttle/callthrottle/KeyQueue" "lastIndex" "I" (.int li) := f39_2.other W41 (Or.inr (slot_ne (Or.inl (hw _ (List.mem_of_getElem? (i := 76) rfl))) (Or.inl (hw _ (List.mem_of_getElem? (i := 64) rfl))) (by decide) (t := .int) (t' := .long) (by decide) (by decide)))
  have f41_4 : Exa Z h41 a1 "com/example/call_throttle/callthrottle/KeyQueue" := f39_4.wr W41
  have f41_5 : Fld Z h41 c1 "com/example/call_throttle/callthrottle/KeyQueue$Chunk" "keys" "[Ljava/lang/String;" (.ref r1) := f39_5.other W41 (Or.inl (ne_exa f39_6 f39_4 (by decide)))
  have f41_6 : Exa Z h41 c1 "com/example/call_throttle/callthrottle/KeyQueue$Chunk" := f39_6.wr W41
  have f41_7 : Fld Z h41 a1 "com/example/call_throttle/callthrottle/KeyQueue" "firstIndex" "I" (.int (fi + (1 : Int32))) := f39_8.other W41 (Or.inr (slot_ne (Or.inl (hw _ (List.mem_of_getElem? (i := 84) rfl))) (Or.inl (hw _ (List.mem_of_getElem? (i := 64) rfl))) (by decide) (t := .int) (t' := .long) (by decide) (by decide)))
  have f41_8 : Arv Z h41 r1 kA (.object "java/lang/String") (1024 : Int32) (vs.set j1 .null) .null := V39.other W41 (Ne.symm ne_a1_r1)
  have F41 := f39_3.same W41
  have N41 := Fr.snoc X41 N39 g_a1
  have K41 : Keep h0 h41 [a1, r1] := K39.wr W41 (Or.inl (by simp))
  refine own_step (U' := (T41.setTop (mkF m 86 #[.val (.ref a1), .val u1] []))) (fun t ht => st41 _ ht) ?_
  refine own_step (U' := (T41.setTop (mkF m 87 #[.val (.ref a1), .val u1] [u1]))) (fun t ht => XS.aloadN X41.here hx rfl (hb hby own_d13_86) rfl hur ht) ?_
  refine own_ret X41 (v := (some u1)) (fun h => by rw [Bd.returns] at h; cases h) Bd.notSynchronized (by decide) (by decide) ?_ (fun fs hr => retOut X41 hx Bd.returns (own_narR hur) (Or.inr (Or.inr (Or.inr (Or.inr ⟨rfl, rfl, hur⟩)))) (hb hby own_d13_87) hr)
  show own_Q_rem Z a1 c1 r1 kA fi li sz vs u1 j1 h0 n0 _ T41.heap _
  rw [e41]
  exact ⟨rfl, N41, K41, f41_0, f41_1, f41_7, f41_2, F41, f41_4, f41_5, f41_6, f41_8⟩
theorem own_d10_0 : decode prog_12_method_5_code 0 = .ok (.aload_n 0, 1) := by decide +kernel
theorem own_d10_1 : decode prog_12_method_5_code 1 = .ok (.getfield 30, 3) := by decide +kernel
theorem own_d10_4 : decode prog_12_method_5_code 4 = .ok (.lreturn, 1) := by decide +kernel
def own_Q_siz (Z : State) (a1 : Addr) (sz : Int64) (h0 : Heap) (n0 : Nat) (v : Option Value) (h : Heap) (L : List Loc) : Prop := v = some (.long sz) ∧ Fr n0 L ∧ h = h0
set_option maxRecDepth 65536 in
set_option maxHeartbeats 40000000 in
theorem own_m_siz (l : Launch) (Z : State) (a0 : Array Value) (hw : ∀ d ∈ tables_1, d.before a0 Z = true) (ws : List Jvm.Cond) (a1 : Addr) (sz : Int64) (h0 : Heap) (n0 : Nat) (Z0 : n0 ≤ h0.size) (Fsz : Fld Z h0 a1 "com/example/call_throttle/callthrottle/KeyQueue" "size" "J" (.long sz)) :
    MetFree l (⟨"com/example/call_throttle/callthrottle/KeyQueue", "size", "()J"⟩ : MethodName) (head1 (Jvm.Cond.code (⟨"com/example/call_throttle/callthrottle/KeyQueue", "size", "()J"⟩ : MethodName) prog_12_method_5_code 1 (some .long) :: ws) ({ frames := 0, cells := 0, slots := 0, locals := 0 } : Room)) (fun a U => a = #[(.ref a1)] ∧ Z.Warmed39 U.vm ∧ U.heap = h0) (fun _ _ _ _ _ => True) (fun _ U o U' => ∃ v L, o = .returned v ∧ own_Q_siz Z a1 sz h0 n0 v U'.heap L ∧ FrameEnd U o U' L ({ frames := 0, cells := 0, slots := 0, locals := 0 } : Room).cells ({ frames := 0, cells := 0, slots := 0, locals := 0 } : Room).slots) := by
  refine MetFree.of_bodySF (plainFor_of_name own_pn3) hisR ?_
  intro p e s m args below meth c s₁ Bd hml0 hP hK
  obtain ⟨rfl, hZ, hh⟩ := hP
  have hx := Bd.exec
  have hby := Bd.bytes
  have hml : c.maxLocals = 1 := hml0
  have hown : s.vm.findClass "com/example/call_throttle/callthrottle/KeyQueue" = some m.cls := findClass_of_methodNamed Bd.named
  have hnm := (name_of_methodNamed Bd.named Bd.method).1
  have X0 : Stand p l e ({ frames := 0, cells := 0, slots := 0, locals := 0 } : Room) s m #[(.ref a1)] below meth c s₁ [] 0 0 := Stand.of_body Bd
  have e0 : s₁.heap = h0 := by rw [← hh, Bd.state]; rfl
  have N0 := Fr.nil n0
  have K0 : Keep h0 h0 [] := Keep.refl _ _
  show own_Go p e below s ({ frames := 0, cells := 0, slots := 0, locals := 0 } : Room).cells ({ frames := 0, cells := 0, slots := 0, locals := 0 } : Room).slots (own_Q_siz Z a1 sz h0 n0) (s₁.setTop (entryFrame m #[(.ref a1)] 1))
  have ef : entryFrame m #[(.ref a1)] 1 = (mkF m 0 #[.val (.ref a1)] []) := by first | rfl | (simp [entryFrame, mkF, argsToLocals, Value.category, maxLocals]; done)
  rw [ef]
  show own_Go p e below s _ _ _ (s₁.setTop (mkF m 0 #[.val (.ref a1)] []))
  refine own_step (U' := (s₁.setTop (mkF m 1 #[.val (.ref a1)] [(.ref a1)]))) (fun t ht => XS.aloadN X0.here hx rfl (hb hby own_d10_0) rfl rfl ht) ?_
  obtain ⟨T42, X42, e42, st42⟩ := getF X0 hx hZ hown (host := "") (Or.inl (hw _ (List.mem_of_getElem? (i := 63) rfl))) Via.refl e0 Fsz (g := (mkF m 1 #[.val (.ref a1)] [(.ref a1)])) rfl rfl (hb hby own_d10_1)
  refine own_step (U' := (T42.setTop (mkF m 4 #[.val (.ref a1)] [(.long sz)]))) (fun t ht => st42 _ ht) ?_
  refine own_ret X42 (v := (some (.long sz))) (fun h => by rw [Bd.returns] at h; cases h) Bd.notSynchronized (by decide) (by decide) ?_ (fun fs hr => retOut X42 hx (t := .long) Bd.returns rfl (Or.inr (Or.inl ⟨rfl, rfl, _, rfl⟩)) (hb hby own_d10_4) hr)
  show own_Q_siz Z a1 sz h0 n0 _ T42.heap _
  rw [e42]
  exact ⟨rfl, N0, rfl⟩
theorem own_d11_0 : decode prog_12_method_4_code 0 = .ok (.aload_n 0, 1) := by decide +kernel
theorem own_d11_1 : decode prog_12_method_4_code 1 = .ok (.getfield 30, 3) := by decide +kernel
theorem own_d11_4 : decode prog_12_method_4_code 4 = .ok (.lconst 0, 1) := by decide +kernel
theorem own_d11_5 : decode prog_12_method_4_code 5 = .ok (.lcmp, 1) := by decide +kernel
theorem own_d11_6 : decode prog_12_method_4_code 6 = .ok (.ifCond .ne 7, 3) := by decide +kernel
theorem own_d11_9 : decode prog_12_method_4_code 9 = .ok (.iconst 1, 1) := by decide +kernel
theorem own_d11_10 : decode prog_12_method_4_code 10 = .ok (.goto 4, 3) := by decide +kernel
theorem own_d11_13 : decode prog_12_method_4_code 13 = .ok (.iconst 0, 1) := by decide +kernel
theorem own_d11_14 : decode prog_12_method_4_code 14 = .ok (.ireturn, 1) := by decide +kernel
def own_Q_ie (Z : State) (a1 : Addr) (sz : Int64) (h0 : Heap) (n0 : Nat) (v : Option Value) (h : Heap) (L : List Loc) : Prop := v = some (.int (own_ie sz)) ∧ Fr n0 L ∧ h = h0
set_option maxRecDepth 65536 in
set_option maxHeartbeats 40000000 in
theorem own_m_ie (l : Launch) (Z : State) (a0 : Array Value) (hw : ∀ d ∈ tables_1, d.before a0 Z = true) (ws : List Jvm.Cond) (a1 : Addr) (sz : Int64) (h0 : Heap) (n0 : Nat) (Z0 : n0 ≤ h0.size) (Fsz : Fld Z h0 a1 "com/example/call_throttle/callthrottle/KeyQueue" "size" "J" (.long sz)) :
    MetFree l (⟨"com/example/call_throttle/callthrottle/KeyQueue", "isEmpty", "()Z"⟩ : MethodName) (head1 (Jvm.Cond.code (⟨"com/example/call_throttle/callthrottle/KeyQueue", "isEmpty", "()Z"⟩ : MethodName) prog_12_method_4_code 1 (some .boolean) :: ws) ({ frames := 0, cells := 0, slots := 0, locals := 0 } : Room)) (fun a U => a = #[(.ref a1)] ∧ Z.Warmed39 U.vm ∧ U.heap = h0) (fun _ _ _ _ _ => True) (fun _ U o U' => ∃ v L, o = .returned v ∧ own_Q_ie Z a1 sz h0 n0 v U'.heap L ∧ FrameEnd U o U' L ({ frames := 0, cells := 0, slots := 0, locals := 0 } : Room).cells ({ frames := 0, cells := 0, slots := 0, locals := 0 } : Room).slots) := by
  refine MetFree.of_bodySF (plainFor_of_name own_pn3) hisR ?_
  intro p e s m args below meth c s₁ Bd hml0 hP hK
  obtain ⟨rfl, hZ, hh⟩ := hP
  have hx := Bd.exec
  have hby := Bd.bytes
  have hml : c.maxLocals = 1 := hml0
  have hown : s.vm.findClass "com/example/call_throttle/callthrottle/KeyQueue" = some m.cls := findClass_of_methodNamed Bd.named
  have hnm := (name_of_methodNamed Bd.named Bd.method).1
  have X0 : Stand p l e ({ frames := 0, cells := 0, slots := 0, locals := 0 } : Room) s m #[(.ref a1)] below meth c s₁ [] 0 0 := Stand.of_body Bd
  have e0 : s₁.heap = h0 := by rw [← hh, Bd.state]; rfl
  have N0 := Fr.nil n0
  have K0 : Keep h0 h0 [] := Keep.refl _ _
  show own_Go p e below s ({ frames := 0, cells := 0, slots := 0, locals := 0 } : Room).cells ({ frames := 0, cells := 0, slots := 0, locals := 0 } : Room).slots (own_Q_ie Z a1 sz h0 n0) (s₁.setTop (entryFrame m #[(.ref a1)] 1))
  have ef : entryFrame m #[(.ref a1)] 1 = (mkF m 0 #[.val (.ref a1)] []) := by first | rfl | (simp [entryFrame, mkF, argsToLocals, Value.category, maxLocals]; done)
  rw [ef]
  show own_Go p e below s _ _ _ (s₁.setTop (mkF m 0 #[.val (.ref a1)] []))
  refine own_step (U' := (s₁.setTop (mkF m 1 #[.val (.ref a1)] [(.ref a1)]))) (fun t ht => XS.aloadN X0.here hx rfl (hb hby own_d11_0) rfl rfl ht) ?_
  obtain ⟨T43, X43, e43, st43⟩ := getF X0 hx hZ hown (host := "") (Or.inl (hw _ (List.mem_of_getElem? (i := 63) rfl))) Via.refl e0 Fsz (g := (mkF m 1 #[.val (.ref a1)] [(.ref a1)])) rfl rfl (hb hby own_d11_1)
  refine own_step (U' := (T43.setTop (mkF m 4 #[.val (.ref a1)] [(.long sz)]))) (fun t ht => st43 _ ht) ?_
  refine own_step (U' := (T43.setTop (mkF m 5 #[.val (.ref a1)] [(.long (0 : Int64)), (.long sz)]))) (fun t ht => XT.lconstV X43.here hx rfl (0 : Int64) (hb hby own_d11_4) rfl ht) ?_
  refine own_step (U' := (T43.setTop (mkF m 6 #[.val (.ref a1)] [(.int (XT.cmpL sz (0 : Int64)))]))) (fun t ht => XT.lcmp X43.here hx rfl (hb hby own_d11_5) rfl ht) ?_
  by_cases hc6_44 : sz = (0 : Int64)
  ·
    refine own_step (U' := (T43.setTop (mkF m 9 #[.val (.ref a1)] []))) (fun t ht => XS.ifNo X43.here hx rfl (hb hby own_d11_6) rfl (XT.ll_ne_f hc6_44) ht) ?_
    refine own_step (U' := (T43.setTop (mkF m 10 #[.val (.ref a1)] [(.int (1 : Int32))]))) (fun t ht => XS.iconst X43.here hx rfl (hb hby own_d11_9) ht) ?_
    refine own_step (U' := (T43.setTop (mkF m 14 #[.val (.ref a1)] [(.int (1 : Int32))]))) (fun t ht => XS.goto X43.here hx rfl (pc0 := 10) (pc' := 14) rfl (hb hby own_d11_10) (by decide) (by decide) ht) ?_
    refine own_ret X43 (v := (some (.int (nar .boolean (1 : Int32))))) (fun h => by rw [Bd.returns] at h; cases h) Bd.notSynchronized (by decide) (by decide) ?_ (fun fs hr => retN X43 hx (t := .boolean) Bd.returns (by simp) (hb hby own_d11_14) hr)
    show own_Q_ie Z a1 sz h0 n0 _ T43.heap _
    rw [e43]
    refine ⟨?_, N0, rfl⟩
    simp [own_ie, nar, hc6_44]
  ·
    refine own_step (U' := (T43.setTop (mkF m 13 #[.val (.ref a1)] []))) (fun t ht => XS.ifYes X43.here hx rfl (pc0 := 6) (pc' := 13) rfl (hb hby own_d11_6) rfl (XT.ll_ne_t hc6_44) (by decide) (by decide) ht) ?_
    refine own_step (U' := (T43.setTop (mkF m 14 #[.val (.ref a1)] [(.int (0 : Int32))]))) (fun t ht => XS.iconst X43.here hx rfl (hb hby own_d11_13) ht) ?_
    refine own_ret X43 (v := (some (.int (nar .boolean (0 : Int32))))) (fun h => by rw [Bd.returns] at h; cases h) Bd.notSynchronized (by decide) (by decide) ?_ (fun fs hr => retN X43 hx (t := .boolean) Bd.returns (by simp) (hb hby own_d11_14) hr)
    show own_Q_ie Z a1 sz h0 n0 _ T43.heap _
    rw [e43]
    refine ⟨?_, N0, rfl⟩
    simp [own_ie, nar, hc6_44]
theorem own_pn4 : plainName "com/example/call_throttle/callthrottle/KeyQueueAddLastPinLaw" = true := by first | (simp [plainName, overriddenIn]; done) | decide +kernel
theorem own_pd4 : parseMethodDescriptor "([C)V" = some ⟨[(.array .char)], none⟩ := by decide +kernel
theorem own_pd5 : parseMethodDescriptor "(C)Ljava/lang/String;" = some ⟨[.char], some (.object "java/lang/String")⟩ := by decide +kernel
theorem own_d1_0 : decode method_3_code 0 = .ok (.iload_n 0, 1) := by decide +kernel
theorem own_d1_1 : decode method_3_code 1 = .ok (.ldc 32, 2) := by decide +kernel
theorem own_d1_3 : decode method_3_code 3 = .ok (.iand, 1) := by decide +kernel
theorem own_d1_4 : decode method_3_code 4 = .ok (.ifCond .eq 5, 3) := by decide +kernel
theorem own_d1_7 : decode method_3_code 7 = .ok (.aconst_null, 1) := by decide +kernel
theorem own_d1_8 : decode method_3_code 8 = .ok (.areturn, 1) := by decide +kernel
theorem own_d1_9 : decode method_3_code 9 = .ok (.iload_n 0, 1) := by decide +kernel
theorem own_d1_10 : decode method_3_code 10 = .ok (.ldc 33, 2) := by decide +kernel
theorem own_d1_12 : decode method_3_code 12 = .ok (.iand, 1) := by decide +kernel
theorem own_d1_13 : decode method_3_code 13 = .ok (.ifCond .eq 13, 3) := by decide +kernel
theorem own_d1_16 : decode method_3_code 16 = .ok (.iload_n 0, 1) := by decide +kernel
theorem own_d1_17 : decode method_3_code 17 = .ok (.sipush 255, 3) := by decide +kernel
theorem own_d1_20 : decode method_3_code 20 = .ok (.iand, 1) := by decide +kernel
theorem own_d1_21 : decode method_3_code 21 = .ok (.i2c, 1) := by decide +kernel
theorem own_d1_22 : decode method_3_code 22 = .ok (.invokestatic 34, 3) := by decide +kernel
theorem own_d1_25 : decode method_3_code 25 = .ok (.areturn, 1) := by decide +kernel
theorem own_d1_26 : decode method_3_code 26 = .ok (.iconst 2, 1) := by decide +kernel
theorem own_d1_27 : decode method_3_code 27 = .ok (.newarray .char, 2) := by decide +kernel
theorem own_d1_29 : decode method_3_code 29 = .ok (.astore_n 1, 1) := by decide +kernel
theorem own_d1_30 : decode method_3_code 30 = .ok (.aload_n 1, 1) := by decide +kernel
theorem own_d1_31 : decode method_3_code 31 = .ok (.iconst 0, 1) := by decide +kernel
theorem own_d1_32 : decode method_3_code 32 = .ok (.iload_n 0, 1) := by decide +kernel
theorem own_d1_33 : decode method_3_code 33 = .ok (.sipush 255, 3) := by decide +kernel
theorem own_d1_36 : decode method_3_code 36 = .ok (.iand, 1) := by decide +kernel
theorem own_d1_37 : decode method_3_code 37 = .ok (.i2c, 1) := by decide +kernel
theorem own_d1_38 : decode method_3_code 38 = .ok (.castore, 1) := by decide +kernel
theorem own_d1_39 : decode method_3_code 39 = .ok (.aload_n 1, 1) := by decide +kernel
theorem own_d1_40 : decode method_3_code 40 = .ok (.iconst 1, 1) := by decide +kernel
theorem own_d1_41 : decode method_3_code 41 = .ok (.iload_n 0, 1) := by decide +kernel
theorem own_d1_42 : decode method_3_code 42 = .ok (.bipush 8, 2) := by decide +kernel
theorem own_d1_44 : decode method_3_code 44 = .ok (.iushr, 1) := by decide +kernel
theorem own_d1_45 : decode method_3_code 45 = .ok (.sipush 255, 3) := by decide +kernel
theorem own_d1_48 : decode method_3_code 48 = .ok (.iand, 1) := by decide +kernel
theorem own_d1_49 : decode method_3_code 49 = .ok (.i2c, 1) := by decide +kernel
theorem own_d1_50 : decode method_3_code 50 = .ok (.castore, 1) := by decide +kernel
theorem own_d1_51 : decode method_3_code 51 = .ok (.new 35, 3) := by decide +kernel
theorem own_d1_54 : decode method_3_code 54 = .ok (.dup, 1) := by decide +kernel
theorem own_d1_55 : decode method_3_code 55 = .ok (.aload_n 1, 1) := by decide +kernel
theorem own_d1_56 : decode method_3_code 56 = .ok (.invokespecial 40, 3) := by decide +kernel
theorem own_d1_59 : decode method_3_code 59 = .ok (.areturn, 1) := by decide +kernel
def own_Q_key (Z : State) (p1 : Int32) (cz : Int32) (h0 : Heap) (n0 : Nat) (v : Option Value) (h : Heap) (L : List Loc) : Prop := ∃ (u : Value), v = some u ∧ Fr n0 L ∧ Keep h0 h [] ∧ (own_Key Z h u)
set_option maxRecDepth 65536 in
set_option maxHeartbeats 40000000 in
theorem own_m_key (l : Launch) (Z : State) (a0 : Array Value) (hw : ∀ d ∈ tables_1, d.before a0 Z = true) (ws : List Jvm.Cond) (p1 : Int32) (cz : Int32) (h0 : Heap) (n0 : Nat) (Z0 : n0 ≤ h0.size) (S_cz : Sta Z h0 "java/lang/String" "COMPACT_STRINGS" "Z" (.int cz)) (hcz : ¬ cz = 0) :
    MetFree l (⟨"com/example/call_throttle/callthrottle/KeyQueueAddLastPinLaw", "key", "(I)Ljava/lang/String;"⟩ : MethodName) (head1 (Jvm.Cond.code (⟨"com/example/call_throttle/callthrottle/KeyQueueAddLastPinLaw", "key", "(I)Ljava/lang/String;"⟩ : MethodName) method_3_code 2 (some (.object "java/lang/String")) :: ws) ({ frames := 4, cells := 3, slots := 8, locals := 66 } : Room)) (fun a U => a = #[(.int p1)] ∧ Z.Warmed39 U.vm ∧ U.heap = h0) (fun _ _ _ _ _ => True) (fun _ U o U' => ∃ v L, o = .returned v ∧ own_Q_key Z p1 cz h0 n0 v U'.heap L ∧ FrameEnd U o U' L ({ frames := 4, cells := 3, slots := 8, locals := 66 } : Room).cells ({ frames := 4, cells := 3, slots := 8, locals := 66 } : Room).slots) := by
  refine MetFree.of_bodySF (plainFor_of_name own_pn4) hisR ?_
  intro p e s m args below meth c s₁ Bd hml0 hP hK
  obtain ⟨rfl, hZ, hh⟩ := hP
  have hx := Bd.exec
  have hby := Bd.bytes
  have hml : c.maxLocals = 2 := hml0
  have hown : s.vm.findClass "com/example/call_throttle/callthrottle/KeyQueueAddLastPinLaw" = some m.cls := findClass_of_methodNamed Bd.named
  have hnm := (name_of_methodNamed Bd.named Bd.method).1
  have X0 : Stand p l e ({ frames := 4, cells := 3, slots := 8, locals := 66 } : Room) s m #[(.int p1)] below meth c s₁ [] 0 0 := Stand.of_body Bd
  have e0 : s₁.heap = h0 := by rw [← hh, Bd.state]; rfl
  have N0 := Fr.nil n0
  have K0 : Keep h0 h0 [] := Keep.refl _ _
  show own_Go p e below s ({ frames := 4, cells := 3, slots := 8, locals := 66 } : Room).cells ({ frames := 4, cells := 3, slots := 8, locals := 66 } : Room).slots (own_Q_key Z p1 cz h0 n0) (s₁.setTop (entryFrame m #[(.int p1)] 2))
  have ef : entryFrame m #[(.int p1)] 2 = (mkF m 0 #[.val (.int p1), .unset] []) := by first | rfl | (simp [entryFrame, mkF, argsToLocals, Value.category, maxLocals]; done)
  rw [ef]
  have own_hws : ∀ d ∈ StrChars.Road.words, d.before a0 Z = true := fun d hd => hw d ((by decide +kernel : ∀ d ∈ StrChars.Road.words, d ∈ tables_1) d hd)
  show own_Go p e below s _ _ _ (s₁.setTop (mkF m 0 #[.val (.int p1), .unset] []))
  refine own_step (U' := (s₁.setTop (mkF m 1 #[.val (.int p1), .unset] [(.int p1)]))) (fun t ht => XS.iloadN X0.here hx rfl (hb hby own_d1_0) rfl ht) ?_
  refine own_step (U' := (s₁.setTop (mkF m 3 #[.val (.int p1), .unset] [(.int (65536 : Int32)), (.int p1)]))) (fun t ht => X0.ldcInt hx hown (mvT hZ (hw _ (List.mem_of_getElem? (i := 4) rfl))) (g := (mkF m 1 #[.val (.int p1), .unset] [(.int p1)])) rfl (hb hby own_d1_1) _ ht) ?_
  refine own_step (U' := (s₁.setTop (mkF m 4 #[.val (.int p1), .unset] [(.int (p1 &&& (65536 : Int32)))]))) (fun t ht => XS.iand X0.here hx rfl (hb hby own_d1_3) rfl ht) ?_
  by_cases hc4_45 : (p1 &&& (65536 : Int32)) = 0
  ·
    refine own_step (U' := (s₁.setTop (mkF m 9 #[.val (.int p1), .unset] []))) (fun t ht => XS.ifYes X0.here hx rfl (pc0 := 4) (pc' := 9) rfl (hb hby own_d1_4) rfl (XT.i0_eq_t hc4_45) (by decide) (by decide) ht) ?_
    refine own_step (U' := (s₁.setTop (mkF m 10 #[.val (.int p1), .unset] [(.int p1)]))) (fun t ht => XS.iloadN X0.here hx rfl (hb hby own_d1_9) rfl ht) ?_
    refine own_step (U' := (s₁.setTop (mkF m 12 #[.val (.int p1), .unset] [(.int (131072 : Int32)), (.int p1)]))) (fun t ht => X0.ldcInt hx hown (mvT hZ (hw _ (List.mem_of_getElem? (i := 5) rfl))) (g := (mkF m 10 #[.val (.int p1), .unset] [(.int p1)])) rfl (hb hby own_d1_10) _ ht) ?_
    refine own_step (U' := (s₁.setTop (mkF m 13 #[.val (.int p1), .unset] [(.int (p1 &&& (131072 : Int32)))]))) (fun t ht => XS.iand X0.here hx rfl (hb hby own_d1_12) rfl ht) ?_
    by_cases hc13_46 : (p1 &&& (131072 : Int32)) = 0
    ·
      refine own_step (U' := (s₁.setTop (mkF m 26 #[.val (.int p1), .unset] []))) (fun t ht => XS.ifYes X0.here hx rfl (pc0 := 13) (pc' := 26) rfl (hb hby own_d1_13) rfl (XT.i0_eq_t hc13_46) (by decide) (by decide) ht) ?_
      refine own_step (U' := (s₁.setTop (mkF m 27 #[.val (.int p1), .unset] [(.int (2 : Int32))]))) (fun t ht => XS.iconst X0.here hx rfl (hb hby own_d1_26) ht) ?_
      obtain ⟨T47, h47, k47, X47, e47, E47, A47, st47⟩ := newP X0 hx hZ (hw _ (List.mem_of_getElem? (i := 6) rfl)) e0 (g := (mkF m 27 #[.val (.int p1), .unset] [(.int (2 : Int32))])) rfl (hb hby own_d1_27) rfl (by decide) (cap := 2) (by decide) (by decide) (by decide) (by decide)
      obtain ⟨b47, g47⟩ : ∃ z, z = (h0).size := ⟨_, rfl⟩
      rw [← g47] at A47 st47
      have g_b47 : n0 ≤ b47 := Nat.le_trans (Nat.le_trans Z0 K0.1) (Nat.le_of_eq g47.symm)
      have sz_b47 : h0.size ≤ b47 := Nat.le_trans K0.1 (Nat.le_of_eq g47.symm)
      have f47_0 : Sta Z h47 "java/lang/String" "COMPACT_STRINGS" "Z" (.int cz) := S_cz.ext E47
      have K47 : Keep h0 h47 [] := K0.ext E47
      have V47 : Arv Z h47 b47 k47 .char (2 : Int32) [(.int (0 : Int32)), (.int (0 : Int32))] (.int (0 : Int32)) := (Arv.new A47 (by decide)).pad (pad_rep [] (.int (0 : Int32)) 2)
      refine own_step (U' := (T47.setTop (mkF m 29 #[.val (.int p1), .unset] [(.ref b47)]))) (fun t ht => st47 _ ht) ?_
      refine own_step (U' := (T47.setTop (mkF m 30 #[.val (.int p1), .val (.ref b47)] []))) (fun t ht => XS.astoreN X47.here hx rfl (hb hby own_d1_29) rfl rfl (l' := #[.val (.int p1), .val (.ref b47)]) rfl ht) ?_
      refine own_step (U' := (T47.setTop (mkF m 31 #[.val (.int p1), .val (.ref b47)] [(.ref b47)]))) (fun t ht => XS.aloadN X47.here hx rfl (hb hby own_d1_30) rfl rfl ht) ?_
      refine own_step (U' := (T47.setTop (mkF m 32 #[.val (.int p1), .val (.ref b47)] [(.int (0 : Int32)), (.ref b47)]))) (fun t ht => XS.iconst X47.here hx rfl (hb hby own_d1_31) ht) ?_
      refine own_step (U' := (T47.setTop (mkF m 33 #[.val (.int p1), .val (.ref b47)] [(.int p1), (.int (0 : Int32)), (.ref b47)]))) (fun t ht => XS.iloadN X47.here hx rfl (hb hby own_d1_32) rfl ht) ?_
      refine own_step (U' := (T47.setTop (mkF m 36 #[.val (.int p1), .val (.ref b47)] [(.int (255 : Int32)), (.int p1), (.int (0 : Int32)), (.ref b47)]))) (fun t ht => XS.sipush X47.here hx rfl (hb hby own_d1_33) ht) ?_
      refine own_step (U' := (T47.setTop (mkF m 37 #[.val (.int p1), .val (.ref b47)] [(.int (p1 &&& (255 : Int32))), (.int (0 : Int32)), (.ref b47)]))) (fun t ht => XS.iand X47.here hx rfl (hb hby own_d1_36) rfl ht) ?_
      refine own_step (U' := (T47.setTop (mkF m 38 #[.val (.int p1), .val (.ref b47)] [(.int ((p1 &&& (255 : Int32)).toUInt32.toUInt16.toUInt32.toInt32)), (.int (0 : Int32)), (.ref b47)]))) (fun t ht => XT.i2c X47.here hx rfl (hb hby own_d1_37) rfl ht) ?_
      obtain ⟨cl48, Ar48, q48, S48, N48_, H48, G48⟩ := (id V47)
      have hin48 : ¬ ((0 : Int32) < 0 ∨ cl48.slots.size ≤ ((0 : Int32)).toNatClampNeg) := inb_of S48 ⟨by decide, by decide⟩
      obtain ⟨T48, h48, X48, e48, W48, st48⟩ := stC X47 hx hZ e47 Ar48 (j := (0 : Int32)) hin48 (g := (mkF m 38 #[.val (.int p1), .val (.ref b47)] [(.int ((p1 &&& (255 : Int32)).toUInt32.toUInt16.toUInt32.toInt32)), (.int (0 : Int32)), (.ref b47)])) rfl rfl (hb hby own_d1_38)
      have f48_0 : Sta Z h48 "java/lang/String" "COMPACT_STRINGS" "Z" (.int cz) := f47_0.wr W48
      have V48 : Arv Z h48 b47 k47 .char (2 : Int32) [(.int (((p1 &&& (255 : Int32)).toUInt32.toUInt16.toUInt32.toInt32).toUInt32.toUInt16.toUInt32.toInt32)), (.int (0 : Int32))] (.int (0 : Int32)) := Arv.set Ar48 q48 S48 N48_ H48 G48 (fits_nar_char _) W48 0 rfl (Nat.le_of_ble_eq_true rfl)
      have N48 := Fr.snoc X48 N0 g_b47
      have K48 : Keep h0 h48 [] := K47.wr W48 (Or.inr sz_b47)
      refine own_step (U' := (T48.setTop (mkF m 39 #[.val (.int p1), .val (.ref b47)] []))) (fun t ht => st48 _ ht) ?_
      refine own_step (U' := (T48.setTop (mkF m 40 #[.val (.int p1), .val (.ref b47)] [(.ref b47)]))) (fun t ht => XS.aloadN X48.here hx rfl (hb hby own_d1_39) rfl rfl ht) ?_
      refine own_step (U' := (T48.setTop (mkF m 41 #[.val (.int p1), .val (.ref b47)] [(.int (1 : Int32)), (.ref b47)]))) (fun t ht => XS.iconst X48.here hx rfl (hb hby own_d1_40) ht) ?_
      refine own_step (U' := (T48.setTop (mkF m 42 #[.val (.int p1), .val (.ref b47)] [(.int p1), (.int (1 : Int32)), (.ref b47)]))) (fun t ht => XS.iloadN X48.here hx rfl (hb hby own_d1_41) rfl ht) ?_
      refine own_step (U' := (T48.setTop (mkF m 44 #[.val (.int p1), .val (.ref b47)] [(.int (8 : Int32)), (.int p1), (.int (1 : Int32)), (.ref b47)]))) (fun t ht => XS.bipush X48.here hx rfl (hb hby own_d1_42) ht) ?_
      refine own_step (U' := (T48.setTop (mkF m 45 #[.val (.int p1), .val (.ref b47)] [(.int (XT.ushr p1 (8 : Int32))), (.int (1 : Int32)), (.ref b47)]))) (fun t ht => XT.iushr X48.here hx rfl (hb hby own_d1_44) rfl ht) ?_
      refine own_step (U' := (T48.setTop (mkF m 48 #[.val (.int p1), .val (.ref b47)] [(.int (255 : Int32)), (.int (XT.ushr p1 (8 : Int32))), (.int (1 : Int32)), (.ref b47)]))) (fun t ht => XS.sipush X48.here hx rfl (hb hby own_d1_45) ht) ?_
      refine own_step (U' := (T48.setTop (mkF m 49 #[.val (.int p1), .val (.ref b47)] [(.int ((XT.ushr p1 (8 : Int32)) &&& (255 : Int32))), (.int (1 : Int32)), (.ref b47)]))) (fun t ht => XS.iand X48.here hx rfl (hb hby own_d1_48) rfl ht) ?_
      refine own_step (U' := (T48.setTop (mkF m 50 #[.val (.int p1), .val (.ref b47)] [(.int (((XT.ushr p1 (8 : Int32)) &&& (255 : Int32)).toUInt32.toUInt16.toUInt32.toInt32)), (.int (1 : Int32)), (.ref b47)]))) (fun t ht => XT.i2c X48.here hx rfl (hb hby own_d1_49) rfl ht) ?_
      obtain ⟨cl49, Ar49, q49, S49, N49_, H49, G49⟩ := (id V48)
      have hin49 : ¬ ((1 : Int32) < 0 ∨ cl49.slots.size ≤ ((1 : Int32)).toNatClampNeg) := inb_of S49 ⟨by decide, by decide⟩
      obtain ⟨T49, h49, X49, e49, W49, st49⟩ := stC X48 hx hZ e48 Ar49 (j := (1 : Int32)) hin49 (g := (mkF m 50 #[.val (.int p1), .val (.ref b47)] [(.int (((XT.ushr p1 (8 : Int32)) &&& (255 : Int32)).toUInt32.toUInt16.toUInt32.toInt32)), (.int (1 : Int32)), (.ref b47)])) rfl rfl (hb hby own_d1_50)
      have f49_0 : Sta Z h49 "java/lang/String" "COMPACT_STRINGS" "Z" (.int cz) := f48_0.wr W49
      have V49 : Arv Z h49 b47 k47 .char (2 : Int32) [(.int (((p1 &&& (255 : Int32)).toUInt32.toUInt16.toUInt32.toInt32).toUInt32.toUInt16.toUInt32.toInt32)), (.int ((((XT.ushr p1 (8 : Int32)) &&& (255 : Int32)).toUInt32.toUInt16.toUInt32.toInt32).toUInt32.toUInt16.toUInt32.toInt32))] (.int (0 : Int32)) := Arv.set Ar49 q49 S49 N49_ H49 G49 (fits_nar_char _) W49 1 rfl (Nat.le_of_ble_eq_true rfl)
      have N49 := Fr.snoc X49 N48 g_b47
      have K49 : Keep h0 h49 [] := K48.wr W49 (Or.inr sz_b47)
      refine own_step (U' := (T49.setTop (mkF m 51 #[.val (.int p1), .val (.ref b47)] []))) (fun t ht => st49 _ ht) ?_
      obtain ⟨T50, h50, X50, e50, E50, A50, D50, -, st50⟩ := newO X49 hx hZ hown (hw _ (List.mem_of_getElem? (i := 7) rfl)) (hw _ (List.mem_of_getElem? (i := 8) rfl)) (hw _ (List.mem_of_getElem? (i := 9) rfl)) e49 (g := (mkF m 51 #[.val (.int p1), .val (.ref b47)] [])) rfl (hb hby own_d1_51) (by decide) (by decide)
      obtain ⟨b50, g50⟩ : ∃ z, z = (h49).size := ⟨_, rfl⟩
      rw [← g50] at A50 D50 st50
      have ne_b47_b50 : b47 ≠ b50 := Nat.ne_of_lt (Nat.lt_of_lt_of_le V49.lt (Nat.le_of_eq g50.symm))
      have g_b50 : n0 ≤ b50 := Nat.le_trans (Nat.le_trans Z0 K49.1) (Nat.le_of_eq g50.symm)
      have sz_b50 : h0.size ≤ b50 := Nat.le_trans K49.1 (Nat.le_of_eq g50.symm)
      have f50_0 : Sta Z h50 "java/lang/String" "COMPACT_STRINGS" "Z" (.int cz) := f49_0.ext E50
      have f50_1 : Arv Z h50 b47 k47 .char (2 : Int32) [(.int (((p1 &&& (255 : Int32)).toUInt32.toUInt16.toUInt32.toInt32).toUInt32.toUInt16.toUInt32.toInt32)), (.int ((((XT.ushr p1 (8 : Int32)) &&& (255 : Int32)).toUInt32.toUInt16.toUInt32.toInt32).toUInt32.toUInt16.toUInt32.toInt32))] (.int (0 : Int32)) := V49.ext E50
      have K50 : Keep h0 h50 [] := K49.ext E50
      have F50_33 : Fld Z h50 b50 "java/lang/String" "coder" "B" (.int (0 : Int32)) := D50 (Or.inr (hw _ (List.mem_of_getElem? (i := 33) rfl))) (ty := .byte) (by decide)
      have F50_35 : Fld Z h50 b50 "java/lang/String" "value" "[B" .null := D50 (Or.inr (hw _ (List.mem_of_getElem? (i := 35) rfl))) (ty := (.array .byte)) (by decide)
      refine own_step (U' := (T50.setTop (mkF m 54 #[.val (.int p1), .val (.ref b47)] [(.ref b50)]))) (fun t ht => st50 _ ht) ?_
      refine own_step (U' := (T50.setTop (mkF m 55 #[.val (.int p1), .val (.ref b47)] [(.ref b50), (.ref b50)]))) (fun t ht => XS.dup X50.here hx rfl (hb hby own_d1_54) rfl rfl ht) ?_
      refine own_step (U' := (T50.setTop (mkF m 56 #[.val (.int p1), .val (.ref b47)] [(.ref b47), (.ref b50), (.ref b50)]))) (fun t ht => XS.aloadN X50.here hx rfl (hb hby own_d1_55) rfl rfl ht) ?_
      have hlat51 : ∀ c ∈ [(((p1 &&& (255 : Int32)).toUInt32.toUInt16.toUInt32.toInt32).toUInt32.toUInt16.toUInt32.toInt32), ((((XT.ushr p1 (8 : Int32)) &&& (255 : Int32)).toUInt32.toUInt16.toUInt32.toInt32).toUInt32.toUInt16.toUInt32.toInt32)], ¬ c < 0 ∧ ¬ (255 : Int32) < c := by
        intro c hc
        simp only [List.mem_cons, List.not_mem_nil, or_false] at hc
        rcases hc with rfl | rfl
        · exact (own_lat _)
        · exact (own_lat _)
      obtain ⟨_, _, ⟨T51, L51, k51, n51⟩, -, X51, ⟨Lc51, hQ51, l51, y51, z51⟩, st51⟩ := X50.specialBack hx (y := (⟨"java/lang/String", "<init>", "([C)V"⟩ : MethodName)) rfl hown (mvT hZ (hw _ (List.mem_of_getElem? (i := 10) rfl))) (mvT hZ (hw _ (List.mem_of_getElem? (i := 11) rfl))) (mvT hZ (hw _ (List.mem_of_getElem? (i := 12) rfl))) (by decide) (StrChars.Road.backV (W := 1) hZ own_hws (kI := 4) (hw _ (List.mem_of_getElem? (i := 8) rfl)) (cs := [(((p1 &&& (255 : Int32)).toUInt32.toUInt16.toUInt32.toInt32).toUInt32.toUInt16.toUInt32.toInt32), ((((XT.ushr p1 (8 : Int32)) &&& (255 : Int32)).toUInt32.toUInt16.toUInt32.toInt32).toUInt32.toUInt16.toUInt32.toInt32)]) (bs := [((((p1 &&& (255 : Int32)).toUInt32.toUInt16.toUInt32.toInt32).toUInt32.toUInt16.toUInt32.toInt32)).toInt8.toInt32, (((((XT.ushr p1 (8 : Int32)) &&& (255 : Int32)).toUInt32.toUInt16.toUInt32.toInt32).toUInt32.toUInt16.toUInt32.toInt32)).toInt8.toInt32]) (n := 2) g_b50 (Nat.le_trans Z0 K50.1) A50 F50_35 F50_33 f50_1 f50_0 hcz rfl rfl (by decide) (by decide) hlat51 rfl (by decide) (by decide)) (g := (mkF m 56 #[.val (.int p1), .val (.ref b47)] [(.ref b47), (.ref b50), (.ref b50)])) rfl (by rw [hml]; rfl) (Steps.refl _) (a := b50) (argsL := [(.ref b47)]) (rest := [(.ref b50)]) (lenOf own_pd4 rfl) rfl (by show 2 * 0 + _ ≤ _; exact Nat.le_of_eq rfl) (hb hby own_d1_56) (fun _ _ => ⟨rfl, e50, (by decide : 2 + 1 ≤ _), (by decide : 6 + 2 ≤ _)⟩)
      dsimp only [Pt.U, Pt.locs, Pt.cells, Pt.slots] at X51 l51 y51 z51 st51 hQ51
      subst l51 y51 z51
      obtain ⟨rfl, Nq51, Kq51, Eq51, Cq51, by51, kb51, gn_by51, sq_by51, nq_by51, Vq51, Aq51⟩ := hQ51
      have N51 := Fr.app N49 Nq51
      have ne_b47_by51 : b47 ≠ by51 := Nat.ne_of_lt (Nat.lt_of_lt_of_le f50_1.lt sq_by51)
      have ne_b50_by51 : b50 ≠ by51 := Nat.ne_of_lt (Nat.lt_of_lt_of_le A50.lt sq_by51)
      have sz_by51 : h0.size ≤ by51 := Nat.le_trans K50.1 sq_by51
      have f51_0 : Sta Z T51.heap "java/lang/String" "COMPACT_STRINGS" "Z" (.int cz) := own_sta_keep f50_0 Kq51 (own_plE A50 own_pl0)
      have f51_1 : Arv Z T51.heap b47 k47 .char (2 : Int32) [(.int (((p1 &&& (255 : Int32)).toUInt32.toUInt16.toUInt32.toInt32).toUInt32.toUInt16.toUInt32.toInt32)), (.int ((((XT.ushr p1 (8 : Int32)) &&& (255 : Int32)).toUInt32.toUInt16.toUInt32.toInt32).toUInt32.toUInt16.toUInt32.toInt32))] (.int (0 : Int32)) := f50_1.keep Kq51 (ninS ne_b47_b50 nin0)
      have f51_2 : Exa Z T51.heap b50 "java/lang/String" := A50.keep Kq51
      have K51 : Keep h0 T51.heap [] := K50.trans Kq51 (allS (Or.inr sz_b50) all0)
      refine own_step (U' := (T51.setTop (mkF m 59 #[.val (.int p1), .val (.ref b47)] [(.ref b50)]))) (fun t ht => st51.trans ht) ?_
      refine own_ret X51 (v := (some (.ref b50))) (fun h => by rw [Bd.returns] at h; cases h) Bd.notSynchronized (by decide) (by decide) ?_ (fun fs hr => retOut X51 hx Bd.returns (own_narR rfl) (Or.inr (Or.inr (Or.inr (Or.inr ⟨rfl, rfl, rfl⟩)))) (hb hby own_d1_59) hr)
      show own_Q_key Z p1 cz h0 n0 _ T51.heap _
      show own_Q_key Z p1 cz h0 n0 _ T51.heap _
      exact ⟨(.ref b50), rfl, N51, K51, (Or.inr ⟨_, rfl, f51_2⟩)⟩
    ·
      refine own_step (U' := (s₁.setTop (mkF m 16 #[.val (.int p1), .unset] []))) (fun t ht => XS.ifNo X0.here hx rfl (hb hby own_d1_13) rfl (XT.i0_eq_f hc13_46) ht) ?_
      refine own_step (U' := (s₁.setTop (mkF m 17 #[.val (.int p1), .unset] [(.int p1)]))) (fun t ht => XS.iloadN X0.here hx rfl (hb hby own_d1_16) rfl ht) ?_
      refine own_step (U' := (s₁.setTop (mkF m 20 #[.val (.int p1), .unset] [(.int (255 : Int32)), (.int p1)]))) (fun t ht => XS.sipush X0.here hx rfl (hb hby own_d1_17) ht) ?_
      refine own_step (U' := (s₁.setTop (mkF m 21 #[.val (.int p1), .unset] [(.int (p1 &&& (255 : Int32)))]))) (fun t ht => XS.iand X0.here hx rfl (hb hby own_d1_20) rfl ht) ?_
      refine own_step (U' := (s₁.setTop (mkF m 22 #[.val (.int p1), .unset] [(.int ((p1 &&& (255 : Int32)).toUInt32.toUInt16.toUInt32.toInt32))]))) (fun t ht => XT.i2c X0.here hx rfl (hb hby own_d1_21) rfl ht) ?_
      obtain ⟨_, _, ⟨T52, L52, k52, n52⟩, -, X52, ⟨Lc52, hQ52, l52, y52, z52⟩, st52⟩ := Jvm.LawKit.callS X0 hx (y := (⟨"java/lang/String", "valueOf", "(C)Ljava/lang/String;"⟩ : MethodName)) hown (mvT hZ (hw _ (List.mem_of_getElem? (i := 85) rfl))) (mvT hZ (hw _ (List.mem_of_getElem? (i := 86) rfl))) (mvT hZ (hw _ (List.mem_of_getElem? (i := 9) rfl))) (mvT hZ (hw _ (List.mem_of_getElem? (i := 87) rfl))) (by decide) (backOf (W := 0) (own_m_vof l Z a0 hw [] (((p1 &&& (255 : Int32)).toUInt32.toUInt16.toUInt32.toInt32)) (cz) h0 n0 Z0 S_cz hcz (own_le255 _)) hZ (hw _ (List.mem_of_getElem? (i := 87) rfl)) (hw _ (List.mem_of_getElem? (i := 9) rfl)) (by decide) (by decide)) (g := (mkF m 22 #[.val (.int p1), .unset] [(.int ((p1 &&& (255 : Int32)).toUInt32.toUInt16.toUInt32.toInt32))])) rfl (by rw [hml]; rfl) (argsL := [(.int ((p1 &&& (255 : Int32)).toUInt32.toUInt16.toUInt32.toInt32))]) (rest := []) (lenOf own_pd5 rfl) rfl (by show 2 * 0 + _ ≤ _; exact Nat.le_of_eq rfl) (hb hby own_d1_22) (fun _ _ => ⟨rfl, e0, (by decide : 0 + 2 ≤ _), (by decide : 0 + 5 ≤ _)⟩)
      dsimp only [Pt.U, Pt.locs, Pt.cells, Pt.slots] at X52 l52 y52 z52 st52 hQ52
      subst l52 y52 z52
      obtain ⟨r_52, rfl, Nq52, Kq52, sq_r_52, Fq52_0⟩ := hQ52
      have N52 := Fr.app N0 Nq52
      have g_r_52 : n0 ≤ r_52 := Nat.le_trans Z0 sq_r_52
      have sz_r_52 : h0.size ≤ r_52 := Nat.le_trans K0.1 sq_r_52
      have f52_0 : Sta Z T52.heap "java/lang/String" "COMPACT_STRINGS" "Z" (.int cz) := own_sta_keep S_cz Kq52 own_pl0
      have K52 : Keep h0 T52.heap [] := K0.trans Kq52 all0
      refine own_step (U' := (T52.setTop (mkF m 25 #[.val (.int p1), .unset] [(.ref r_52)]))) (fun t ht => st52 _ ht) ?_
      refine own_ret X52 (v := (some (.ref r_52))) (fun h => by rw [Bd.returns] at h; cases h) Bd.notSynchronized (by decide) (by decide) ?_ (fun fs hr => retOut X52 hx Bd.returns (own_narR rfl) (Or.inr (Or.inr (Or.inr (Or.inr ⟨rfl, rfl, rfl⟩)))) (hb hby own_d1_25) hr)
      show own_Q_key Z p1 cz h0 n0 _ T52.heap _
      show own_Q_key Z p1 cz h0 n0 _ T52.heap _
      exact ⟨(.ref r_52), rfl, N52, K52, (Or.inr ⟨_, rfl, Fq52_0⟩)⟩
  ·
    refine own_step (U' := (s₁.setTop (mkF m 7 #[.val (.int p1), .unset] []))) (fun t ht => XS.ifNo X0.here hx rfl (hb hby own_d1_4) rfl (XT.i0_eq_f hc4_45) ht) ?_
    refine own_step (U' := (s₁.setTop (mkF m 8 #[.val (.int p1), .unset] [.null]))) (fun t ht => XS.aconstNull X0.here hx rfl (hb hby own_d1_7) ht) ?_
    refine own_ret X0 (v := (some .null)) (fun h => by rw [Bd.returns] at h; cases h) Bd.notSynchronized (by decide) (by decide) ?_ (fun fs hr => retOut X0 hx Bd.returns (own_narR rfl) (Or.inr (Or.inr (Or.inr (Or.inr ⟨rfl, rfl, rfl⟩)))) (hb hby own_d1_8) hr)
    show own_Q_key Z p1 cz h0 n0 _ s₁.heap _
    rw [e0]
    exact ⟨.null, rfl, N0, K0, (Or.inl rfl)⟩
theorem own_pd6 : parseMethodDescriptor "(I)Ljava/lang/String;" = some ⟨[.int], some (.object "java/lang/String")⟩ := by decide +kernel
theorem own_pd7 : parseMethodDescriptor "()J" = some ⟨[], some .long⟩ := by decide +kernel
theorem own_pd8 : parseMethodDescriptor "()Z" = some ⟨[], some .boolean⟩ := by decide +kernel
theorem own_pd9 : parseMethodDescriptor "(Ljava/lang/String;)V" = some ⟨[(.object "java/lang/String")], none⟩ := by decide +kernel
theorem own_pd10 : parseMethodDescriptor "()Ljava/lang/String;" = some ⟨[], some (.object "java/lang/String")⟩ := by decide +kernel
def own_Q_law (Z : State) (p1 : Int32) (p2 : Int32) (p3 : Int32) (p4 : Int32) (cz : Int32) (h0 : Heap) (n0 : Nat) (v : Option Value) (h : Heap) (L : List Loc) : Prop := v = some (.int 1) ∧ Fr n0 L
set_option maxRecDepth 65536 in
set_option maxHeartbeats 40000000 in
theorem own_m_law (l : Launch) (Z : State) (a0 : Array Value) (hw : ∀ d ∈ tables_1, d.before a0 Z = true) (ws : List Jvm.Cond) (p1 : Int32) (p2 : Int32) (p3 : Int32) (p4 : Int32) (cz : Int32) (h0 : Heap) (n0 : Nat) (Z0 : n0 ≤ h0.size) (S_cz : Sta Z h0 "java/lang/String" "COMPACT_STRINGS" "Z" (.int cz)) (hcz : ¬ cz = 0) :
    MetFree l x (head1 (Jvm.Cond.code x code maxLocals ret :: ws) room_1) (fun a U => a = #[(.int p1), (.int p2), (.int p3), (.int p4)] ∧ Z.Warmed39 U.vm ∧ U.heap = h0) (fun _ _ _ _ _ => True) (fun _ U o U' => ∃ v L, o = .returned v ∧ own_Q_law Z p1 p2 p3 p4 cz h0 n0 v U'.heap L ∧ FrameEnd U o U' L 12 1055) := by
  refine MetFree.of_bodySF (plainFor_of_name own_pn4) hisR ?_
  intro p e s m args below meth c s₁ Bd hml0 hP hK
  obtain ⟨rfl, hZ, hh⟩ := hP
  have hx := Bd.exec
  have hby := Bd.bytes
  have hml : c.maxLocals = 9 := hml0
  have hown : s.vm.findClass "com/example/call_throttle/callthrottle/KeyQueueAddLastPinLaw" = some m.cls := findClass_of_methodNamed Bd.named
  have hnm := (name_of_methodNamed Bd.named Bd.method).1
  have X0 : Stand p l e room_1 s m #[(.int p1), (.int p2), (.int p3), (.int p4)] below meth c s₁ [] 0 0 := Stand.of_body Bd
  have e0 : s₁.heap = h0 := by rw [← hh, Bd.state]; rfl
  have N0 := Fr.nil n0
  have K0 : Keep h0 h0 [] := Keep.refl _ _
  show own_Go p e below s 12 1055 (own_Q_law Z p1 p2 p3 p4 cz h0 n0) (s₁.setTop (entryFrame m #[(.int p1), (.int p2), (.int p3), (.int p4)] maxLocals))
  have ef : entryFrame m #[(.int p1), (.int p2), (.int p3), (.int p4)] maxLocals = (mkF m 0 #[.val (.int p1), .val (.int p2), .val (.int p3), .val (.int p4), .unset, .unset, .unset, .unset, .unset] []) := by first | rfl | (simp [entryFrame, mkF, argsToLocals, Value.category, maxLocals]; done)
  rw [ef]
  show own_Go p e below s _ _ _ (s₁.setTop (mkF m 0 #[.val (.int p1), .val (.int p2), .val (.int p3), .val (.int p4), .unset, .unset, .unset, .unset, .unset] []))
  refine own_step (U' := (s₁.setTop (mkF m 1 #[.val (.int p1), .val (.int p2), .val (.int p3), .val (.int p4), .unset, .unset, .unset, .unset, .unset] [(.int p1)]))) (fun t ht => XS.iloadN X0.here hx rfl (hb hby at_0) rfl ht) ?_
  refine own_step (U' := (s₁.setTop (mkF m 2 #[.val (.int p1), .val (.int p2), .val (.int p3), .val (.int p4), .unset, .unset, .unset, .unset, .unset] [(.int (3 : Int32)), (.int p1)]))) (fun t ht => XS.iconst X0.here hx rfl (hb hby at_1) ht) ?_
  refine own_step (U' := (s₁.setTop (mkF m 3 #[.val (.int p1), .val (.int p2), .val (.int p3), .val (.int p4), .unset, .unset, .unset, .unset, .unset] [(.int (p1 &&& (3 : Int32)))]))) (fun t ht => XS.iand X0.here hx rfl (hb hby at_2) rfl ht) ?_
  refine own_step (U' := (s₁.setTop (mkF m 5 #[.val (.int p1), .val (.int p2), .val (.int p3), .val (.int p4), .val (.int (p1 &&& (3 : Int32))), .unset, .unset, .unset, .unset] []))) (fun t ht => XS.istore X0.here hx rfl (hb hby at_3) rfl (l' := #[.val (.int p1), .val (.int p2), .val (.int p3), .val (.int p4), .val (.int (p1 &&& (3 : Int32))), .unset, .unset, .unset, .unset]) rfl ht) ?_
  generalize h_cnt : (p1 &&& (3 : Int32)) = cnt
  refine own_step (U' := (s₁.setTop (mkF m 6 #[.val (.int p1), .val (.int p2), .val (.int p3), .val (.int p4), .val (.int cnt), .unset, .unset, .unset, .unset] [(.int p2)]))) (fun t ht => XS.iloadN X0.here hx rfl (hb hby at_5) rfl ht) ?_
  obtain ⟨_, _, ⟨T53, L53, k53, n53⟩, -, X53, ⟨Lc53, hQ53, l53, y53, z53⟩, st53⟩ := Jvm.LawKit.callS X0 hx (y := (⟨"com/example/call_throttle/callthrottle/KeyQueueAddLastPinLaw", "key", "(I)Ljava/lang/String;"⟩ : MethodName)) hown (mvT hZ (hw _ (List.mem_of_getElem? (i := 0) rfl))) (mvT hZ (hw _ (List.mem_of_getElem? (i := 1) rfl))) (mvT hZ (hw _ (List.mem_of_getElem? (i := 2) rfl))) (mvT hZ (hw _ (List.mem_of_getElem? (i := 3) rfl))) (by decide) (backOf (W := 0) (own_m_key l Z a0 hw [] (p2) (cz) h0 n0 Z0 S_cz hcz) hZ (hw _ (List.mem_of_getElem? (i := 3) rfl)) (hw _ (List.mem_of_getElem? (i := 2) rfl)) (by decide) (by decide)) (g := (mkF m 6 #[.val (.int p1), .val (.int p2), .val (.int p3), .val (.int p4), .val (.int cnt), .unset, .unset, .unset, .unset] [(.int p2)])) rfl (by rw [hml]; rfl) (argsL := [(.int p2)]) (rest := []) (lenOf own_pd6 rfl) rfl (by show 2 * 0 + _ ≤ _; exact Nat.le_of_eq rfl) (hb hby at_6) (fun _ _ => ⟨rfl, e0, (by decide : 0 + 3 ≤ _), (by decide : 0 + 8 ≤ _)⟩)
  dsimp only [Pt.U, Pt.locs, Pt.cells, Pt.slots] at X53 l53 y53 z53 st53 hQ53
  subst l53 y53 z53
  obtain ⟨u_53, rfl, Nq53, Kq53, Fq53_0⟩ := hQ53
  have N53 := Fr.app N0 Nq53
  have f53_0 : Sta Z T53.heap "java/lang/String" "COMPACT_STRINGS" "Z" (.int cz) := own_sta_keep S_cz Kq53 own_pl0
  have K53 : Keep h0 T53.heap [] := K0.trans Kq53 all0
  refine own_step (U' := (T53.setTop (mkF m 9 #[.val (.int p1), .val (.int p2), .val (.int p3), .val (.int p4), .val (.int cnt), .unset, .unset, .unset, .unset] [u_53]))) (fun t ht => st53 _ ht) ?_
  refine own_step (U' := (T53.setTop (mkF m 11 #[.val (.int p1), .val (.int p2), .val (.int p3), .val (.int p4), .val (.int cnt), .val u_53, .unset, .unset, .unset] []))) (fun t ht => XS.astore X53.here hx rfl (hb hby at_9) rfl Fq53_0.isRef (l' := #[.val (.int p1), .val (.int p2), .val (.int p3), .val (.int p4), .val (.int cnt), .val u_53, .unset, .unset, .unset]) (by first | rfl | exact XS.store1 rfl (by first | exact Or.inl rfl | exact Or.inr ⟨_, rfl, rfl⟩ | exact XT.slot1 rfl) (by first | rfl | exact XT.cat1 Fq53_0.isRef)) ht) ?_
  refine own_step (U' := (T53.setTop (mkF m 12 #[.val (.int p1), .val (.int p2), .val (.int p3), .val (.int p4), .val (.int cnt), .val u_53, .unset, .unset, .unset] [(.int p3)]))) (fun t ht => XS.iloadN X53.here hx rfl (hb hby at_11) rfl ht) ?_
  obtain ⟨_, _, ⟨T54, L54, k54, n54⟩, -, X54, ⟨Lc54, hQ54, l54, y54, z54⟩, st54⟩ := Jvm.LawKit.callS X53 hx (y := (⟨"com/example/call_throttle/callthrottle/KeyQueueAddLastPinLaw", "key", "(I)Ljava/lang/String;"⟩ : MethodName)) hown (mvT hZ (hw _ (List.mem_of_getElem? (i := 0) rfl))) (mvT hZ (hw _ (List.mem_of_getElem? (i := 1) rfl))) (mvT hZ (hw _ (List.mem_of_getElem? (i := 2) rfl))) (mvT hZ (hw _ (List.mem_of_getElem? (i := 3) rfl))) (by decide) (backOf (W := 0) (own_m_key l Z a0 hw [] (p3) (cz) T53.heap n0 (Nat.le_trans Z0 K53.1) f53_0 hcz) hZ (hw _ (List.mem_of_getElem? (i := 3) rfl)) (hw _ (List.mem_of_getElem? (i := 2) rfl)) (by decide) (by decide)) (g := (mkF m 12 #[.val (.int p1), .val (.int p2), .val (.int p3), .val (.int p4), .val (.int cnt), .val u_53, .unset, .unset, .unset] [(.int p3)])) rfl (by rw [hml]; rfl) (argsL := [(.int p3)]) (rest := []) (lenOf own_pd6 rfl) rfl (by show 2 * 0 + _ ≤ _; exact Nat.le_of_eq rfl) (hb hby at_12) (fun _ _ => ⟨rfl, rfl, (by decide : 3 + 3 ≤ _), (by decide : 8 + 8 ≤ _)⟩)
  dsimp only [Pt.U, Pt.locs, Pt.cells, Pt.slots] at X54 l54 y54 z54 st54 hQ54
  subst l54 y54 z54
  obtain ⟨u_54, rfl, Nq54, Kq54, Fq54_0⟩ := hQ54
  have N54 := Fr.app N53 Nq54
  have f54_0 : Sta Z T54.heap "java/lang/String" "COMPACT_STRINGS" "Z" (.int cz) := own_sta_keep f53_0 Kq54 own_pl0
  have f54_1 : own_Key Z T54.heap u_53 := Fq53_0.keep Kq54
  have K54 : Keep h0 T54.heap [] := K53.trans Kq54 all0
  refine own_step (U' := (T54.setTop (mkF m 15 #[.val (.int p1), .val (.int p2), .val (.int p3), .val (.int p4), .val (.int cnt), .val u_53, .unset, .unset, .unset] [u_54]))) (fun t ht => st54 _ ht) ?_
  refine own_step (U' := (T54.setTop (mkF m 17 #[.val (.int p1), .val (.int p2), .val (.int p3), .val (.int p4), .val (.int cnt), .val u_53, .val u_54, .unset, .unset] []))) (fun t ht => XS.astore X54.here hx rfl (hb hby at_15) rfl Fq54_0.isRef (l' := #[.val (.int p1), .val (.int p2), .val (.int p3), .val (.int p4), .val (.int cnt), .val u_53, .val u_54, .unset, .unset]) (by first | rfl | exact XS.store1 rfl (by first | exact Or.inl rfl | exact Or.inr ⟨_, rfl, rfl⟩ | exact XT.slot1 rfl) (by first | rfl | exact XT.cat1 Fq54_0.isRef)) ht) ?_
  refine own_step (U' := (T54.setTop (mkF m 18 #[.val (.int p1), .val (.int p2), .val (.int p3), .val (.int p4), .val (.int cnt), .val u_53, .val u_54, .unset, .unset] [(.int p4)]))) (fun t ht => XS.iloadN X54.here hx rfl (hb hby at_17) rfl ht) ?_
  obtain ⟨_, _, ⟨T55, L55, k55, n55⟩, -, X55, ⟨Lc55, hQ55, l55, y55, z55⟩, st55⟩ := Jvm.LawKit.callS X54 hx (y := (⟨"com/example/call_throttle/callthrottle/KeyQueueAddLastPinLaw", "key", "(I)Ljava/lang/String;"⟩ : MethodName)) hown (mvT hZ (hw _ (List.mem_of_getElem? (i := 0) rfl))) (mvT hZ (hw _ (List.mem_of_getElem? (i := 1) rfl))) (mvT hZ (hw _ (List.mem_of_getElem? (i := 2) rfl))) (mvT hZ (hw _ (List.mem_of_getElem? (i := 3) rfl))) (by decide) (backOf (W := 0) (own_m_key l Z a0 hw [] (p4) (cz) T54.heap n0 (Nat.le_trans Z0 K54.1) f54_0 hcz) hZ (hw _ (List.mem_of_getElem? (i := 3) rfl)) (hw _ (List.mem_of_getElem? (i := 2) rfl)) (by decide) (by decide)) (g := (mkF m 18 #[.val (.int p1), .val (.int p2), .val (.int p3), .val (.int p4), .val (.int cnt), .val u_53, .val u_54, .unset, .unset] [(.int p4)])) rfl (by rw [hml]; rfl) (argsL := [(.int p4)]) (rest := []) (lenOf own_pd6 rfl) rfl (by show 2 * 0 + _ ≤ _; exact Nat.le_of_eq rfl) (hb hby at_18) (fun _ _ => ⟨rfl, rfl, (by decide : 6 + 3 ≤ _), (by decide : 16 + 8 ≤ _)⟩)
  dsimp only [Pt.U, Pt.locs, Pt.cells, Pt.slots] at X55 l55 y55 z55 st55 hQ55
  subst l55 y55 z55
  obtain ⟨u_55, rfl, Nq55, Kq55, Fq55_0⟩ := hQ55
  have N55 := Fr.app N54 Nq55
  have f55_0 : Sta Z T55.heap "java/lang/String" "COMPACT_STRINGS" "Z" (.int cz) := own_sta_keep f54_0 Kq55 own_pl0
  have f55_1 : own_Key Z T55.heap u_53 := f54_1.keep Kq55
  have f55_2 : own_Key Z T55.heap u_54 := Fq54_0.keep Kq55
  have K55 : Keep h0 T55.heap [] := K54.trans Kq55 all0
  refine own_step (U' := (T55.setTop (mkF m 21 #[.val (.int p1), .val (.int p2), .val (.int p3), .val (.int p4), .val (.int cnt), .val u_53, .val u_54, .unset, .unset] [u_55]))) (fun t ht => st55 _ ht) ?_
  refine own_step (U' := (T55.setTop (mkF m 23 #[.val (.int p1), .val (.int p2), .val (.int p3), .val (.int p4), .val (.int cnt), .val u_53, .val u_54, .val u_55, .unset] []))) (fun t ht => XS.astore X55.here hx rfl (hb hby at_21) rfl Fq55_0.isRef (l' := #[.val (.int p1), .val (.int p2), .val (.int p3), .val (.int p4), .val (.int cnt), .val u_53, .val u_54, .val u_55, .unset]) (by first | rfl | exact XS.store1 rfl (by first | exact Or.inl rfl | exact Or.inr ⟨_, rfl, rfl⟩ | exact XT.slot1 rfl) (by first | rfl | exact XT.cat1 Fq55_0.isRef)) ht) ?_
  obtain ⟨T56, h56, X56, e56, E56, A56, D56, -, st56⟩ := newO X55 hx hZ hown (hw _ (List.mem_of_getElem? (i := 36) rfl)) (hw _ (List.mem_of_getElem? (i := 37) rfl)) (hw _ (List.mem_of_getElem? (i := 38) rfl)) rfl (g := (mkF m 23 #[.val (.int p1), .val (.int p2), .val (.int p3), .val (.int p4), .val (.int cnt), .val u_53, .val u_54, .val u_55, .unset] [])) rfl (hb hby at_23) (by decide) (by decide)
  obtain ⟨b56, g56⟩ : ∃ z, z = (T55.heap).size := ⟨_, rfl⟩
  rw [← g56] at A56 D56 st56
  have g_b56 : n0 ≤ b56 := Nat.le_trans (Nat.le_trans Z0 K55.1) (Nat.le_of_eq g56.symm)
  have sz_b56 : h0.size ≤ b56 := Nat.le_trans K55.1 (Nat.le_of_eq g56.symm)
  have f56_0 : Sta Z h56 "java/lang/String" "COMPACT_STRINGS" "Z" (.int cz) := f55_0.ext E56
  have f56_1 : own_Key Z h56 u_53 := f55_1.ext E56
  have f56_2 : own_Key Z h56 u_54 := f55_2.ext E56
  have f56_3 : own_Key Z h56 u_55 := Fq55_0.ext E56
  have K56 : Keep h0 h56 [] := K55.ext E56
  have F56_55 : Fld Z h56 b56 "com/example/call_throttle/callthrottle/KeyQueue" "first" "Lcom/example/call_throttle/callthrottle/KeyQueue$Chunk;" .null := D56 (Or.inl (hw _ (List.mem_of_getElem? (i := 55) rfl))) (ty := (.object "com/example/call_throttle/callthrottle/KeyQueue$Chunk")) (by decide)
  have F56_57 : Fld Z h56 b56 "com/example/call_throttle/callthrottle/KeyQueue" "last" "Lcom/example/call_throttle/callthrottle/KeyQueue$Chunk;" .null := D56 (Or.inl (hw _ (List.mem_of_getElem? (i := 57) rfl))) (ty := (.object "com/example/call_throttle/callthrottle/KeyQueue$Chunk")) (by decide)
  have F56_64 : Fld Z h56 b56 "com/example/call_throttle/callthrottle/KeyQueue" "size" "J" (.long (0 : Int64)) := D56 (Or.inl (hw _ (List.mem_of_getElem? (i := 64) rfl))) (ty := .long) (by decide)
  have F56_76 : Fld Z h56 b56 "com/example/call_throttle/callthrottle/KeyQueue" "lastIndex" "I" (.int (0 : Int32)) := D56 (Or.inl (hw _ (List.mem_of_getElem? (i := 76) rfl))) (ty := .int) (by decide)
  have F56_84 : Fld Z h56 b56 "com/example/call_throttle/callthrottle/KeyQueue" "firstIndex" "I" (.int (0 : Int32)) := D56 (Or.inl (hw _ (List.mem_of_getElem? (i := 84) rfl))) (ty := .int) (by decide)
  refine own_step (U' := (T56.setTop (mkF m 26 #[.val (.int p1), .val (.int p2), .val (.int p3), .val (.int p4), .val (.int cnt), .val u_53, .val u_54, .val u_55, .unset] [(.ref b56)]))) (fun t ht => st56 _ ht) ?_
  refine own_step (U' := (T56.setTop (mkF m 27 #[.val (.int p1), .val (.int p2), .val (.int p3), .val (.int p4), .val (.int cnt), .val u_53, .val u_54, .val u_55, .unset] [(.ref b56), (.ref b56)]))) (fun t ht => XS.dup X56.here hx rfl (hb hby at_26) rfl rfl ht) ?_
  obtain ⟨_, _, ⟨T57, L57, k57, n57⟩, -, X57, ⟨Lc57, hQ57, l57, y57, z57⟩, st57⟩ := X56.specialBack hx (y := (⟨"com/example/call_throttle/callthrottle/KeyQueue", "<init>", "()V"⟩ : MethodName)) rfl hown (mvT hZ (hw _ (List.mem_of_getElem? (i := 39) rfl))) (mvT hZ (hw _ (List.mem_of_getElem? (i := 40) rfl))) (mvT hZ (hw _ (List.mem_of_getElem? (i := 41) rfl))) (by decide) (backOf (W := 1) (own_m_kqi l Z a0 hw [] (b56) (.null) (.null) ((0 : Int32)) ((0 : Int32)) ((0 : Int64)) h56 n0 (Nat.le_trans Z0 K56.1) g_b56 F56_55 F56_57 F56_84 F56_76 F56_64 A56) hZ (hw _ (List.mem_of_getElem? (i := 41) rfl)) (hw _ (List.mem_of_getElem? (i := 38) rfl)) (by decide) (by decide)) (g := (mkF m 27 #[.val (.int p1), .val (.int p2), .val (.int p3), .val (.int p4), .val (.int cnt), .val u_53, .val u_54, .val u_55, .unset] [(.ref b56), (.ref b56)])) rfl (by rw [hml]; rfl) (Steps.refl _) (a := b56) (argsL := []) (rest := [(.ref b56)]) (lenOf own_pd3 rfl) rfl (by show 2 * 0 + _ ≤ _; exact Nat.le_of_eq rfl) (hb hby at_27) (fun _ _ => ⟨rfl, e56, (by decide : 10 + 2 ≤ _), (by decide : 29 + 1026 ≤ _)⟩)
  dsimp only [Pt.U, Pt.locs, Pt.cells, Pt.slots] at X57 l57 y57 z57 st57 hQ57
  subst l57 y57 z57
  obtain ⟨c1_57, r1_57, kA_57, rfl, Nq57, Kq57, sq_c1_57, sq_r1_57, p57_0, p57_1, p57_2, Fq57_0, Fq57_1, Fq57_2, Fq57_3, Fq57_4, Fq57_5, Fq57_6, Fq57_7, Fq57_8⟩ := hQ57
  have N57 := Fr.app N55 Nq57
  have ne_b56_c1_57 : b56 ≠ c1_57 := Nat.ne_of_lt (Nat.lt_of_lt_of_le A56.lt sq_c1_57)
  have g_c1_57 : n0 ≤ c1_57 := Nat.le_trans (Nat.le_trans Z0 K56.1) sq_c1_57
  have sz_c1_57 : h0.size ≤ c1_57 := Nat.le_trans K56.1 sq_c1_57
  have ne_b56_r1_57 : b56 ≠ r1_57 := Nat.ne_of_lt (Nat.lt_of_lt_of_le A56.lt sq_r1_57)
  have g_r1_57 : n0 ≤ r1_57 := Nat.le_trans (Nat.le_trans Z0 K56.1) sq_r1_57
  have sz_r1_57 : h0.size ≤ r1_57 := Nat.le_trans K56.1 sq_r1_57
  have f57_0 : Sta Z T57.heap "java/lang/String" "COMPACT_STRINGS" "Z" (.int cz) := own_sta_keep f56_0 Kq57 (own_plE A56 own_pl0)
  have f57_1 : own_Key Z T57.heap u_53 := f56_1.keep Kq57
  have f57_2 : own_Key Z T57.heap u_54 := f56_2.keep Kq57
  have f57_3 : own_Key Z T57.heap u_55 := f56_3.keep Kq57
  have f57_4 : Exa Z T57.heap b56 "com/example/call_throttle/callthrottle/KeyQueue" := A56.keep Kq57
  have K57 : Keep h0 T57.heap [] := K56.trans Kq57 (allS (Or.inr sz_b56) all0)
  refine own_step (U' := (T57.setTop (mkF m 30 #[.val (.int p1), .val (.int p2), .val (.int p3), .val (.int p4), .val (.int cnt), .val u_53, .val u_54, .val u_55, .unset] [(.ref b56)]))) (fun t ht => st57.trans ht) ?_
  refine own_step (U' := (T57.setTop (mkF m 32 #[.val (.int p1), .val (.int p2), .val (.int p3), .val (.int p4), .val (.int cnt), .val u_53, .val u_54, .val u_55, .val (.ref b56)] []))) (fun t ht => XS.astore X57.here hx rfl (hb hby at_30) rfl rfl (l' := #[.val (.int p1), .val (.int p2), .val (.int p3), .val (.int p4), .val (.int cnt), .val u_53, .val u_54, .val u_55, .val (.ref b56)]) rfl ht) ?_
  rcases own_four h_cnt with rfl | rfl | rfl | rfl
  ·
    refine own_step (U' := (T57.setTop (mkF m 34 #[.val (.int p1), .val (.int p2), .val (.int p3), .val (.int p4), .val (.int (0 : Int32)), .val u_53, .val u_54, .val u_55, .val (.ref b56)] [(.int (0 : Int32))]))) (fun t ht => XS.iload X57.here hx rfl (hb hby at_32) rfl ht) ?_
    refine own_step (U' := (T57.setTop (mkF m 35 #[.val (.int p1), .val (.int p2), .val (.int p3), .val (.int p4), .val (.int (0 : Int32)), .val u_53, .val u_54, .val u_55, .val (.ref b56)] [(.int (1 : Int32)), (.int (0 : Int32))]))) (fun t ht => XS.iconst X57.here hx rfl (hb hby at_34) ht) ?_
    refine own_step (U' := (T57.setTop (mkF m 45 #[.val (.int p1), .val (.int p2), .val (.int p3), .val (.int p4), .val (.int (0 : Int32)), .val u_53, .val u_54, .val u_55, .val (.ref b56)] []))) (fun t ht => XS.icmpYes X57.here hx rfl (pc0 := 35) (pc' := 45) rfl (hb hby at_35) rfl (XT.ii_lt_t ((by decide) : (0 : Int32) < (1 : Int32))) (by decide) (by decide) ht) ?_
    refine own_step (U' := (T57.setTop (mkF m 47 #[.val (.int p1), .val (.int p2), .val (.int p3), .val (.int p4), .val (.int (0 : Int32)), .val u_53, .val u_54, .val u_55, .val (.ref b56)] [(.int (0 : Int32))]))) (fun t ht => XS.iload X57.here hx rfl (hb hby at_45) rfl ht) ?_
    refine own_step (U' := (T57.setTop (mkF m 48 #[.val (.int p1), .val (.int p2), .val (.int p3), .val (.int p4), .val (.int (0 : Int32)), .val u_53, .val u_54, .val u_55, .val (.ref b56)] [(.int (2 : Int32)), (.int (0 : Int32))]))) (fun t ht => XS.iconst X57.here hx rfl (hb hby at_47) ht) ?_
    refine own_step (U' := (T57.setTop (mkF m 58 #[.val (.int p1), .val (.int p2), .val (.int p3), .val (.int p4), .val (.int (0 : Int32)), .val u_53, .val u_54, .val u_55, .val (.ref b56)] []))) (fun t ht => XS.icmpYes X57.here hx rfl (pc0 := 48) (pc' := 58) rfl (hb hby at_48) rfl (XT.ii_lt_t ((by decide) : (0 : Int32) < (2 : Int32))) (by decide) (by decide) ht) ?_
    refine own_step (U' := (T57.setTop (mkF m 60 #[.val (.int p1), .val (.int p2), .val (.int p3), .val (.int p4), .val (.int (0 : Int32)), .val u_53, .val u_54, .val u_55, .val (.ref b56)] [(.int (0 : Int32))]))) (fun t ht => XS.iload X57.here hx rfl (hb hby at_58) rfl ht) ?_
    refine own_step (U' := (T57.setTop (mkF m 61 #[.val (.int p1), .val (.int p2), .val (.int p3), .val (.int p4), .val (.int (0 : Int32)), .val u_53, .val u_54, .val u_55, .val (.ref b56)] [(.int (3 : Int32)), (.int (0 : Int32))]))) (fun t ht => XS.iconst X57.here hx rfl (hb hby at_60) ht) ?_
    refine own_step (U' := (T57.setTop (mkF m 71 #[.val (.int p1), .val (.int p2), .val (.int p3), .val (.int p4), .val (.int (0 : Int32)), .val u_53, .val u_54, .val u_55, .val (.ref b56)] []))) (fun t ht => XS.icmpYes X57.here hx rfl (pc0 := 61) (pc' := 71) rfl (hb hby at_61) rfl (XT.ii_lt_t ((by decide) : (0 : Int32) < (3 : Int32))) (by decide) (by decide) ht) ?_
    refine own_step (U' := (T57.setTop (mkF m 73 #[.val (.int p1), .val (.int p2), .val (.int p3), .val (.int p4), .val (.int (0 : Int32)), .val u_53, .val u_54, .val u_55, .val (.ref b56)] [(.ref b56)]))) (fun t ht => XS.aload X57.here hx rfl (hb hby at_71) rfl rfl ht) ?_
    obtain ⟨cq58, kq58, q58a, q58b, q58c⟩ := isOf hZ rfl Fq57_5
    obtain ⟨_, _, ⟨T58, L58, k58, n58⟩, -, X58, ⟨Lc58, hQ58, l58, y58, z58⟩, st58⟩ := X57.virtualBack hx (y := (⟨"com/example/call_throttle/callthrottle/KeyQueue", "size", "()J"⟩ : MethodName)) (z := (⟨"com/example/call_throttle/callthrottle/KeyQueue", "size", "()J"⟩ : MethodName)) hown (mvT hZ (hw _ (List.mem_of_getElem? (i := 58) rfl))) (mvT hZ (hw _ (List.mem_of_getElem? (i := 59) rfl))) (notFace_of_selects (args := #[]) (mvT hZ (hw _ (List.mem_of_getElem? (i := 61) rfl)))) (mvT hZ (hw _ (List.mem_of_getElem? (i := 61) rfl))) (mvT hZ (hw _ (List.mem_of_getElem? (i := 60) rfl))) (by decide) (backOf (W := 0) (own_m_siz l Z a0 hw [] (b56) ((0 : Int64)) T57.heap n0 (Nat.le_trans Z0 K57.1) Fq57_4) hZ (hw _ (List.mem_of_getElem? (i := 62) rfl)) (hw _ (List.mem_of_getElem? (i := 38) rfl)) (by decide) (by decide)) q58a q58c (g := (mkF m 73 #[.val (.int p1), .val (.int p2), .val (.int p3), .val (.int p4), .val (.int (0 : Int32)), .val u_53, .val u_54, .val u_55, .val (.ref b56)] [(.ref b56)])) rfl (by rw [hml]; rfl) (Steps.refl _) (argsL := []) (rest := []) (lenOf own_pd7 rfl) rfl (by show 2 * 0 + _ ≤ _; exact Nat.le_of_eq rfl) (hb hby at_73) (fun _ _ => ⟨rfl, rfl, (by decide : 12 + 0 ≤ _), (by decide : 1055 + 0 ≤ _)⟩)
    dsimp only [Pt.U, Pt.locs, Pt.cells, Pt.slots] at X58 l58 y58 z58 st58 hQ58
    subst l58 y58 z58
    obtain ⟨rfl, Nq58, Kq58⟩ := hQ58
    have N58 := Fr.app N57 Nq58
    have e58 : T58.heap = T57.heap := Kq58
    refine own_step (U' := (T58.setTop (mkF m 76 #[.val (.int p1), .val (.int p2), .val (.int p3), .val (.int p4), .val (.int (0 : Int32)), .val u_53, .val u_54, .val u_55, .val (.ref b56)] [(.long (0 : Int64))]))) (fun t ht => st58.trans ht) ?_
    refine own_step (U' := (T58.setTop (mkF m 78 #[.val (.int p1), .val (.int p2), .val (.int p3), .val (.int p4), .val (.int (0 : Int32)), .val u_53, .val u_54, .val u_55, .val (.ref b56)] [(.int (0 : Int32)), (.long (0 : Int64))]))) (fun t ht => XS.iload X58.here hx rfl (hb hby at_76) rfl ht) ?_
    refine own_step (U' := (T58.setTop (mkF m 79 #[.val (.int p1), .val (.int p2), .val (.int p3), .val (.int p4), .val (.int (0 : Int32)), .val u_53, .val u_54, .val u_55, .val (.ref b56)] [(.long ((0 : Int32).toInt64)), (.long (0 : Int64))]))) (fun t ht => XT.i2l X58.here hx rfl (hb hby at_78) rfl ht) ?_
    refine own_step (U' := (T58.setTop (mkF m 80 #[.val (.int p1), .val (.int p2), .val (.int p3), .val (.int p4), .val (.int (0 : Int32)), .val u_53, .val u_54, .val u_55, .val (.ref b56)] [(.int (XT.cmpL (0 : Int64) ((0 : Int32).toInt64)))]))) (fun t ht => XT.lcmp X58.here hx rfl (hb hby at_79) rfl ht) ?_
    refine own_step (U' := (T58.setTop (mkF m 85 #[.val (.int p1), .val (.int p2), .val (.int p3), .val (.int p4), .val (.int (0 : Int32)), .val u_53, .val u_54, .val u_55, .val (.ref b56)] []))) (fun t ht => XS.ifYes X58.here hx rfl (pc0 := 80) (pc' := 85) rfl (hb hby at_80) rfl (XT.ll_eq_t ((by decide) : (0 : Int64) = ((0 : Int32).toInt64))) (by decide) (by decide) ht) ?_
    refine own_step (U' := (T58.setTop (mkF m 87 #[.val (.int p1), .val (.int p2), .val (.int p3), .val (.int p4), .val (.int (0 : Int32)), .val u_53, .val u_54, .val u_55, .val (.ref b56)] [(.ref b56)]))) (fun t ht => XS.aload X58.here hx rfl (hb hby at_85) rfl rfl ht) ?_
    obtain ⟨cq59, kq59, q59a, q59b, q59c⟩ := isOf hZ e58 Fq57_5
    obtain ⟨_, _, ⟨T59, L59, k59, n59⟩, -, X59, ⟨Lc59, hQ59, l59, y59, z59⟩, st59⟩ := X58.virtualBack hx (y := (⟨"com/example/call_throttle/callthrottle/KeyQueue", "isEmpty", "()Z"⟩ : MethodName)) (z := (⟨"com/example/call_throttle/callthrottle/KeyQueue", "isEmpty", "()Z"⟩ : MethodName)) hown (mvT hZ (hw _ (List.mem_of_getElem? (i := 65) rfl))) (mvT hZ (hw _ (List.mem_of_getElem? (i := 66) rfl))) (notFace_of_selects (args := #[]) (mvT hZ (hw _ (List.mem_of_getElem? (i := 68) rfl)))) (mvT hZ (hw _ (List.mem_of_getElem? (i := 68) rfl))) (mvT hZ (hw _ (List.mem_of_getElem? (i := 67) rfl))) (by decide) (backOf (W := 0) (own_m_ie l Z a0 hw [] (b56) ((0 : Int64)) T57.heap n0 (Nat.le_trans Z0 K57.1) Fq57_4) hZ (hw _ (List.mem_of_getElem? (i := 69) rfl)) (hw _ (List.mem_of_getElem? (i := 38) rfl)) (by decide) (by decide)) q59a q59c (g := (mkF m 87 #[.val (.int p1), .val (.int p2), .val (.int p3), .val (.int p4), .val (.int (0 : Int32)), .val u_53, .val u_54, .val u_55, .val (.ref b56)] [(.ref b56)])) rfl (by rw [hml]; rfl) (Steps.refl _) (argsL := []) (rest := []) (lenOf own_pd8 rfl) rfl (by show 2 * 0 + _ ≤ _; exact Nat.le_of_eq rfl) (hb hby at_87) (fun _ _ => ⟨rfl, e58, (by decide : 12 + 0 ≤ _), (by decide : 1055 + 0 ≤ _)⟩)
    dsimp only [Pt.U, Pt.locs, Pt.cells, Pt.slots] at X59 l59 y59 z59 st59 hQ59
    subst l59 y59 z59
    obtain ⟨rfl, Nq59, Kq59⟩ := hQ59
    have N59 := Fr.app N58 Nq59
    have e59 : T59.heap = T57.heap := Kq59
    refine own_step (U' := (T59.setTop (mkF m 90 #[.val (.int p1), .val (.int p2), .val (.int p3), .val (.int p4), .val (.int (0 : Int32)), .val u_53, .val u_54, .val u_55, .val (.ref b56)] [(.int (own_ie (0 : Int64)))]))) (fun t ht => st59.trans ht) ?_
    refine own_step (U' := (T59.setTop (mkF m 92 #[.val (.int p1), .val (.int p2), .val (.int p3), .val (.int p4), .val (.int (0 : Int32)), .val u_53, .val u_54, .val u_55, .val (.ref b56)] [(.int (0 : Int32)), (.int (own_ie (0 : Int64)))]))) (fun t ht => XS.iload X59.here hx rfl (hb hby at_90) rfl ht) ?_
    refine own_step (U' := (T59.setTop (mkF m 95 #[.val (.int p1), .val (.int p2), .val (.int p3), .val (.int p4), .val (.int (0 : Int32)), .val u_53, .val u_54, .val u_55, .val (.ref b56)] [(.int (own_ie (0 : Int64)))]))) (fun t ht => XS.ifNo X59.here hx rfl (hb hby at_92) rfl (XT.i0_ne_f ((by decide) : (0 : Int32) = 0)) ht) ?_
    refine own_step (U' := (T59.setTop (mkF m 96 #[.val (.int p1), .val (.int p2), .val (.int p3), .val (.int p4), .val (.int (0 : Int32)), .val u_53, .val u_54, .val u_55, .val (.ref b56)] [(.int (1 : Int32)), (.int (own_ie (0 : Int64)))]))) (fun t ht => XS.iconst X59.here hx rfl (hb hby at_95) ht) ?_
    refine own_step (U' := (T59.setTop (mkF m 100 #[.val (.int p1), .val (.int p2), .val (.int p3), .val (.int p4), .val (.int (0 : Int32)), .val u_53, .val u_54, .val u_55, .val (.ref b56)] [(.int (1 : Int32)), (.int (own_ie (0 : Int64)))]))) (fun t ht => XS.goto X59.here hx rfl (pc0 := 96) (pc' := 100) rfl (hb hby at_96) (by decide) (by decide) ht) ?_
    refine own_step (U' := (T59.setTop (mkF m 105 #[.val (.int p1), .val (.int p2), .val (.int p3), .val (.int p4), .val (.int (0 : Int32)), .val u_53, .val u_54, .val u_55, .val (.ref b56)] []))) (fun t ht => XS.icmpYes X59.here hx rfl (pc0 := 100) (pc' := 105) rfl (hb hby at_100) rfl (XT.ii_eq_t ((by decide) : (own_ie (0 : Int64)) = (1 : Int32))) (by decide) (by decide) ht) ?_
    refine own_step (U' := (T59.setTop (mkF m 107 #[.val (.int p1), .val (.int p2), .val (.int p3), .val (.int p4), .val (.int (0 : Int32)), .val u_53, .val u_54, .val u_55, .val (.ref b56)] [(.int (0 : Int32))]))) (fun t ht => XS.iload X59.here hx rfl (hb hby at_105) rfl ht) ?_
    refine own_step (U' := (T59.setTop (mkF m 108 #[.val (.int p1), .val (.int p2), .val (.int p3), .val (.int p4), .val (.int (0 : Int32)), .val u_53, .val u_54, .val u_55, .val (.ref b56)] [(.int (1 : Int32)), (.int (0 : Int32))]))) (fun t ht => XS.iconst X59.here hx rfl (hb hby at_107) ht) ?_
    refine own_step (U' := (T59.setTop (mkF m 123 #[.val (.int p1), .val (.int p2), .val (.int p3), .val (.int p4), .val (.int (0 : Int32)), .val u_53, .val u_54, .val u_55, .val (.ref b56)] []))) (fun t ht => XS.icmpYes X59.here hx rfl (pc0 := 108) (pc' := 123) rfl (hb hby at_108) rfl (XT.ii_lt_t ((by decide) : (0 : Int32) < (1 : Int32))) (by decide) (by decide) ht) ?_
    refine own_step (U' := (T59.setTop (mkF m 125 #[.val (.int p1), .val (.int p2), .val (.int p3), .val (.int p4), .val (.int (0 : Int32)), .val u_53, .val u_54, .val u_55, .val (.ref b56)] [(.int (0 : Int32))]))) (fun t ht => XS.iload X59.here hx rfl (hb hby at_123) rfl ht) ?_
    refine own_step (U' := (T59.setTop (mkF m 126 #[.val (.int p1), .val (.int p2), .val (.int p3), .val (.int p4), .val (.int (0 : Int32)), .val u_53, .val u_54, .val u_55, .val (.ref b56)] [(.int (2 : Int32)), (.int (0 : Int32))]))) (fun t ht => XS.iconst X59.here hx rfl (hb hby at_125) ht) ?_
    refine own_step (U' := (T59.setTop (mkF m 141 #[.val (.int p1), .val (.int p2), .val (.int p3), .val (.int p4), .val (.int (0 : Int32)), .val u_53, .val u_54, .val u_55, .val (.ref b56)] []))) (fun t ht => XS.icmpYes X59.here hx rfl (pc0 := 126) (pc' := 141) rfl (hb hby at_126) rfl (XT.ii_lt_t ((by decide) : (0 : Int32) < (2 : Int32))) (by decide) (by decide) ht) ?_
    refine own_step (U' := (T59.setTop (mkF m 143 #[.val (.int p1), .val (.int p2), .val (.int p3), .val (.int p4), .val (.int (0 : Int32)), .val u_53, .val u_54, .val u_55, .val (.ref b56)] [(.int (0 : Int32))]))) (fun t ht => XS.iload X59.here hx rfl (hb hby at_141) rfl ht) ?_
    refine own_step (U' := (T59.setTop (mkF m 144 #[.val (.int p1), .val (.int p2), .val (.int p3), .val (.int p4), .val (.int (0 : Int32)), .val u_53, .val u_54, .val u_55, .val (.ref b56)] [(.int (3 : Int32)), (.int (0 : Int32))]))) (fun t ht => XS.iconst X59.here hx rfl (hb hby at_143) ht) ?_
    refine own_step (U' := (T59.setTop (mkF m 159 #[.val (.int p1), .val (.int p2), .val (.int p3), .val (.int p4), .val (.int (0 : Int32)), .val u_53, .val u_54, .val u_55, .val (.ref b56)] []))) (fun t ht => XS.icmpYes X59.here hx rfl (pc0 := 144) (pc' := 159) rfl (hb hby at_144) rfl (XT.ii_lt_t ((by decide) : (0 : Int32) < (3 : Int32))) (by decide) (by decide) ht) ?_
    refine own_step (U' := (T59.setTop (mkF m 161 #[.val (.int p1), .val (.int p2), .val (.int p3), .val (.int p4), .val (.int (0 : Int32)), .val u_53, .val u_54, .val u_55, .val (.ref b56)] [(.ref b56)]))) (fun t ht => XS.aload X59.here hx rfl (hb hby at_159) rfl rfl ht) ?_
    obtain ⟨cq60, kq60, q60a, q60b, q60c⟩ := isOf hZ e59 Fq57_5
    obtain ⟨_, _, ⟨T60, L60, k60, n60⟩, -, X60, ⟨Lc60, hQ60, l60, y60, z60⟩, st60⟩ := X59.virtualBack hx (y := (⟨"com/example/call_throttle/callthrottle/KeyQueue", "isEmpty", "()Z"⟩ : MethodName)) (z := (⟨"com/example/call_throttle/callthrottle/KeyQueue", "isEmpty", "()Z"⟩ : MethodName)) hown (mvT hZ (hw _ (List.mem_of_getElem? (i := 65) rfl))) (mvT hZ (hw _ (List.mem_of_getElem? (i := 66) rfl))) (notFace_of_selects (args := #[]) (mvT hZ (hw _ (List.mem_of_getElem? (i := 68) rfl)))) (mvT hZ (hw _ (List.mem_of_getElem? (i := 68) rfl))) (mvT hZ (hw _ (List.mem_of_getElem? (i := 67) rfl))) (by decide) (backOf (W := 0) (own_m_ie l Z a0 hw [] (b56) ((0 : Int64)) T57.heap n0 (Nat.le_trans Z0 K57.1) Fq57_4) hZ (hw _ (List.mem_of_getElem? (i := 69) rfl)) (hw _ (List.mem_of_getElem? (i := 38) rfl)) (by decide) (by decide)) q60a q60c (g := (mkF m 161 #[.val (.int p1), .val (.int p2), .val (.int p3), .val (.int p4), .val (.int (0 : Int32)), .val u_53, .val u_54, .val u_55, .val (.ref b56)] [(.ref b56)])) rfl (by rw [hml]; rfl) (Steps.refl _) (argsL := []) (rest := []) (lenOf own_pd8 rfl) rfl (by show 2 * 0 + _ ≤ _; exact Nat.le_of_eq rfl) (hb hby at_161) (fun _ _ => ⟨rfl, e59, (by decide : 12 + 0 ≤ _), (by decide : 1055 + 0 ≤ _)⟩)
    dsimp only [Pt.U, Pt.locs, Pt.cells, Pt.slots] at X60 l60 y60 z60 st60 hQ60
    subst l60 y60 z60
    obtain ⟨rfl, Nq60, Kq60⟩ := hQ60
    have N60 := Fr.app N59 Nq60
    have e60 : T60.heap = T57.heap := Kq60
    refine own_step (U' := (T60.setTop (mkF m 164 #[.val (.int p1), .val (.int p2), .val (.int p3), .val (.int p4), .val (.int (0 : Int32)), .val u_53, .val u_54, .val u_55, .val (.ref b56)] [(.int (own_ie (0 : Int64)))]))) (fun t ht => st60.trans ht) ?_
    refine own_ret X60 (v := (some (.int (nar .boolean (own_ie (0 : Int64)))))) (fun h => by rw [Bd.returns] at h; cases h) Bd.notSynchronized (by decide) (by decide) ?_ (fun fs hr => retN X60 hx (t := .boolean) Bd.returns (by simp) (hb hby at_164) hr)
    show own_Q_law Z p1 p2 p3 p4 cz h0 n0 _ T60.heap _
    rw [e60]
    exact ⟨(congrArg (fun z => some (Value.int z)) (by decide)), N60⟩
  ·
    refine own_step (U' := (T57.setTop (mkF m 34 #[.val (.int p1), .val (.int p2), .val (.int p3), .val (.int p4), .val (.int (1 : Int32)), .val u_53, .val u_54, .val u_55, .val (.ref b56)] [(.int (1 : Int32))]))) (fun t ht => XS.iload X57.here hx rfl (hb hby at_32) rfl ht) ?_
    refine own_step (U' := (T57.setTop (mkF m 35 #[.val (.int p1), .val (.int p2), .val (.int p3), .val (.int p4), .val (.int (1 : Int32)), .val u_53, .val u_54, .val u_55, .val (.ref b56)] [(.int (1 : Int32)), (.int (1 : Int32))]))) (fun t ht => XS.iconst X57.here hx rfl (hb hby at_34) ht) ?_
    refine own_step (U' := (T57.setTop (mkF m 38 #[.val (.int p1), .val (.int p2), .val (.int p3), .val (.int p4), .val (.int (1 : Int32)), .val u_53, .val u_54, .val u_55, .val (.ref b56)] []))) (fun t ht => XS.icmpNo X57.here hx rfl (hb hby at_35) rfl (XT.ii_lt_f ((by decide) : ¬ ((1 : Int32) < (1 : Int32)))) ht) ?_
    refine own_step (U' := (T57.setTop (mkF m 40 #[.val (.int p1), .val (.int p2), .val (.int p3), .val (.int p4), .val (.int (1 : Int32)), .val u_53, .val u_54, .val u_55, .val (.ref b56)] [(.ref b56)]))) (fun t ht => XS.aload X57.here hx rfl (hb hby at_38) rfl rfl ht) ?_
    refine own_step (U' := (T57.setTop (mkF m 42 #[.val (.int p1), .val (.int p2), .val (.int p3), .val (.int p4), .val (.int (1 : Int32)), .val u_53, .val u_54, .val u_55, .val (.ref b56)] [u_53, (.ref b56)]))) (fun t ht => XS.aload X57.here hx rfl (hb hby at_40) rfl Fq53_0.isRef ht) ?_
    obtain ⟨cq61, kq61, q61a, q61b, q61c⟩ := isOf hZ rfl Fq57_5
    obtain ⟨_, _, ⟨T61, L61, k61, n61⟩, -, X61, ⟨Lc61, hQ61, l61, y61, z61⟩, st61⟩ := X57.virtualBack hx (y := (⟨"com/example/call_throttle/callthrottle/KeyQueue", "addLast", "(Ljava/lang/String;)V"⟩ : MethodName)) (z := (⟨"com/example/call_throttle/callthrottle/KeyQueue", "addLast", "(Ljava/lang/String;)V"⟩ : MethodName)) hown (mvT hZ (hw _ (List.mem_of_getElem? (i := 70) rfl))) (mvT hZ (hw _ (List.mem_of_getElem? (i := 71) rfl))) (notFace_of_selects (args := #[]) (mvT hZ (hw _ (List.mem_of_getElem? (i := 73) rfl)))) (mvT hZ (hw _ (List.mem_of_getElem? (i := 73) rfl))) (mvT hZ (hw _ (List.mem_of_getElem? (i := 72) rfl))) (by decide) (backOf (W := 0) (own_m_add l Z a0 hw [] (b56) (c1_57) (r1_57) (kA_57) ((0 : Int32)) ((0 : Int32)) ((0 : Int64)) ([.null, .null, .null, .null]) (u_53) (0) T57.heap n0 (Nat.le_trans Z0 K57.1) g_b56 g_r1_57 p57_0 p57_1 Fq57_0 Fq57_1 Fq57_2 Fq57_3 Fq57_4 Fq57_5 Fq57_6 Fq57_7 Fq57_8 f57_1 p57_2 (by decide) (by decide) (by decide) rfl (Nat.le_of_ble_eq_true rfl)) hZ (hw _ (List.mem_of_getElem? (i := 74) rfl)) (hw _ (List.mem_of_getElem? (i := 38) rfl)) (by decide) (by decide)) q61a q61c (g := (mkF m 42 #[.val (.int p1), .val (.int p2), .val (.int p3), .val (.int p4), .val (.int (1 : Int32)), .val u_53, .val u_54, .val u_55, .val (.ref b56)] [u_53, (.ref b56)])) rfl (by rw [hml]; rfl) (Steps.refl _) (argsL := [u_53]) (rest := []) (lenOf own_pd9 rfl) rfl (by show 2 * 0 + _ ≤ _; exact Nat.le_of_eq rfl) (hb hby at_42) (fun _ _ => ⟨rfl, rfl, (by decide : 12 + 0 ≤ _), (by decide : 1055 + 0 ≤ _)⟩)
    dsimp only [Pt.U, Pt.locs, Pt.cells, Pt.slots] at X61 l61 y61 z61 st61 hQ61
    subst l61 y61 z61
    obtain ⟨rfl, Nq61, Kq61, Fq61_0, Fq61_1, Fq61_2, Fq61_3, Fq61_4, Fq61_5, Fq61_6, Fq61_7, Fq61_8⟩ := hQ61
    have N61 := Fr.app N57 Nq61
    have f61_0 : Sta Z T61.heap "java/lang/String" "COMPACT_STRINGS" "Z" (.int cz) := own_sta_keep f57_0 Kq61 (own_plF Fq57_0 (own_plV Fq57_8 own_pl0))
    have f61_1 : own_Key Z T61.heap u_53 := f57_1.keep Kq61
    have f61_2 : own_Key Z T61.heap u_54 := f57_2.keep Kq61
    have f61_3 : own_Key Z T61.heap u_55 := f57_3.keep Kq61
    have f61_9 : Exa Z T61.heap b56 "com/example/call_throttle/callthrottle/KeyQueue" := Fq57_5.keep Kq61
    have f61_10 : Fld Z T61.heap c1_57 "com/example/call_throttle/callthrottle/KeyQueue$Chunk" "keys" "[Ljava/lang/String;" (.ref r1_57) := Fq57_6.keep Kq61 (ninS (Ne.symm ne_b56_c1_57) (ninS p57_1 nin0))
    have f61_11 : Exa Z T61.heap c1_57 "com/example/call_throttle/callthrottle/KeyQueue$Chunk" := Fq57_7.keep Kq61
    have K61 : Keep h0 T61.heap [] := K57.trans Kq61 (allS (Or.inr sz_b56) (allS (Or.inr sz_r1_57) all0))
    refine own_step (U' := (T61.setTop (mkF m 45 #[.val (.int p1), .val (.int p2), .val (.int p3), .val (.int p4), .val (.int (1 : Int32)), .val u_53, .val u_54, .val u_55, .val (.ref b56)] []))) (fun t ht => st61.trans ht) ?_
    refine own_step (U' := (T61.setTop (mkF m 47 #[.val (.int p1), .val (.int p2), .val (.int p3), .val (.int p4), .val (.int (1 : Int32)), .val u_53, .val u_54, .val u_55, .val (.ref b56)] [(.int (1 : Int32))]))) (fun t ht => XS.iload X61.here hx rfl (hb hby at_45) rfl ht) ?_
    refine own_step (U' := (T61.setTop (mkF m 48 #[.val (.int p1), .val (.int p2), .val (.int p3), .val (.int p4), .val (.int (1 : Int32)), .val u_53, .val u_54, .val u_55, .val (.ref b56)] [(.int (2 : Int32)), (.int (1 : Int32))]))) (fun t ht => XS.iconst X61.here hx rfl (hb hby at_47) ht) ?_
    refine own_step (U' := (T61.setTop (mkF m 58 #[.val (.int p1), .val (.int p2), .val (.int p3), .val (.int p4), .val (.int (1 : Int32)), .val u_53, .val u_54, .val u_55, .val (.ref b56)] []))) (fun t ht => XS.icmpYes X61.here hx rfl (pc0 := 48) (pc' := 58) rfl (hb hby at_48) rfl (XT.ii_lt_t ((by decide) : (1 : Int32) < (2 : Int32))) (by decide) (by decide) ht) ?_
    refine own_step (U' := (T61.setTop (mkF m 60 #[.val (.int p1), .val (.int p2), .val (.int p3), .val (.int p4), .val (.int (1 : Int32)), .val u_53, .val u_54, .val u_55, .val (.ref b56)] [(.int (1 : Int32))]))) (fun t ht => XS.iload X61.here hx rfl (hb hby at_58) rfl ht) ?_
    refine own_step (U' := (T61.setTop (mkF m 61 #[.val (.int p1), .val (.int p2), .val (.int p3), .val (.int p4), .val (.int (1 : Int32)), .val u_53, .val u_54, .val u_55, .val (.ref b56)] [(.int (3 : Int32)), (.int (1 : Int32))]))) (fun t ht => XS.iconst X61.here hx rfl (hb hby at_60) ht) ?_
    refine own_step (U' := (T61.setTop (mkF m 71 #[.val (.int p1), .val (.int p2), .val (.int p3), .val (.int p4), .val (.int (1 : Int32)), .val u_53, .val u_54, .val u_55, .val (.ref b56)] []))) (fun t ht => XS.icmpYes X61.here hx rfl (pc0 := 61) (pc' := 71) rfl (hb hby at_61) rfl (XT.ii_lt_t ((by decide) : (1 : Int32) < (3 : Int32))) (by decide) (by decide) ht) ?_
    refine own_step (U' := (T61.setTop (mkF m 73 #[.val (.int p1), .val (.int p2), .val (.int p3), .val (.int p4), .val (.int (1 : Int32)), .val u_53, .val u_54, .val u_55, .val (.ref b56)] [(.ref b56)]))) (fun t ht => XS.aload X61.here hx rfl (hb hby at_71) rfl rfl ht) ?_
    obtain ⟨cq62, kq62, q62a, q62b, q62c⟩ := isOf hZ rfl Fq61_5
    obtain ⟨_, _, ⟨T62, L62, k62, n62⟩, -, X62, ⟨Lc62, hQ62, l62, y62, z62⟩, st62⟩ := X61.virtualBack hx (y := (⟨"com/example/call_throttle/callthrottle/KeyQueue", "size", "()J"⟩ : MethodName)) (z := (⟨"com/example/call_throttle/callthrottle/KeyQueue", "size", "()J"⟩ : MethodName)) hown (mvT hZ (hw _ (List.mem_of_getElem? (i := 58) rfl))) (mvT hZ (hw _ (List.mem_of_getElem? (i := 59) rfl))) (notFace_of_selects (args := #[]) (mvT hZ (hw _ (List.mem_of_getElem? (i := 61) rfl)))) (mvT hZ (hw _ (List.mem_of_getElem? (i := 61) rfl))) (mvT hZ (hw _ (List.mem_of_getElem? (i := 60) rfl))) (by decide) (backOf (W := 0) (own_m_siz l Z a0 hw [] (b56) (((0 : Int64) + (1 : Int64))) T61.heap n0 (Nat.le_trans Z0 K61.1) Fq61_4) hZ (hw _ (List.mem_of_getElem? (i := 62) rfl)) (hw _ (List.mem_of_getElem? (i := 38) rfl)) (by decide) (by decide)) q62a q62c (g := (mkF m 73 #[.val (.int p1), .val (.int p2), .val (.int p3), .val (.int p4), .val (.int (1 : Int32)), .val u_53, .val u_54, .val u_55, .val (.ref b56)] [(.ref b56)])) rfl (by rw [hml]; rfl) (Steps.refl _) (argsL := []) (rest := []) (lenOf own_pd7 rfl) rfl (by show 2 * 0 + _ ≤ _; exact Nat.le_of_eq rfl) (hb hby at_73) (fun _ _ => ⟨rfl, rfl, (by decide : 12 + 0 ≤ _), (by decide : 1055 + 0 ≤ _)⟩)
    dsimp only [Pt.U, Pt.locs, Pt.cells, Pt.slots] at X62 l62 y62 z62 st62 hQ62
    subst l62 y62 z62
    obtain ⟨rfl, Nq62, Kq62⟩ := hQ62
    have N62 := Fr.app N61 Nq62
    have e62 : T62.heap = T61.heap := Kq62
    refine own_step (U' := (T62.setTop (mkF m 76 #[.val (.int p1), .val (.int p2), .val (.int p3), .val (.int p4), .val (.int (1 : Int32)), .val u_53, .val u_54, .val u_55, .val (.ref b56)] [(.long ((0 : Int64) + (1 : Int64)))]))) (fun t ht => st62.trans ht) ?_
    refine own_step (U' := (T62.setTop (mkF m 78 #[.val (.int p1), .val (.int p2), .val (.int p3), .val (.int p4), .val (.int (1 : Int32)), .val u_53, .val u_54, .val u_55, .val (.ref b56)] [(.int (1 : Int32)), (.long ((0 : Int64) + (1 : Int64)))]))) (fun t ht => XS.iload X62.here hx rfl (hb hby at_76) rfl ht) ?_
    refine own_step (U' := (T62.setTop (mkF m 79 #[.val (.int p1), .val (.int p2), .val (.int p3), .val (.int p4), .val (.int (1 : Int32)), .val u_53, .val u_54, .val u_55, .val (.ref b56)] [(.long ((1 : Int32).toInt64)), (.long ((0 : Int64) + (1 : Int64)))]))) (fun t ht => XT.i2l X62.here hx rfl (hb hby at_78) rfl ht) ?_
    refine own_step (U' := (T62.setTop (mkF m 80 #[.val (.int p1), .val (.int p2), .val (.int p3), .val (.int p4), .val (.int (1 : Int32)), .val u_53, .val u_54, .val u_55, .val (.ref b56)] [(.int (XT.cmpL ((0 : Int64) + (1 : Int64)) ((1 : Int32).toInt64)))]))) (fun t ht => XT.lcmp X62.here hx rfl (hb hby at_79) rfl ht) ?_
    refine own_step (U' := (T62.setTop (mkF m 85 #[.val (.int p1), .val (.int p2), .val (.int p3), .val (.int p4), .val (.int (1 : Int32)), .val u_53, .val u_54, .val u_55, .val (.ref b56)] []))) (fun t ht => XS.ifYes X62.here hx rfl (pc0 := 80) (pc' := 85) rfl (hb hby at_80) rfl (XT.ll_eq_t ((by decide) : ((0 : Int64) + (1 : Int64)) = ((1 : Int32).toInt64))) (by decide) (by decide) ht) ?_
    refine own_step (U' := (T62.setTop (mkF m 87 #[.val (.int p1), .val (.int p2), .val (.int p3), .val (.int p4), .val (.int (1 : Int32)), .val u_53, .val u_54, .val u_55, .val (.ref b56)] [(.ref b56)]))) (fun t ht => XS.aload X62.here hx rfl (hb hby at_85) rfl rfl ht) ?_
    obtain ⟨cq63, kq63, q63a, q63b, q63c⟩ := isOf hZ e62 Fq61_5
    obtain ⟨_, _, ⟨T63, L63, k63, n63⟩, -, X63, ⟨Lc63, hQ63, l63, y63, z63⟩, st63⟩ := X62.virtualBack hx (y := (⟨"com/example/call_throttle/callthrottle/KeyQueue", "isEmpty", "()Z"⟩ : MethodName)) (z := (⟨"com/example/call_throttle/callthrottle/KeyQueue", "isEmpty", "()Z"⟩ : MethodName)) hown (mvT hZ (hw _ (List.mem_of_getElem? (i := 65) rfl))) (mvT hZ (hw _ (List.mem_of_getElem? (i := 66) rfl))) (notFace_of_selects (args := #[]) (mvT hZ (hw _ (List.mem_of_getElem? (i := 68) rfl)))) (mvT hZ (hw _ (List.mem_of_getElem? (i := 68) rfl))) (mvT hZ (hw _ (List.mem_of_getElem? (i := 67) rfl))) (by decide) (backOf (W := 0) (own_m_ie l Z a0 hw [] (b56) (((0 : Int64) + (1 : Int64))) T61.heap n0 (Nat.le_trans Z0 K61.1) Fq61_4) hZ (hw _ (List.mem_of_getElem? (i := 69) rfl)) (hw _ (List.mem_of_getElem? (i := 38) rfl)) (by decide) (by decide)) q63a q63c (g := (mkF m 87 #[.val (.int p1), .val (.int p2), .val (.int p3), .val (.int p4), .val (.int (1 : Int32)), .val u_53, .val u_54, .val u_55, .val (.ref b56)] [(.ref b56)])) rfl (by rw [hml]; rfl) (Steps.refl _) (argsL := []) (rest := []) (lenOf own_pd8 rfl) rfl (by show 2 * 0 + _ ≤ _; exact Nat.le_of_eq rfl) (hb hby at_87) (fun _ _ => ⟨rfl, e62, (by decide : 12 + 0 ≤ _), (by decide : 1055 + 0 ≤ _)⟩)
    dsimp only [Pt.U, Pt.locs, Pt.cells, Pt.slots] at X63 l63 y63 z63 st63 hQ63
    subst l63 y63 z63
    obtain ⟨rfl, Nq63, Kq63⟩ := hQ63
    have N63 := Fr.app N62 Nq63
    have e63 : T63.heap = T61.heap := Kq63
    refine own_step (U' := (T63.setTop (mkF m 90 #[.val (.int p1), .val (.int p2), .val (.int p3), .val (.int p4), .val (.int (1 : Int32)), .val u_53, .val u_54, .val u_55, .val (.ref b56)] [(.int (own_ie ((0 : Int64) + (1 : Int64))))]))) (fun t ht => st63.trans ht) ?_
    refine own_step (U' := (T63.setTop (mkF m 92 #[.val (.int p1), .val (.int p2), .val (.int p3), .val (.int p4), .val (.int (1 : Int32)), .val u_53, .val u_54, .val u_55, .val (.ref b56)] [(.int (1 : Int32)), (.int (own_ie ((0 : Int64) + (1 : Int64))))]))) (fun t ht => XS.iload X63.here hx rfl (hb hby at_90) rfl ht) ?_
    refine own_step (U' := (T63.setTop (mkF m 99 #[.val (.int p1), .val (.int p2), .val (.int p3), .val (.int p4), .val (.int (1 : Int32)), .val u_53, .val u_54, .val u_55, .val (.ref b56)] [(.int (own_ie ((0 : Int64) + (1 : Int64))))]))) (fun t ht => XS.ifYes X63.here hx rfl (pc0 := 92) (pc' := 99) rfl (hb hby at_92) rfl (XT.i0_ne_t ((by decide) : ¬ ((1 : Int32) = 0))) (by decide) (by decide) ht) ?_
    refine own_step (U' := (T63.setTop (mkF m 100 #[.val (.int p1), .val (.int p2), .val (.int p3), .val (.int p4), .val (.int (1 : Int32)), .val u_53, .val u_54, .val u_55, .val (.ref b56)] [(.int (0 : Int32)), (.int (own_ie ((0 : Int64) + (1 : Int64))))]))) (fun t ht => XS.iconst X63.here hx rfl (hb hby at_99) ht) ?_
    refine own_step (U' := (T63.setTop (mkF m 105 #[.val (.int p1), .val (.int p2), .val (.int p3), .val (.int p4), .val (.int (1 : Int32)), .val u_53, .val u_54, .val u_55, .val (.ref b56)] []))) (fun t ht => XS.icmpYes X63.here hx rfl (pc0 := 100) (pc' := 105) rfl (hb hby at_100) rfl (XT.ii_eq_t ((by decide) : (own_ie ((0 : Int64) + (1 : Int64))) = (0 : Int32))) (by decide) (by decide) ht) ?_
    refine own_step (U' := (T63.setTop (mkF m 107 #[.val (.int p1), .val (.int p2), .val (.int p3), .val (.int p4), .val (.int (1 : Int32)), .val u_53, .val u_54, .val u_55, .val (.ref b56)] [(.int (1 : Int32))]))) (fun t ht => XS.iload X63.here hx rfl (hb hby at_105) rfl ht) ?_
    refine own_step (U' := (T63.setTop (mkF m 108 #[.val (.int p1), .val (.int p2), .val (.int p3), .val (.int p4), .val (.int (1 : Int32)), .val u_53, .val u_54, .val u_55, .val (.ref b56)] [(.int (1 : Int32)), (.int (1 : Int32))]))) (fun t ht => XS.iconst X63.here hx rfl (hb hby at_107) ht) ?_
    refine own_step (U' := (T63.setTop (mkF m 111 #[.val (.int p1), .val (.int p2), .val (.int p3), .val (.int p4), .val (.int (1 : Int32)), .val u_53, .val u_54, .val u_55, .val (.ref b56)] []))) (fun t ht => XS.icmpNo X63.here hx rfl (hb hby at_108) rfl (XT.ii_lt_f ((by decide) : ¬ ((1 : Int32) < (1 : Int32)))) ht) ?_
    refine own_step (U' := (T63.setTop (mkF m 113 #[.val (.int p1), .val (.int p2), .val (.int p3), .val (.int p4), .val (.int (1 : Int32)), .val u_53, .val u_54, .val u_55, .val (.ref b56)] [(.ref b56)]))) (fun t ht => XS.aload X63.here hx rfl (hb hby at_111) rfl rfl ht) ?_
    obtain ⟨cq64, kq64, q64a, q64b, q64c⟩ := isOf hZ e63 Fq61_5
    obtain ⟨_, _, ⟨T64, L64, k64, n64⟩, -, X64, ⟨Lc64, hQ64, l64, y64, z64⟩, st64⟩ := X63.virtualBack hx (y := (⟨"com/example/call_throttle/callthrottle/KeyQueue", "removeFirst", "()Ljava/lang/String;"⟩ : MethodName)) (z := (⟨"com/example/call_throttle/callthrottle/KeyQueue", "removeFirst", "()Ljava/lang/String;"⟩ : MethodName)) hown (mvT hZ (hw _ (List.mem_of_getElem? (i := 78) rfl))) (mvT hZ (hw _ (List.mem_of_getElem? (i := 79) rfl))) (notFace_of_selects (args := #[]) (mvT hZ (hw _ (List.mem_of_getElem? (i := 81) rfl)))) (mvT hZ (hw _ (List.mem_of_getElem? (i := 81) rfl))) (mvT hZ (hw _ (List.mem_of_getElem? (i := 80) rfl))) (by decide) (backOf (W := 0) (own_m_rem l Z a0 hw [] (b56) (c1_57) (r1_57) (kA_57) ((0 : Int32)) (((0 : Int32) + (1 : Int32))) (((0 : Int64) + (1 : Int64))) (([.null, .null, .null, .null].set 0 u_53)) (u_53) (0) T61.heap n0 (Nat.le_trans Z0 K61.1) g_b56 g_r1_57 p57_0 p57_1 Fq61_0 Fq61_1 Fq61_2 Fq61_3 Fq61_4 Fq61_5 Fq61_6 Fq61_7 Fq61_8 (by decide) (by decide) (by decide) (by decide) rfl (Nat.le_of_ble_eq_true rfl) rfl Fq53_0.isRef) hZ (hw _ (List.mem_of_getElem? (i := 82) rfl)) (hw _ (List.mem_of_getElem? (i := 38) rfl)) (by decide) (by decide)) q64a q64c (g := (mkF m 113 #[.val (.int p1), .val (.int p2), .val (.int p3), .val (.int p4), .val (.int (1 : Int32)), .val u_53, .val u_54, .val u_55, .val (.ref b56)] [(.ref b56)])) rfl (by rw [hml]; rfl) (Steps.refl _) (argsL := []) (rest := []) (lenOf own_pd10 rfl) rfl (by show 2 * 0 + _ ≤ _; exact Nat.le_of_eq rfl) (hb hby at_113) (fun _ _ => ⟨rfl, e63, (by decide : 12 + 0 ≤ _), (by decide : 1055 + 0 ≤ _)⟩)
    dsimp only [Pt.U, Pt.locs, Pt.cells, Pt.slots] at X64 l64 y64 z64 st64 hQ64
    subst l64 y64 z64
    obtain ⟨rfl, Nq64, Kq64, Fq64_0, Fq64_1, Fq64_2, Fq64_3, Fq64_4, Fq64_5, Fq64_6, Fq64_7, Fq64_8⟩ := hQ64
    have N64 := Fr.app N63 Nq64
    have f64_0 : Sta Z T64.heap "java/lang/String" "COMPACT_STRINGS" "Z" (.int cz) := own_sta_keep f61_0 Kq64 (own_plF Fq61_0 (own_plV Fq61_8 own_pl0))
    have f64_1 : own_Key Z T64.heap u_53 := f61_1.keep Kq64
    have f64_2 : own_Key Z T64.heap u_54 := f61_2.keep Kq64
    have f64_3 : own_Key Z T64.heap u_55 := f61_3.keep Kq64
    have f64_9 : Exa Z T64.heap b56 "com/example/call_throttle/callthrottle/KeyQueue" := Fq61_5.keep Kq64
    have f64_10 : Fld Z T64.heap c1_57 "com/example/call_throttle/callthrottle/KeyQueue$Chunk" "keys" "[Ljava/lang/String;" (.ref r1_57) := Fq61_6.keep Kq64 (ninS (Ne.symm ne_b56_c1_57) (ninS p57_1 nin0))
    have f64_11 : Exa Z T64.heap c1_57 "com/example/call_throttle/callthrottle/KeyQueue$Chunk" := Fq61_7.keep Kq64
    have K64 : Keep h0 T64.heap [] := K61.trans Kq64 (allS (Or.inr sz_b56) (allS (Or.inr sz_r1_57) all0))
    refine own_step (U' := (T64.setTop (mkF m 116 #[.val (.int p1), .val (.int p2), .val (.int p3), .val (.int p4), .val (.int (1 : Int32)), .val u_53, .val u_54, .val u_55, .val (.ref b56)] [u_53]))) (fun t ht => st64.trans ht) ?_
    refine own_step (U' := (T64.setTop (mkF m 118 #[.val (.int p1), .val (.int p2), .val (.int p3), .val (.int p4), .val (.int (1 : Int32)), .val u_53, .val u_54, .val u_55, .val (.ref b56)] [u_53, u_53]))) (fun t ht => XS.aload X64.here hx rfl (hb hby at_116) rfl Fq53_0.isRef ht) ?_
    refine own_step (U' := (T64.setTop (mkF m 123 #[.val (.int p1), .val (.int p2), .val (.int p3), .val (.int p4), .val (.int (1 : Int32)), .val u_53, .val u_54, .val u_55, .val (.ref b56)] []))) (fun t ht => Jvm.RoadKit.acmp (g := (mkF m 118 #[.val (.int p1), .val (.int p2), .val (.int p3), .val (.int p4), .val (.int (1 : Int32)), .val u_53, .val u_54, .val u_55, .val (.ref b56)] [u_53, u_53])) X64 hx rfl Fq53_0.isRef Fq53_0.isRef (pc0 := 118) (pc' := 123) (same := true) rfl (hb hby at_118) rfl (decide_eq_true (rfl : u_53 = u_53)) (by decide) (by decide) ht) ?_
    refine own_step (U' := (T64.setTop (mkF m 125 #[.val (.int p1), .val (.int p2), .val (.int p3), .val (.int p4), .val (.int (1 : Int32)), .val u_53, .val u_54, .val u_55, .val (.ref b56)] [(.int (1 : Int32))]))) (fun t ht => XS.iload X64.here hx rfl (hb hby at_123) rfl ht) ?_
    refine own_step (U' := (T64.setTop (mkF m 126 #[.val (.int p1), .val (.int p2), .val (.int p3), .val (.int p4), .val (.int (1 : Int32)), .val u_53, .val u_54, .val u_55, .val (.ref b56)] [(.int (2 : Int32)), (.int (1 : Int32))]))) (fun t ht => XS.iconst X64.here hx rfl (hb hby at_125) ht) ?_
    refine own_step (U' := (T64.setTop (mkF m 141 #[.val (.int p1), .val (.int p2), .val (.int p3), .val (.int p4), .val (.int (1 : Int32)), .val u_53, .val u_54, .val u_55, .val (.ref b56)] []))) (fun t ht => XS.icmpYes X64.here hx rfl (pc0 := 126) (pc' := 141) rfl (hb hby at_126) rfl (XT.ii_lt_t ((by decide) : (1 : Int32) < (2 : Int32))) (by decide) (by decide) ht) ?_
    refine own_step (U' := (T64.setTop (mkF m 143 #[.val (.int p1), .val (.int p2), .val (.int p3), .val (.int p4), .val (.int (1 : Int32)), .val u_53, .val u_54, .val u_55, .val (.ref b56)] [(.int (1 : Int32))]))) (fun t ht => XS.iload X64.here hx rfl (hb hby at_141) rfl ht) ?_
    refine own_step (U' := (T64.setTop (mkF m 144 #[.val (.int p1), .val (.int p2), .val (.int p3), .val (.int p4), .val (.int (1 : Int32)), .val u_53, .val u_54, .val u_55, .val (.ref b56)] [(.int (3 : Int32)), (.int (1 : Int32))]))) (fun t ht => XS.iconst X64.here hx rfl (hb hby at_143) ht) ?_
    refine own_step (U' := (T64.setTop (mkF m 159 #[.val (.int p1), .val (.int p2), .val (.int p3), .val (.int p4), .val (.int (1 : Int32)), .val u_53, .val u_54, .val u_55, .val (.ref b56)] []))) (fun t ht => XS.icmpYes X64.here hx rfl (pc0 := 144) (pc' := 159) rfl (hb hby at_144) rfl (XT.ii_lt_t ((by decide) : (1 : Int32) < (3 : Int32))) (by decide) (by decide) ht) ?_
    refine own_step (U' := (T64.setTop (mkF m 161 #[.val (.int p1), .val (.int p2), .val (.int p3), .val (.int p4), .val (.int (1 : Int32)), .val u_53, .val u_54, .val u_55, .val (.ref b56)] [(.ref b56)]))) (fun t ht => XS.aload X64.here hx rfl (hb hby at_159) rfl rfl ht) ?_
    obtain ⟨cq65, kq65, q65a, q65b, q65c⟩ := isOf hZ rfl Fq64_5
    obtain ⟨_, _, ⟨T65, L65, k65, n65⟩, -, X65, ⟨Lc65, hQ65, l65, y65, z65⟩, st65⟩ := X64.virtualBack hx (y := (⟨"com/example/call_throttle/callthrottle/KeyQueue", "isEmpty", "()Z"⟩ : MethodName)) (z := (⟨"com/example/call_throttle/callthrottle/KeyQueue", "isEmpty", "()Z"⟩ : MethodName)) hown (mvT hZ (hw _ (List.mem_of_getElem? (i := 65) rfl))) (mvT hZ (hw _ (List.mem_of_getElem? (i := 66) rfl))) (notFace_of_selects (args := #[]) (mvT hZ (hw _ (List.mem_of_getElem? (i := 68) rfl)))) (mvT hZ (hw _ (List.mem_of_getElem? (i := 68) rfl))) (mvT hZ (hw _ (List.mem_of_getElem? (i := 67) rfl))) (by decide) (backOf (W := 0) (own_m_ie l Z a0 hw [] (b56) ((((0 : Int64) + (1 : Int64)) - (1 : Int64))) T64.heap n0 (Nat.le_trans Z0 K64.1) Fq64_4) hZ (hw _ (List.mem_of_getElem? (i := 69) rfl)) (hw _ (List.mem_of_getElem? (i := 38) rfl)) (by decide) (by decide)) q65a q65c (g := (mkF m 161 #[.val (.int p1), .val (.int p2), .val (.int p3), .val (.int p4), .val (.int (1 : Int32)), .val u_53, .val u_54, .val u_55, .val (.ref b56)] [(.ref b56)])) rfl (by rw [hml]; rfl) (Steps.refl _) (argsL := []) (rest := []) (lenOf own_pd8 rfl) rfl (by show 2 * 0 + _ ≤ _; exact Nat.le_of_eq rfl) (hb hby at_161) (fun _ _ => ⟨rfl, rfl, (by decide : 12 + 0 ≤ _), (by decide : 1055 + 0 ≤ _)⟩)
    dsimp only [Pt.U, Pt.locs, Pt.cells, Pt.slots] at X65 l65 y65 z65 st65 hQ65
    subst l65 y65 z65
    obtain ⟨rfl, Nq65, Kq65⟩ := hQ65
    have N65 := Fr.app N64 Nq65
    have e65 : T65.heap = T64.heap := Kq65
    refine own_step (U' := (T65.setTop (mkF m 164 #[.val (.int p1), .val (.int p2), .val (.int p3), .val (.int p4), .val (.int (1 : Int32)), .val u_53, .val u_54, .val u_55, .val (.ref b56)] [(.int (own_ie (((0 : Int64) + (1 : Int64)) - (1 : Int64))))]))) (fun t ht => st65.trans ht) ?_
    refine own_ret X65 (v := (some (.int (nar .boolean (own_ie (((0 : Int64) + (1 : Int64)) - (1 : Int64))))))) (fun h => by rw [Bd.returns] at h; cases h) Bd.notSynchronized (by decide) (by decide) ?_ (fun fs hr => retN X65 hx (t := .boolean) Bd.returns (by simp) (hb hby at_164) hr)
    show own_Q_law Z p1 p2 p3 p4 cz h0 n0 _ T65.heap _
    rw [e65]
    exact ⟨(congrArg (fun z => some (Value.int z)) (by decide)), N65⟩
  ·
    refine own_step (U' := (T57.setTop (mkF m 34 #[.val (.int p1), .val (.int p2), .val (.int p3), .val (.int p4), .val (.int (2 : Int32)), .val u_53, .val u_54, .val u_55, .val (.ref b56)] [(.int (2 : Int32))]))) (fun t ht => XS.iload X57.here hx rfl (hb hby at_32) rfl ht) ?_
    refine own_step (U' := (T57.setTop (mkF m 35 #[.val (.int p1), .val (.int p2), .val (.int p3), .val (.int p4), .val (.int (2 : Int32)), .val u_53, .val u_54, .val u_55, .val (.ref b56)] [(.int (1 : Int32)), (.int (2 : Int32))]))) (fun t ht => XS.iconst X57.here hx rfl (hb hby at_34) ht) ?_
    refine own_step (U' := (T57.setTop (mkF m 38 #[.val (.int p1), .val (.int p2), .val (.int p3), .val (.int p4), .val (.int (2 : Int32)), .val u_53, .val u_54, .val u_55, .val (.ref b56)] []))) (fun t ht => XS.icmpNo X57.here hx rfl (hb hby at_35) rfl (XT.ii_lt_f ((by decide) : ¬ ((2 : Int32) < (1 : Int32)))) ht) ?_
    refine own_step (U' := (T57.setTop (mkF m 40 #[.val (.int p1), .val (.int p2), .val (.int p3), .val (.int p4), .val (.int (2 : Int32)), .val u_53, .val u_54, .val u_55, .val (.ref b56)] [(.ref b56)]))) (fun t ht => XS.aload X57.here hx rfl (hb hby at_38) rfl rfl ht) ?_
    refine own_step (U' := (T57.setTop (mkF m 42 #[.val (.int p1), .val (.int p2), .val (.int p3), .val (.int p4), .val (.int (2 : Int32)), .val u_53, .val u_54, .val u_55, .val (.ref b56)] [u_53, (.ref b56)]))) (fun t ht => XS.aload X57.here hx rfl (hb hby at_40) rfl Fq53_0.isRef ht) ?_
    obtain ⟨cq66, kq66, q66a, q66b, q66c⟩ := isOf hZ rfl Fq57_5
    obtain ⟨_, _, ⟨T66, L66, k66, n66⟩, -, X66, ⟨Lc66, hQ66, l66, y66, z66⟩, st66⟩ := X57.virtualBack hx (y := (⟨"com/example/call_throttle/callthrottle/KeyQueue", "addLast", "(Ljava/lang/String;)V"⟩ : MethodName)) (z := (⟨"com/example/call_throttle/callthrottle/KeyQueue", "addLast", "(Ljava/lang/String;)V"⟩ : MethodName)) hown (mvT hZ (hw _ (List.mem_of_getElem? (i := 70) rfl))) (mvT hZ (hw _ (List.mem_of_getElem? (i := 71) rfl))) (notFace_of_selects (args := #[]) (mvT hZ (hw _ (List.mem_of_getElem? (i := 73) rfl)))) (mvT hZ (hw _ (List.mem_of_getElem? (i := 73) rfl))) (mvT hZ (hw _ (List.mem_of_getElem? (i := 72) rfl))) (by decide) (backOf (W := 0) (own_m_add l Z a0 hw [] (b56) (c1_57) (r1_57) (kA_57) ((0 : Int32)) ((0 : Int32)) ((0 : Int64)) ([.null, .null, .null, .null]) (u_53) (0) T57.heap n0 (Nat.le_trans Z0 K57.1) g_b56 g_r1_57 p57_0 p57_1 Fq57_0 Fq57_1 Fq57_2 Fq57_3 Fq57_4 Fq57_5 Fq57_6 Fq57_7 Fq57_8 f57_1 p57_2 (by decide) (by decide) (by decide) rfl (Nat.le_of_ble_eq_true rfl)) hZ (hw _ (List.mem_of_getElem? (i := 74) rfl)) (hw _ (List.mem_of_getElem? (i := 38) rfl)) (by decide) (by decide)) q66a q66c (g := (mkF m 42 #[.val (.int p1), .val (.int p2), .val (.int p3), .val (.int p4), .val (.int (2 : Int32)), .val u_53, .val u_54, .val u_55, .val (.ref b56)] [u_53, (.ref b56)])) rfl (by rw [hml]; rfl) (Steps.refl _) (argsL := [u_53]) (rest := []) (lenOf own_pd9 rfl) rfl (by show 2 * 0 + _ ≤ _; exact Nat.le_of_eq rfl) (hb hby at_42) (fun _ _ => ⟨rfl, rfl, (by decide : 12 + 0 ≤ _), (by decide : 1055 + 0 ≤ _)⟩)
    dsimp only [Pt.U, Pt.locs, Pt.cells, Pt.slots] at X66 l66 y66 z66 st66 hQ66
    subst l66 y66 z66
    obtain ⟨rfl, Nq66, Kq66, Fq66_0, Fq66_1, Fq66_2, Fq66_3, Fq66_4, Fq66_5, Fq66_6, Fq66_7, Fq66_8⟩ := hQ66
    have N66 := Fr.app N57 Nq66
    have f66_0 : Sta Z T66.heap "java/lang/String" "COMPACT_STRINGS" "Z" (.int cz) := own_sta_keep f57_0 Kq66 (own_plF Fq57_0 (own_plV Fq57_8 own_pl0))
    have f66_1 : own_Key Z T66.heap u_53 := f57_1.keep Kq66
    have f66_2 : own_Key Z T66.heap u_54 := f57_2.keep Kq66
    have f66_3 : own_Key Z T66.heap u_55 := f57_3.keep Kq66
    have f66_9 : Exa Z T66.heap b56 "com/example/call_throttle/callthrottle/KeyQueue" := Fq57_5.keep Kq66
    have f66_10 : Fld Z T66.heap c1_57 "com/example/call_throttle/callthrottle/KeyQueue$Chunk" "keys" "[Ljava/lang/String;" (.ref r1_57) := Fq57_6.keep Kq66 (ninS (Ne.symm ne_b56_c1_57) (ninS p57_1 nin0))
    have f66_11 : Exa Z T66.heap c1_57 "com/example/call_throttle/callthrottle/KeyQueue$Chunk" := Fq57_7.keep Kq66
    have K66 : Keep h0 T66.heap [] := K57.trans Kq66 (allS (Or.inr sz_b56) (allS (Or.inr sz_r1_57) all0))
    refine own_step (U' := (T66.setTop (mkF m 45 #[.val (.int p1), .val (.int p2), .val (.int p3), .val (.int p4), .val (.int (2 : Int32)), .val u_53, .val u_54, .val u_55, .val (.ref b56)] []))) (fun t ht => st66.trans ht) ?_
    refine own_step (U' := (T66.setTop (mkF m 47 #[.val (.int p1), .val (.int p2), .val (.int p3), .val (.int p4), .val (.int (2 : Int32)), .val u_53, .val u_54, .val u_55, .val (.ref b56)] [(.int (2 : Int32))]))) (fun t ht => XS.iload X66.here hx rfl (hb hby at_45) rfl ht) ?_
    refine own_step (U' := (T66.setTop (mkF m 48 #[.val (.int p1), .val (.int p2), .val (.int p3), .val (.int p4), .val (.int (2 : Int32)), .val u_53, .val u_54, .val u_55, .val (.ref b56)] [(.int (2 : Int32)), (.int (2 : Int32))]))) (fun t ht => XS.iconst X66.here hx rfl (hb hby at_47) ht) ?_
    refine own_step (U' := (T66.setTop (mkF m 51 #[.val (.int p1), .val (.int p2), .val (.int p3), .val (.int p4), .val (.int (2 : Int32)), .val u_53, .val u_54, .val u_55, .val (.ref b56)] []))) (fun t ht => XS.icmpNo X66.here hx rfl (hb hby at_48) rfl (XT.ii_lt_f ((by decide) : ¬ ((2 : Int32) < (2 : Int32)))) ht) ?_
    refine own_step (U' := (T66.setTop (mkF m 53 #[.val (.int p1), .val (.int p2), .val (.int p3), .val (.int p4), .val (.int (2 : Int32)), .val u_53, .val u_54, .val u_55, .val (.ref b56)] [(.ref b56)]))) (fun t ht => XS.aload X66.here hx rfl (hb hby at_51) rfl rfl ht) ?_
    refine own_step (U' := (T66.setTop (mkF m 55 #[.val (.int p1), .val (.int p2), .val (.int p3), .val (.int p4), .val (.int (2 : Int32)), .val u_53, .val u_54, .val u_55, .val (.ref b56)] [u_54, (.ref b56)]))) (fun t ht => XS.aload X66.here hx rfl (hb hby at_53) rfl Fq54_0.isRef ht) ?_
    obtain ⟨cq67, kq67, q67a, q67b, q67c⟩ := isOf hZ rfl Fq66_5
    obtain ⟨_, _, ⟨T67, L67, k67, n67⟩, -, X67, ⟨Lc67, hQ67, l67, y67, z67⟩, st67⟩ := X66.virtualBack hx (y := (⟨"com/example/call_throttle/callthrottle/KeyQueue", "addLast", "(Ljava/lang/String;)V"⟩ : MethodName)) (z := (⟨"com/example/call_throttle/callthrottle/KeyQueue", "addLast", "(Ljava/lang/String;)V"⟩ : MethodName)) hown (mvT hZ (hw _ (List.mem_of_getElem? (i := 70) rfl))) (mvT hZ (hw _ (List.mem_of_getElem? (i := 71) rfl))) (notFace_of_selects (args := #[]) (mvT hZ (hw _ (List.mem_of_getElem? (i := 73) rfl)))) (mvT hZ (hw _ (List.mem_of_getElem? (i := 73) rfl))) (mvT hZ (hw _ (List.mem_of_getElem? (i := 72) rfl))) (by decide) (backOf (W := 0) (own_m_add l Z a0 hw [] (b56) (c1_57) (r1_57) (kA_57) ((0 : Int32)) (((0 : Int32) + (1 : Int32))) (((0 : Int64) + (1 : Int64))) (([.null, .null, .null, .null].set 0 u_53)) (u_54) (1) T66.heap n0 (Nat.le_trans Z0 K66.1) g_b56 g_r1_57 p57_0 p57_1 Fq66_0 Fq66_1 Fq66_2 Fq66_3 Fq66_4 Fq66_5 Fq66_6 Fq66_7 Fq66_8 f66_2 p57_2 (by decide) (by decide) (by decide) rfl (Nat.le_of_ble_eq_true rfl)) hZ (hw _ (List.mem_of_getElem? (i := 74) rfl)) (hw _ (List.mem_of_getElem? (i := 38) rfl)) (by decide) (by decide)) q67a q67c (g := (mkF m 55 #[.val (.int p1), .val (.int p2), .val (.int p3), .val (.int p4), .val (.int (2 : Int32)), .val u_53, .val u_54, .val u_55, .val (.ref b56)] [u_54, (.ref b56)])) rfl (by rw [hml]; rfl) (Steps.refl _) (argsL := [u_54]) (rest := []) (lenOf own_pd9 rfl) rfl (by show 2 * 0 + _ ≤ _; exact Nat.le_of_eq rfl) (hb hby at_55) (fun _ _ => ⟨rfl, rfl, (by decide : 12 + 0 ≤ _), (by decide : 1055 + 0 ≤ _)⟩)
    dsimp only [Pt.U, Pt.locs, Pt.cells, Pt.slots] at X67 l67 y67 z67 st67 hQ67
    subst l67 y67 z67
    obtain ⟨rfl, Nq67, Kq67, Fq67_0, Fq67_1, Fq67_2, Fq67_3, Fq67_4, Fq67_5, Fq67_6, Fq67_7, Fq67_8⟩ := hQ67
    have N67 := Fr.app N66 Nq67
    have f67_0 : Sta Z T67.heap "java/lang/String" "COMPACT_STRINGS" "Z" (.int cz) := own_sta_keep f66_0 Kq67 (own_plF Fq66_0 (own_plV Fq66_8 own_pl0))
    have f67_1 : own_Key Z T67.heap u_53 := f66_1.keep Kq67
    have f67_2 : own_Key Z T67.heap u_54 := f66_2.keep Kq67
    have f67_3 : own_Key Z T67.heap u_55 := f66_3.keep Kq67
    have f67_9 : Exa Z T67.heap b56 "com/example/call_throttle/callthrottle/KeyQueue" := Fq66_5.keep Kq67
    have f67_10 : Fld Z T67.heap c1_57 "com/example/call_throttle/callthrottle/KeyQueue$Chunk" "keys" "[Ljava/lang/String;" (.ref r1_57) := Fq66_6.keep Kq67 (ninS (Ne.symm ne_b56_c1_57) (ninS p57_1 nin0))
    have f67_11 : Exa Z T67.heap c1_57 "com/example/call_throttle/callthrottle/KeyQueue$Chunk" := Fq66_7.keep Kq67
    have K67 : Keep h0 T67.heap [] := K66.trans Kq67 (allS (Or.inr sz_b56) (allS (Or.inr sz_r1_57) all0))
    refine own_step (U' := (T67.setTop (mkF m 58 #[.val (.int p1), .val (.int p2), .val (.int p3), .val (.int p4), .val (.int (2 : Int32)), .val u_53, .val u_54, .val u_55, .val (.ref b56)] []))) (fun t ht => st67.trans ht) ?_
    refine own_step (U' := (T67.setTop (mkF m 60 #[.val (.int p1), .val (.int p2), .val (.int p3), .val (.int p4), .val (.int (2 : Int32)), .val u_53, .val u_54, .val u_55, .val (.ref b56)] [(.int (2 : Int32))]))) (fun t ht => XS.iload X67.here hx rfl (hb hby at_58) rfl ht) ?_
    refine own_step (U' := (T67.setTop (mkF m 61 #[.val (.int p1), .val (.int p2), .val (.int p3), .val (.int p4), .val (.int (2 : Int32)), .val u_53, .val u_54, .val u_55, .val (.ref b56)] [(.int (3 : Int32)), (.int (2 : Int32))]))) (fun t ht => XS.iconst X67.here hx rfl (hb hby at_60) ht) ?_
    refine own_step (U' := (T67.setTop (mkF m 71 #[.val (.int p1), .val (.int p2), .val (.int p3), .val (.int p4), .val (.int (2 : Int32)), .val u_53, .val u_54, .val u_55, .val (.ref b56)] []))) (fun t ht => XS.icmpYes X67.here hx rfl (pc0 := 61) (pc' := 71) rfl (hb hby at_61) rfl (XT.ii_lt_t ((by decide) : (2 : Int32) < (3 : Int32))) (by decide) (by decide) ht) ?_
    refine own_step (U' := (T67.setTop (mkF m 73 #[.val (.int p1), .val (.int p2), .val (.int p3), .val (.int p4), .val (.int (2 : Int32)), .val u_53, .val u_54, .val u_55, .val (.ref b56)] [(.ref b56)]))) (fun t ht => XS.aload X67.here hx rfl (hb hby at_71) rfl rfl ht) ?_
    obtain ⟨cq68, kq68, q68a, q68b, q68c⟩ := isOf hZ rfl Fq67_5
    obtain ⟨_, _, ⟨T68, L68, k68, n68⟩, -, X68, ⟨Lc68, hQ68, l68, y68, z68⟩, st68⟩ := X67.virtualBack hx (y := (⟨"com/example/call_throttle/callthrottle/KeyQueue", "size", "()J"⟩ : MethodName)) (z := (⟨"com/example/call_throttle/callthrottle/KeyQueue", "size", "()J"⟩ : MethodName)) hown (mvT hZ (hw _ (List.mem_of_getElem? (i := 58) rfl))) (mvT hZ (hw _ (List.mem_of_getElem? (i := 59) rfl))) (notFace_of_selects (args := #[]) (mvT hZ (hw _ (List.mem_of_getElem? (i := 61) rfl)))) (mvT hZ (hw _ (List.mem_of_getElem? (i := 61) rfl))) (mvT hZ (hw _ (List.mem_of_getElem? (i := 60) rfl))) (by decide) (backOf (W := 0) (own_m_siz l Z a0 hw [] (b56) ((((0 : Int64) + (1 : Int64)) + (1 : Int64))) T67.heap n0 (Nat.le_trans Z0 K67.1) Fq67_4) hZ (hw _ (List.mem_of_getElem? (i := 62) rfl)) (hw _ (List.mem_of_getElem? (i := 38) rfl)) (by decide) (by decide)) q68a q68c (g := (mkF m 73 #[.val (.int p1), .val (.int p2), .val (.int p3), .val (.int p4), .val (.int (2 : Int32)), .val u_53, .val u_54, .val u_55, .val (.ref b56)] [(.ref b56)])) rfl (by rw [hml]; rfl) (Steps.refl _) (argsL := []) (rest := []) (lenOf own_pd7 rfl) rfl (by show 2 * 0 + _ ≤ _; exact Nat.le_of_eq rfl) (hb hby at_73) (fun _ _ => ⟨rfl, rfl, (by decide : 12 + 0 ≤ _), (by decide : 1055 + 0 ≤ _)⟩)
    dsimp only [Pt.U, Pt.locs, Pt.cells, Pt.slots] at X68 l68 y68 z68 st68 hQ68
    subst l68 y68 z68
    obtain ⟨rfl, Nq68, Kq68⟩ := hQ68
    have N68 := Fr.app N67 Nq68
    have e68 : T68.heap = T67.heap := Kq68
    refine own_step (U' := (T68.setTop (mkF m 76 #[.val (.int p1), .val (.int p2), .val (.int p3), .val (.int p4), .val (.int (2 : Int32)), .val u_53, .val u_54, .val u_55, .val (.ref b56)] [(.long (((0 : Int64) + (1 : Int64)) + (1 : Int64)))]))) (fun t ht => st68.trans ht) ?_
    refine own_step (U' := (T68.setTop (mkF m 78 #[.val (.int p1), .val (.int p2), .val (.int p3), .val (.int p4), .val (.int (2 : Int32)), .val u_53, .val u_54, .val u_55, .val (.ref b56)] [(.int (2 : Int32)), (.long (((0 : Int64) + (1 : Int64)) + (1 : Int64)))]))) (fun t ht => XS.iload X68.here hx rfl (hb hby at_76) rfl ht) ?_
    refine own_step (U' := (T68.setTop (mkF m 79 #[.val (.int p1), .val (.int p2), .val (.int p3), .val (.int p4), .val (.int (2 : Int32)), .val u_53, .val u_54, .val u_55, .val (.ref b56)] [(.long ((2 : Int32).toInt64)), (.long (((0 : Int64) + (1 : Int64)) + (1 : Int64)))]))) (fun t ht => XT.i2l X68.here hx rfl (hb hby at_78) rfl ht) ?_
    refine own_step (U' := (T68.setTop (mkF m 80 #[.val (.int p1), .val (.int p2), .val (.int p3), .val (.int p4), .val (.int (2 : Int32)), .val u_53, .val u_54, .val u_55, .val (.ref b56)] [(.int (XT.cmpL (((0 : Int64) + (1 : Int64)) + (1 : Int64)) ((2 : Int32).toInt64)))]))) (fun t ht => XT.lcmp X68.here hx rfl (hb hby at_79) rfl ht) ?_
    refine own_step (U' := (T68.setTop (mkF m 85 #[.val (.int p1), .val (.int p2), .val (.int p3), .val (.int p4), .val (.int (2 : Int32)), .val u_53, .val u_54, .val u_55, .val (.ref b56)] []))) (fun t ht => XS.ifYes X68.here hx rfl (pc0 := 80) (pc' := 85) rfl (hb hby at_80) rfl (XT.ll_eq_t ((by decide) : (((0 : Int64) + (1 : Int64)) + (1 : Int64)) = ((2 : Int32).toInt64))) (by decide) (by decide) ht) ?_
    refine own_step (U' := (T68.setTop (mkF m 87 #[.val (.int p1), .val (.int p2), .val (.int p3), .val (.int p4), .val (.int (2 : Int32)), .val u_53, .val u_54, .val u_55, .val (.ref b56)] [(.ref b56)]))) (fun t ht => XS.aload X68.here hx rfl (hb hby at_85) rfl rfl ht) ?_
    obtain ⟨cq69, kq69, q69a, q69b, q69c⟩ := isOf hZ e68 Fq67_5
    obtain ⟨_, _, ⟨T69, L69, k69, n69⟩, -, X69, ⟨Lc69, hQ69, l69, y69, z69⟩, st69⟩ := X68.virtualBack hx (y := (⟨"com/example/call_throttle/callthrottle/KeyQueue", "isEmpty", "()Z"⟩ : MethodName)) (z := (⟨"com/example/call_throttle/callthrottle/KeyQueue", "isEmpty", "()Z"⟩ : MethodName)) hown (mvT hZ (hw _ (List.mem_of_getElem? (i := 65) rfl))) (mvT hZ (hw _ (List.mem_of_getElem? (i := 66) rfl))) (notFace_of_selects (args := #[]) (mvT hZ (hw _ (List.mem_of_getElem? (i := 68) rfl)))) (mvT hZ (hw _ (List.mem_of_getElem? (i := 68) rfl))) (mvT hZ (hw _ (List.mem_of_getElem? (i := 67) rfl))) (by decide) (backOf (W := 0) (own_m_ie l Z a0 hw [] (b56) ((((0 : Int64) + (1 : Int64)) + (1 : Int64))) T67.heap n0 (Nat.le_trans Z0 K67.1) Fq67_4) hZ (hw _ (List.mem_of_getElem? (i := 69) rfl)) (hw _ (List.mem_of_getElem? (i := 38) rfl)) (by decide) (by decide)) q69a q69c (g := (mkF m 87 #[.val (.int p1), .val (.int p2), .val (.int p3), .val (.int p4), .val (.int (2 : Int32)), .val u_53, .val u_54, .val u_55, .val (.ref b56)] [(.ref b56)])) rfl (by rw [hml]; rfl) (Steps.refl _) (argsL := []) (rest := []) (lenOf own_pd8 rfl) rfl (by show 2 * 0 + _ ≤ _; exact Nat.le_of_eq rfl) (hb hby at_87) (fun _ _ => ⟨rfl, e68, (by decide : 12 + 0 ≤ _), (by decide : 1055 + 0 ≤ _)⟩)
    dsimp only [Pt.U, Pt.locs, Pt.cells, Pt.slots] at X69 l69 y69 z69 st69 hQ69
    subst l69 y69 z69
    obtain ⟨rfl, Nq69, Kq69⟩ := hQ69
    have N69 := Fr.app N68 Nq69
    have e69 : T69.heap = T67.heap := Kq69
    refine own_step (U' := (T69.setTop (mkF m 90 #[.val (.int p1), .val (.int p2), .val (.int p3), .val (.int p4), .val (.int (2 : Int32)), .val u_53, .val u_54, .val u_55, .val (.ref b56)] [(.int (own_ie (((0 : Int64) + (1 : Int64)) + (1 : Int64))))]))) (fun t ht => st69.trans ht) ?_
    refine own_step (U' := (T69.setTop (mkF m 92 #[.val (.int p1), .val (.int p2), .val (.int p3), .val (.int p4), .val (.int (2 : Int32)), .val u_53, .val u_54, .val u_55, .val (.ref b56)] [(.int (2 : Int32)), (.int (own_ie (((0 : Int64) + (1 : Int64)) + (1 : Int64))))]))) (fun t ht => XS.iload X69.here hx rfl (hb hby at_90) rfl ht) ?_
    refine own_step (U' := (T69.setTop (mkF m 99 #[.val (.int p1), .val (.int p2), .val (.int p3), .val (.int p4), .val (.int (2 : Int32)), .val u_53, .val u_54, .val u_55, .val (.ref b56)] [(.int (own_ie (((0 : Int64) + (1 : Int64)) + (1 : Int64))))]))) (fun t ht => XS.ifYes X69.here hx rfl (pc0 := 92) (pc' := 99) rfl (hb hby at_92) rfl (XT.i0_ne_t ((by decide) : ¬ ((2 : Int32) = 0))) (by decide) (by decide) ht) ?_
    refine own_step (U' := (T69.setTop (mkF m 100 #[.val (.int p1), .val (.int p2), .val (.int p3), .val (.int p4), .val (.int (2 : Int32)), .val u_53, .val u_54, .val u_55, .val (.ref b56)] [(.int (0 : Int32)), (.int (own_ie (((0 : Int64) + (1 : Int64)) + (1 : Int64))))]))) (fun t ht => XS.iconst X69.here hx rfl (hb hby at_99) ht) ?_
    refine own_step (U' := (T69.setTop (mkF m 105 #[.val (.int p1), .val (.int p2), .val (.int p3), .val (.int p4), .val (.int (2 : Int32)), .val u_53, .val u_54, .val u_55, .val (.ref b56)] []))) (fun t ht => XS.icmpYes X69.here hx rfl (pc0 := 100) (pc' := 105) rfl (hb hby at_100) rfl (XT.ii_eq_t ((by decide) : (own_ie (((0 : Int64) + (1 : Int64)) + (1 : Int64))) = (0 : Int32))) (by decide) (by decide) ht) ?_
    refine own_step (U' := (T69.setTop (mkF m 107 #[.val (.int p1), .val (.int p2), .val (.int p3), .val (.int p4), .val (.int (2 : Int32)), .val u_53, .val u_54, .val u_55, .val (.ref b56)] [(.int (2 : Int32))]))) (fun t ht => XS.iload X69.here hx rfl (hb hby at_105) rfl ht) ?_
    refine own_step (U' := (T69.setTop (mkF m 108 #[.val (.int p1), .val (.int p2), .val (.int p3), .val (.int p4), .val (.int (2 : Int32)), .val u_53, .val u_54, .val u_55, .val (.ref b56)] [(.int (1 : Int32)), (.int (2 : Int32))]))) (fun t ht => XS.iconst X69.here hx rfl (hb hby at_107) ht) ?_
    refine own_step (U' := (T69.setTop (mkF m 111 #[.val (.int p1), .val (.int p2), .val (.int p3), .val (.int p4), .val (.int (2 : Int32)), .val u_53, .val u_54, .val u_55, .val (.ref b56)] []))) (fun t ht => XS.icmpNo X69.here hx rfl (hb hby at_108) rfl (XT.ii_lt_f ((by decide) : ¬ ((2 : Int32) < (1 : Int32)))) ht) ?_
    refine own_step (U' := (T69.setTop (mkF m 113 #[.val (.int p1), .val (.int p2), .val (.int p3), .val (.int p4), .val (.int (2 : Int32)), .val u_53, .val u_54, .val u_55, .val (.ref b56)] [(.ref b56)]))) (fun t ht => XS.aload X69.here hx rfl (hb hby at_111) rfl rfl ht) ?_
    obtain ⟨cq70, kq70, q70a, q70b, q70c⟩ := isOf hZ e69 Fq67_5
    obtain ⟨_, _, ⟨T70, L70, k70, n70⟩, -, X70, ⟨Lc70, hQ70, l70, y70, z70⟩, st70⟩ := X69.virtualBack hx (y := (⟨"com/example/call_throttle/callthrottle/KeyQueue", "removeFirst", "()Ljava/lang/String;"⟩ : MethodName)) (z := (⟨"com/example/call_throttle/callthrottle/KeyQueue", "removeFirst", "()Ljava/lang/String;"⟩ : MethodName)) hown (mvT hZ (hw _ (List.mem_of_getElem? (i := 78) rfl))) (mvT hZ (hw _ (List.mem_of_getElem? (i := 79) rfl))) (notFace_of_selects (args := #[]) (mvT hZ (hw _ (List.mem_of_getElem? (i := 81) rfl)))) (mvT hZ (hw _ (List.mem_of_getElem? (i := 81) rfl))) (mvT hZ (hw _ (List.mem_of_getElem? (i := 80) rfl))) (by decide) (backOf (W := 0) (own_m_rem l Z a0 hw [] (b56) (c1_57) (r1_57) (kA_57) ((0 : Int32)) ((((0 : Int32) + (1 : Int32)) + (1 : Int32))) ((((0 : Int64) + (1 : Int64)) + (1 : Int64))) ((([.null, .null, .null, .null].set 0 u_53).set 1 u_54)) (u_53) (0) T67.heap n0 (Nat.le_trans Z0 K67.1) g_b56 g_r1_57 p57_0 p57_1 Fq67_0 Fq67_1 Fq67_2 Fq67_3 Fq67_4 Fq67_5 Fq67_6 Fq67_7 Fq67_8 (by decide) (by decide) (by decide) (by decide) rfl (Nat.le_of_ble_eq_true rfl) rfl Fq53_0.isRef) hZ (hw _ (List.mem_of_getElem? (i := 82) rfl)) (hw _ (List.mem_of_getElem? (i := 38) rfl)) (by decide) (by decide)) q70a q70c (g := (mkF m 113 #[.val (.int p1), .val (.int p2), .val (.int p3), .val (.int p4), .val (.int (2 : Int32)), .val u_53, .val u_54, .val u_55, .val (.ref b56)] [(.ref b56)])) rfl (by rw [hml]; rfl) (Steps.refl _) (argsL := []) (rest := []) (lenOf own_pd10 rfl) rfl (by show 2 * 0 + _ ≤ _; exact Nat.le_of_eq rfl) (hb hby at_113) (fun _ _ => ⟨rfl, e69, (by decide : 12 + 0 ≤ _), (by decide : 1055 + 0 ≤ _)⟩)
    dsimp only [Pt.U, Pt.locs, Pt.cells, Pt.slots] at X70 l70 y70 z70 st70 hQ70
    subst l70 y70 z70
    obtain ⟨rfl, Nq70, Kq70, Fq70_0, Fq70_1, Fq70_2, Fq70_3, Fq70_4, Fq70_5, Fq70_6, Fq70_7, Fq70_8⟩ := hQ70
    have N70 := Fr.app N69 Nq70
    have f70_0 : Sta Z T70.heap "java/lang/String" "COMPACT_STRINGS" "Z" (.int cz) := own_sta_keep f67_0 Kq70 (own_plF Fq67_0 (own_plV Fq67_8 own_pl0))
    have f70_1 : own_Key Z T70.heap u_53 := f67_1.keep Kq70
    have f70_2 : own_Key Z T70.heap u_54 := f67_2.keep Kq70
    have f70_3 : own_Key Z T70.heap u_55 := f67_3.keep Kq70
    have f70_9 : Exa Z T70.heap b56 "com/example/call_throttle/callthrottle/KeyQueue" := Fq67_5.keep Kq70
    have f70_10 : Fld Z T70.heap c1_57 "com/example/call_throttle/callthrottle/KeyQueue$Chunk" "keys" "[Ljava/lang/String;" (.ref r1_57) := Fq67_6.keep Kq70 (ninS (Ne.symm ne_b56_c1_57) (ninS p57_1 nin0))
    have f70_11 : Exa Z T70.heap c1_57 "com/example/call_throttle/callthrottle/KeyQueue$Chunk" := Fq67_7.keep Kq70
    have K70 : Keep h0 T70.heap [] := K67.trans Kq70 (allS (Or.inr sz_b56) (allS (Or.inr sz_r1_57) all0))
    refine own_step (U' := (T70.setTop (mkF m 116 #[.val (.int p1), .val (.int p2), .val (.int p3), .val (.int p4), .val (.int (2 : Int32)), .val u_53, .val u_54, .val u_55, .val (.ref b56)] [u_53]))) (fun t ht => st70.trans ht) ?_
    refine own_step (U' := (T70.setTop (mkF m 118 #[.val (.int p1), .val (.int p2), .val (.int p3), .val (.int p4), .val (.int (2 : Int32)), .val u_53, .val u_54, .val u_55, .val (.ref b56)] [u_53, u_53]))) (fun t ht => XS.aload X70.here hx rfl (hb hby at_116) rfl Fq53_0.isRef ht) ?_
    refine own_step (U' := (T70.setTop (mkF m 123 #[.val (.int p1), .val (.int p2), .val (.int p3), .val (.int p4), .val (.int (2 : Int32)), .val u_53, .val u_54, .val u_55, .val (.ref b56)] []))) (fun t ht => Jvm.RoadKit.acmp (g := (mkF m 118 #[.val (.int p1), .val (.int p2), .val (.int p3), .val (.int p4), .val (.int (2 : Int32)), .val u_53, .val u_54, .val u_55, .val (.ref b56)] [u_53, u_53])) X70 hx rfl Fq53_0.isRef Fq53_0.isRef (pc0 := 118) (pc' := 123) (same := true) rfl (hb hby at_118) rfl (decide_eq_true (rfl : u_53 = u_53)) (by decide) (by decide) ht) ?_
    refine own_step (U' := (T70.setTop (mkF m 125 #[.val (.int p1), .val (.int p2), .val (.int p3), .val (.int p4), .val (.int (2 : Int32)), .val u_53, .val u_54, .val u_55, .val (.ref b56)] [(.int (2 : Int32))]))) (fun t ht => XS.iload X70.here hx rfl (hb hby at_123) rfl ht) ?_
    refine own_step (U' := (T70.setTop (mkF m 126 #[.val (.int p1), .val (.int p2), .val (.int p3), .val (.int p4), .val (.int (2 : Int32)), .val u_53, .val u_54, .val u_55, .val (.ref b56)] [(.int (2 : Int32)), (.int (2 : Int32))]))) (fun t ht => XS.iconst X70.here hx rfl (hb hby at_125) ht) ?_
    refine own_step (U' := (T70.setTop (mkF m 129 #[.val (.int p1), .val (.int p2), .val (.int p3), .val (.int p4), .val (.int (2 : Int32)), .val u_53, .val u_54, .val u_55, .val (.ref b56)] []))) (fun t ht => XS.icmpNo X70.here hx rfl (hb hby at_126) rfl (XT.ii_lt_f ((by decide) : ¬ ((2 : Int32) < (2 : Int32)))) ht) ?_
    refine own_step (U' := (T70.setTop (mkF m 131 #[.val (.int p1), .val (.int p2), .val (.int p3), .val (.int p4), .val (.int (2 : Int32)), .val u_53, .val u_54, .val u_55, .val (.ref b56)] [(.ref b56)]))) (fun t ht => XS.aload X70.here hx rfl (hb hby at_129) rfl rfl ht) ?_
    obtain ⟨cq71, kq71, q71a, q71b, q71c⟩ := isOf hZ rfl Fq70_5
    obtain ⟨_, _, ⟨T71, L71, k71, n71⟩, -, X71, ⟨Lc71, hQ71, l71, y71, z71⟩, st71⟩ := X70.virtualBack hx (y := (⟨"com/example/call_throttle/callthrottle/KeyQueue", "removeFirst", "()Ljava/lang/String;"⟩ : MethodName)) (z := (⟨"com/example/call_throttle/callthrottle/KeyQueue", "removeFirst", "()Ljava/lang/String;"⟩ : MethodName)) hown (mvT hZ (hw _ (List.mem_of_getElem? (i := 78) rfl))) (mvT hZ (hw _ (List.mem_of_getElem? (i := 79) rfl))) (notFace_of_selects (args := #[]) (mvT hZ (hw _ (List.mem_of_getElem? (i := 81) rfl)))) (mvT hZ (hw _ (List.mem_of_getElem? (i := 81) rfl))) (mvT hZ (hw _ (List.mem_of_getElem? (i := 80) rfl))) (by decide) (backOf (W := 0) (own_m_rem l Z a0 hw [] (b56) (c1_57) (r1_57) (kA_57) (((0 : Int32) + (1 : Int32))) ((((0 : Int32) + (1 : Int32)) + (1 : Int32))) (((((0 : Int64) + (1 : Int64)) + (1 : Int64)) - (1 : Int64))) (((([.null, .null, .null, .null].set 0 u_53).set 1 u_54).set 0 .null)) (u_54) (1) T70.heap n0 (Nat.le_trans Z0 K70.1) g_b56 g_r1_57 p57_0 p57_1 Fq70_0 Fq70_1 Fq70_2 Fq70_3 Fq70_4 Fq70_5 Fq70_6 Fq70_7 Fq70_8 (by decide) (by decide) (by decide) (by decide) rfl (Nat.le_of_ble_eq_true rfl) rfl Fq54_0.isRef) hZ (hw _ (List.mem_of_getElem? (i := 82) rfl)) (hw _ (List.mem_of_getElem? (i := 38) rfl)) (by decide) (by decide)) q71a q71c (g := (mkF m 131 #[.val (.int p1), .val (.int p2), .val (.int p3), .val (.int p4), .val (.int (2 : Int32)), .val u_53, .val u_54, .val u_55, .val (.ref b56)] [(.ref b56)])) rfl (by rw [hml]; rfl) (Steps.refl _) (argsL := []) (rest := []) (lenOf own_pd10 rfl) rfl (by show 2 * 0 + _ ≤ _; exact Nat.le_of_eq rfl) (hb hby at_131) (fun _ _ => ⟨rfl, rfl, (by decide : 12 + 0 ≤ _), (by decide : 1055 + 0 ≤ _)⟩)
    dsimp only [Pt.U, Pt.locs, Pt.cells, Pt.slots] at X71 l71 y71 z71 st71 hQ71
    subst l71 y71 z71
    obtain ⟨rfl, Nq71, Kq71, Fq71_0, Fq71_1, Fq71_2, Fq71_3, Fq71_4, Fq71_5, Fq71_6, Fq71_7, Fq71_8⟩ := hQ71
    have N71 := Fr.app N70 Nq71
    have f71_0 : Sta Z T71.heap "java/lang/String" "COMPACT_STRINGS" "Z" (.int cz) := own_sta_keep f70_0 Kq71 (own_plF Fq70_0 (own_plV Fq70_8 own_pl0))
    have f71_1 : own_Key Z T71.heap u_53 := f70_1.keep Kq71
    have f71_2 : own_Key Z T71.heap u_54 := f70_2.keep Kq71
    have f71_3 : own_Key Z T71.heap u_55 := f70_3.keep Kq71
    have f71_9 : Exa Z T71.heap b56 "com/example/call_throttle/callthrottle/KeyQueue" := Fq70_5.keep Kq71
    have f71_10 : Fld Z T71.heap c1_57 "com/example/call_throttle/callthrottle/KeyQueue$Chunk" "keys" "[Ljava/lang/String;" (.ref r1_57) := Fq70_6.keep Kq71 (ninS (Ne.symm ne_b56_c1_57) (ninS p57_1 nin0))
    have f71_11 : Exa Z T71.heap c1_57 "com/example/call_throttle/callthrottle/KeyQueue$Chunk" := Fq70_7.keep Kq71
    have K71 : Keep h0 T71.heap [] := K70.trans Kq71 (allS (Or.inr sz_b56) (allS (Or.inr sz_r1_57) all0))
    refine own_step (U' := (T71.setTop (mkF m 134 #[.val (.int p1), .val (.int p2), .val (.int p3), .val (.int p4), .val (.int (2 : Int32)), .val u_53, .val u_54, .val u_55, .val (.ref b56)] [u_54]))) (fun t ht => st71.trans ht) ?_
    refine own_step (U' := (T71.setTop (mkF m 136 #[.val (.int p1), .val (.int p2), .val (.int p3), .val (.int p4), .val (.int (2 : Int32)), .val u_53, .val u_54, .val u_55, .val (.ref b56)] [u_54, u_54]))) (fun t ht => XS.aload X71.here hx rfl (hb hby at_134) rfl Fq54_0.isRef ht) ?_
    refine own_step (U' := (T71.setTop (mkF m 141 #[.val (.int p1), .val (.int p2), .val (.int p3), .val (.int p4), .val (.int (2 : Int32)), .val u_53, .val u_54, .val u_55, .val (.ref b56)] []))) (fun t ht => Jvm.RoadKit.acmp (g := (mkF m 136 #[.val (.int p1), .val (.int p2), .val (.int p3), .val (.int p4), .val (.int (2 : Int32)), .val u_53, .val u_54, .val u_55, .val (.ref b56)] [u_54, u_54])) X71 hx rfl Fq54_0.isRef Fq54_0.isRef (pc0 := 136) (pc' := 141) (same := true) rfl (hb hby at_136) rfl (decide_eq_true (rfl : u_54 = u_54)) (by decide) (by decide) ht) ?_
    refine own_step (U' := (T71.setTop (mkF m 143 #[.val (.int p1), .val (.int p2), .val (.int p3), .val (.int p4), .val (.int (2 : Int32)), .val u_53, .val u_54, .val u_55, .val (.ref b56)] [(.int (2 : Int32))]))) (fun t ht => XS.iload X71.here hx rfl (hb hby at_141) rfl ht) ?_
    refine own_step (U' := (T71.setTop (mkF m 144 #[.val (.int p1), .val (.int p2), .val (.int p3), .val (.int p4), .val (.int (2 : Int32)), .val u_53, .val u_54, .val u_55, .val (.ref b56)] [(.int (3 : Int32)), (.int (2 : Int32))]))) (fun t ht => XS.iconst X71.here hx rfl (hb hby at_143) ht) ?_
    refine own_step (U' := (T71.setTop (mkF m 159 #[.val (.int p1), .val (.int p2), .val (.int p3), .val (.int p4), .val (.int (2 : Int32)), .val u_53, .val u_54, .val u_55, .val (.ref b56)] []))) (fun t ht => XS.icmpYes X71.here hx rfl (pc0 := 144) (pc' := 159) rfl (hb hby at_144) rfl (XT.ii_lt_t ((by decide) : (2 : Int32) < (3 : Int32))) (by decide) (by decide) ht) ?_
    refine own_step (U' := (T71.setTop (mkF m 161 #[.val (.int p1), .val (.int p2), .val (.int p3), .val (.int p4), .val (.int (2 : Int32)), .val u_53, .val u_54, .val u_55, .val (.ref b56)] [(.ref b56)]))) (fun t ht => XS.aload X71.here hx rfl (hb hby at_159) rfl rfl ht) ?_
    obtain ⟨cq72, kq72, q72a, q72b, q72c⟩ := isOf hZ rfl Fq71_5
    obtain ⟨_, _, ⟨T72, L72, k72, n72⟩, -, X72, ⟨Lc72, hQ72, l72, y72, z72⟩, st72⟩ := X71.virtualBack hx (y := (⟨"com/example/call_throttle/callthrottle/KeyQueue", "isEmpty", "()Z"⟩ : MethodName)) (z := (⟨"com/example/call_throttle/callthrottle/KeyQueue", "isEmpty", "()Z"⟩ : MethodName)) hown (mvT hZ (hw _ (List.mem_of_getElem? (i := 65) rfl))) (mvT hZ (hw _ (List.mem_of_getElem? (i := 66) rfl))) (notFace_of_selects (args := #[]) (mvT hZ (hw _ (List.mem_of_getElem? (i := 68) rfl)))) (mvT hZ (hw _ (List.mem_of_getElem? (i := 68) rfl))) (mvT hZ (hw _ (List.mem_of_getElem? (i := 67) rfl))) (by decide) (backOf (W := 0) (own_m_ie l Z a0 hw [] (b56) ((((((0 : Int64) + (1 : Int64)) + (1 : Int64)) - (1 : Int64)) - (1 : Int64))) T71.heap n0 (Nat.le_trans Z0 K71.1) Fq71_4) hZ (hw _ (List.mem_of_getElem? (i := 69) rfl)) (hw _ (List.mem_of_getElem? (i := 38) rfl)) (by decide) (by decide)) q72a q72c (g := (mkF m 161 #[.val (.int p1), .val (.int p2), .val (.int p3), .val (.int p4), .val (.int (2 : Int32)), .val u_53, .val u_54, .val u_55, .val (.ref b56)] [(.ref b56)])) rfl (by rw [hml]; rfl) (Steps.refl _) (argsL := []) (rest := []) (lenOf own_pd8 rfl) rfl (by show 2 * 0 + _ ≤ _; exact Nat.le_of_eq rfl) (hb hby at_161) (fun _ _ => ⟨rfl, rfl, (by decide : 12 + 0 ≤ _), (by decide : 1055 + 0 ≤ _)⟩)
    dsimp only [Pt.U, Pt.locs, Pt.cells, Pt.slots] at X72 l72 y72 z72 st72 hQ72
    subst l72 y72 z72
    obtain ⟨rfl, Nq72, Kq72⟩ := hQ72
    have N72 := Fr.app N71 Nq72
    have e72 : T72.heap = T71.heap := Kq72
    refine own_step (U' := (T72.setTop (mkF m 164 #[.val (.int p1), .val (.int p2), .val (.int p3), .val (.int p4), .val (.int (2 : Int32)), .val u_53, .val u_54, .val u_55, .val (.ref b56)] [(.int (own_ie (((((0 : Int64) + (1 : Int64)) + (1 : Int64)) - (1 : Int64)) - (1 : Int64))))]))) (fun t ht => st72.trans ht) ?_
    refine own_ret X72 (v := (some (.int (nar .boolean (own_ie (((((0 : Int64) + (1 : Int64)) + (1 : Int64)) - (1 : Int64)) - (1 : Int64))))))) (fun h => by rw [Bd.returns] at h; cases h) Bd.notSynchronized (by decide) (by decide) ?_ (fun fs hr => retN X72 hx (t := .boolean) Bd.returns (by simp) (hb hby at_164) hr)
    show own_Q_law Z p1 p2 p3 p4 cz h0 n0 _ T72.heap _
    rw [e72]
    exact ⟨(congrArg (fun z => some (Value.int z)) (by decide)), N72⟩
  ·
    refine own_step (U' := (T57.setTop (mkF m 34 #[.val (.int p1), .val (.int p2), .val (.int p3), .val (.int p4), .val (.int (3 : Int32)), .val u_53, .val u_54, .val u_55, .val (.ref b56)] [(.int (3 : Int32))]))) (fun t ht => XS.iload X57.here hx rfl (hb hby at_32) rfl ht) ?_
    refine own_step (U' := (T57.setTop (mkF m 35 #[.val (.int p1), .val (.int p2), .val (.int p3), .val (.int p4), .val (.int (3 : Int32)), .val u_53, .val u_54, .val u_55, .val (.ref b56)] [(.int (1 : Int32)), (.int (3 : Int32))]))) (fun t ht => XS.iconst X57.here hx rfl (hb hby at_34) ht) ?_
    refine own_step (U' := (T57.setTop (mkF m 38 #[.val (.int p1), .val (.int p2), .val (.int p3), .val (.int p4), .val (.int (3 : Int32)), .val u_53, .val u_54, .val u_55, .val (.ref b56)] []))) (fun t ht => XS.icmpNo X57.here hx rfl (hb hby at_35) rfl (XT.ii_lt_f ((by decide) : ¬ ((3 : Int32) < (1 : Int32)))) ht) ?_
    refine own_step (U' := (T57.setTop (mkF m 40 #[.val (.int p1), .val (.int p2), .val (.int p3), .val (.int p4), .val (.int (3 : Int32)), .val u_53, .val u_54, .val u_55, .val (.ref b56)] [(.ref b56)]))) (fun t ht => XS.aload X57.here hx rfl (hb hby at_38) rfl rfl ht) ?_
    refine own_step (U' := (T57.setTop (mkF m 42 #[.val (.int p1), .val (.int p2), .val (.int p3), .val (.int p4), .val (.int (3 : Int32)), .val u_53, .val u_54, .val u_55, .val (.ref b56)] [u_53, (.ref b56)]))) (fun t ht => XS.aload X57.here hx rfl (hb hby at_40) rfl Fq53_0.isRef ht) ?_
    obtain ⟨cq73, kq73, q73a, q73b, q73c⟩ := isOf hZ rfl Fq57_5
    obtain ⟨_, _, ⟨T73, L73, k73, n73⟩, -, X73, ⟨Lc73, hQ73, l73, y73, z73⟩, st73⟩ := X57.virtualBack hx (y := (⟨"com/example/call_throttle/callthrottle/KeyQueue", "addLast", "(Ljava/lang/String;)V"⟩ : MethodName)) (z := (⟨"com/example/call_throttle/callthrottle/KeyQueue", "addLast", "(Ljava/lang/String;)V"⟩ : MethodName)) hown (mvT hZ (hw _ (List.mem_of_getElem? (i := 70) rfl))) (mvT hZ (hw _ (List.mem_of_getElem? (i := 71) rfl))) (notFace_of_selects (args := #[]) (mvT hZ (hw _ (List.mem_of_getElem? (i := 73) rfl)))) (mvT hZ (hw _ (List.mem_of_getElem? (i := 73) rfl))) (mvT hZ (hw _ (List.mem_of_getElem? (i := 72) rfl))) (by decide) (backOf (W := 0) (own_m_add l Z a0 hw [] (b56) (c1_57) (r1_57) (kA_57) ((0 : Int32)) ((0 : Int32)) ((0 : Int64)) ([.null, .null, .null, .null]) (u_53) (0) T57.heap n0 (Nat.le_trans Z0 K57.1) g_b56 g_r1_57 p57_0 p57_1 Fq57_0 Fq57_1 Fq57_2 Fq57_3 Fq57_4 Fq57_5 Fq57_6 Fq57_7 Fq57_8 f57_1 p57_2 (by decide) (by decide) (by decide) rfl (Nat.le_of_ble_eq_true rfl)) hZ (hw _ (List.mem_of_getElem? (i := 74) rfl)) (hw _ (List.mem_of_getElem? (i := 38) rfl)) (by decide) (by decide)) q73a q73c (g := (mkF m 42 #[.val (.int p1), .val (.int p2), .val (.int p3), .val (.int p4), .val (.int (3 : Int32)), .val u_53, .val u_54, .val u_55, .val (.ref b56)] [u_53, (.ref b56)])) rfl (by rw [hml]; rfl) (Steps.refl _) (argsL := [u_53]) (rest := []) (lenOf own_pd9 rfl) rfl (by show 2 * 0 + _ ≤ _; exact Nat.le_of_eq rfl) (hb hby at_42) (fun _ _ => ⟨rfl, rfl, (by decide : 12 + 0 ≤ _), (by decide : 1055 + 0 ≤ _)⟩)
    dsimp only [Pt.U, Pt.locs, Pt.cells, Pt.slots] at X73 l73 y73 z73 st73 hQ73
    subst l73 y73 z73
    obtain ⟨rfl, Nq73, Kq73, Fq73_0, Fq73_1, Fq73_2, Fq73_3, Fq73_4, Fq73_5, Fq73_6, Fq73_7, Fq73_8⟩ := hQ73
    have N73 := Fr.app N57 Nq73
    have f73_0 : Sta Z T73.heap "java/lang/String" "COMPACT_STRINGS" "Z" (.int cz) := own_sta_keep f57_0 Kq73 (own_plF Fq57_0 (own_plV Fq57_8 own_pl0))
    have f73_1 : own_Key Z T73.heap u_53 := f57_1.keep Kq73
    have f73_2 : own_Key Z T73.heap u_54 := f57_2.keep Kq73
    have f73_3 : own_Key Z T73.heap u_55 := f57_3.keep Kq73
    have f73_9 : Exa Z T73.heap b56 "com/example/call_throttle/callthrottle/KeyQueue" := Fq57_5.keep Kq73
    have f73_10 : Fld Z T73.heap c1_57 "com/example/call_throttle/callthrottle/KeyQueue$Chunk" "keys" "[Ljava/lang/String;" (.ref r1_57) := Fq57_6.keep Kq73 (ninS (Ne.symm ne_b56_c1_57) (ninS p57_1 nin0))
    have f73_11 : Exa Z T73.heap c1_57 "com/example/call_throttle/callthrottle/KeyQueue$Chunk" := Fq57_7.keep Kq73
    have K73 : Keep h0 T73.heap [] := K57.trans Kq73 (allS (Or.inr sz_b56) (allS (Or.inr sz_r1_57) all0))
    refine own_step (U' := (T73.setTop (mkF m 45 #[.val (.int p1), .val (.int p2), .val (.int p3), .val (.int p4), .val (.int (3 : Int32)), .val u_53, .val u_54, .val u_55, .val (.ref b56)] []))) (fun t ht => st73.trans ht) ?_
    refine own_step (U' := (T73.setTop (mkF m 47 #[.val (.int p1), .val (.int p2), .val (.int p3), .val (.int p4), .val (.int (3 : Int32)), .val u_53, .val u_54, .val u_55, .val (.ref b56)] [(.int (3 : Int32))]))) (fun t ht => XS.iload X73.here hx rfl (hb hby at_45) rfl ht) ?_
    refine own_step (U' := (T73.setTop (mkF m 48 #[.val (.int p1), .val (.int p2), .val (.int p3), .val (.int p4), .val (.int (3 : Int32)), .val u_53, .val u_54, .val u_55, .val (.ref b56)] [(.int (2 : Int32)), (.int (3 : Int32))]))) (fun t ht => XS.iconst X73.here hx rfl (hb hby at_47) ht) ?_
    refine own_step (U' := (T73.setTop (mkF m 51 #[.val (.int p1), .val (.int p2), .val (.int p3), .val (.int p4), .val (.int (3 : Int32)), .val u_53, .val u_54, .val u_55, .val (.ref b56)] []))) (fun t ht => XS.icmpNo X73.here hx rfl (hb hby at_48) rfl (XT.ii_lt_f ((by decide) : ¬ ((3 : Int32) < (2 : Int32)))) ht) ?_
    refine own_step (U' := (T73.setTop (mkF m 53 #[.val (.int p1), .val (.int p2), .val (.int p3), .val (.int p4), .val (.int (3 : Int32)), .val u_53, .val u_54, .val u_55, .val (.ref b56)] [(.ref b56)]))) (fun t ht => XS.aload X73.here hx rfl (hb hby at_51) rfl rfl ht) ?_
    refine own_step (U' := (T73.setTop (mkF m 55 #[.val (.int p1), .val (.int p2), .val (.int p3), .val (.int p4), .val (.int (3 : Int32)), .val u_53, .val u_54, .val u_55, .val (.ref b56)] [u_54, (.ref b56)]))) (fun t ht => XS.aload X73.here hx rfl (hb hby at_53) rfl Fq54_0.isRef ht) ?_
    obtain ⟨cq74, kq74, q74a, q74b, q74c⟩ := isOf hZ rfl Fq73_5
    obtain ⟨_, _, ⟨T74, L74, k74, n74⟩, -, X74, ⟨Lc74, hQ74, l74, y74, z74⟩, st74⟩ := X73.virtualBack hx (y := (⟨"com/example/call_throttle/callthrottle/KeyQueue", "addLast", "(Ljava/lang/String;)V"⟩ : MethodName)) (z := (⟨"com/example/call_throttle/callthrottle/KeyQueue", "addLast", "(Ljava/lang/String;)V"⟩ : MethodName)) hown (mvT hZ (hw _ (List.mem_of_getElem? (i := 70) rfl))) (mvT hZ (hw _ (List.mem_of_getElem? (i := 71) rfl))) (notFace_of_selects (args := #[]) (mvT hZ (hw _ (List.mem_of_getElem? (i := 73) rfl)))) (mvT hZ (hw _ (List.mem_of_getElem? (i := 73) rfl))) (mvT hZ (hw _ (List.mem_of_getElem? (i := 72) rfl))) (by decide) (backOf (W := 0) (own_m_add l Z a0 hw [] (b56) (c1_57) (r1_57) (kA_57) ((0 : Int32)) (((0 : Int32) + (1 : Int32))) (((0 : Int64) + (1 : Int64))) (([.null, .null, .null, .null].set 0 u_53)) (u_54) (1) T73.heap n0 (Nat.le_trans Z0 K73.1) g_b56 g_r1_57 p57_0 p57_1 Fq73_0 Fq73_1 Fq73_2 Fq73_3 Fq73_4 Fq73_5 Fq73_6 Fq73_7 Fq73_8 f73_2 p57_2 (by decide) (by decide) (by decide) rfl (Nat.le_of_ble_eq_true rfl)) hZ (hw _ (List.mem_of_getElem? (i := 74) rfl)) (hw _ (List.mem_of_getElem? (i := 38) rfl)) (by decide) (by decide)) q74a q74c (g := (mkF m 55 #[.val (.int p1), .val (.int p2), .val (.int p3), .val (.int p4), .val (.int (3 : Int32)), .val u_53, .val u_54, .val u_55, .val (.ref b56)] [u_54, (.ref b56)])) rfl (by rw [hml]; rfl) (Steps.refl _) (argsL := [u_54]) (rest := []) (lenOf own_pd9 rfl) rfl (by show 2 * 0 + _ ≤ _; exact Nat.le_of_eq rfl) (hb hby at_55) (fun _ _ => ⟨rfl, rfl, (by decide : 12 + 0 ≤ _), (by decide : 1055 + 0 ≤ _)⟩)
    dsimp only [Pt.U, Pt.locs, Pt.cells, Pt.slots] at X74 l74 y74 z74 st74 hQ74
    subst l74 y74 z74
    obtain ⟨rfl, Nq74, Kq74, Fq74_0, Fq74_1, Fq74_2, Fq74_3, Fq74_4, Fq74_5, Fq74_6, Fq74_7, Fq74_8⟩ := hQ74
    have N74 := Fr.app N73 Nq74
    have f74_0 : Sta Z T74.heap "java/lang/String" "COMPACT_STRINGS" "Z" (.int cz) := own_sta_keep f73_0 Kq74 (own_plF Fq73_0 (own_plV Fq73_8 own_pl0))
    have f74_1 : own_Key Z T74.heap u_53 := f73_1.keep Kq74
    have f74_2 : own_Key Z T74.heap u_54 := f73_2.keep Kq74
    have f74_3 : own_Key Z T74.heap u_55 := f73_3.keep Kq74
    have f74_9 : Exa Z T74.heap b56 "com/example/call_throttle/callthrottle/KeyQueue" := Fq73_5.keep Kq74
    have f74_10 : Fld Z T74.heap c1_57 "com/example/call_throttle/callthrottle/KeyQueue$Chunk" "keys" "[Ljava/lang/String;" (.ref r1_57) := Fq73_6.keep Kq74 (ninS (Ne.symm ne_b56_c1_57) (ninS p57_1 nin0))
    have f74_11 : Exa Z T74.heap c1_57 "com/example/call_throttle/callthrottle/KeyQueue$Chunk" := Fq73_7.keep Kq74
    have K74 : Keep h0 T74.heap [] := K73.trans Kq74 (allS (Or.inr sz_b56) (allS (Or.inr sz_r1_57) all0))
    refine own_step (U' := (T74.setTop (mkF m 58 #[.val (.int p1), .val (.int p2), .val (.int p3), .val (.int p4), .val (.int (3 : Int32)), .val u_53, .val u_54, .val u_55, .val (.ref b56)] []))) (fun t ht => st74.trans ht) ?_
    refine own_step (U' := (T74.setTop (mkF m 60 #[.val (.int p1), .val (.int p2), .val (.int p3), .val (.int p4), .val (.int (3 : Int32)), .val u_53, .val u_54, .val u_55, .val (.ref b56)] [(.int (3 : Int32))]))) (fun t ht => XS.iload X74.here hx rfl (hb hby at_58) rfl ht) ?_
    refine own_step (U' := (T74.setTop (mkF m 61 #[.val (.int p1), .val (.int p2), .val (.int p3), .val (.int p4), .val (.int (3 : Int32)), .val u_53, .val u_54, .val u_55, .val (.ref b56)] [(.int (3 : Int32)), (.int (3 : Int32))]))) (fun t ht => XS.iconst X74.here hx rfl (hb hby at_60) ht) ?_
    refine own_step (U' := (T74.setTop (mkF m 64 #[.val (.int p1), .val (.int p2), .val (.int p3), .val (.int p4), .val (.int (3 : Int32)), .val u_53, .val u_54, .val u_55, .val (.ref b56)] []))) (fun t ht => XS.icmpNo X74.here hx rfl (hb hby at_61) rfl (XT.ii_lt_f ((by decide) : ¬ ((3 : Int32) < (3 : Int32)))) ht) ?_
    refine own_step (U' := (T74.setTop (mkF m 66 #[.val (.int p1), .val (.int p2), .val (.int p3), .val (.int p4), .val (.int (3 : Int32)), .val u_53, .val u_54, .val u_55, .val (.ref b56)] [(.ref b56)]))) (fun t ht => XS.aload X74.here hx rfl (hb hby at_64) rfl rfl ht) ?_
    refine own_step (U' := (T74.setTop (mkF m 68 #[.val (.int p1), .val (.int p2), .val (.int p3), .val (.int p4), .val (.int (3 : Int32)), .val u_53, .val u_54, .val u_55, .val (.ref b56)] [u_55, (.ref b56)]))) (fun t ht => XS.aload X74.here hx rfl (hb hby at_66) rfl Fq55_0.isRef ht) ?_
    obtain ⟨cq75, kq75, q75a, q75b, q75c⟩ := isOf hZ rfl Fq74_5
    obtain ⟨_, _, ⟨T75, L75, k75, n75⟩, -, X75, ⟨Lc75, hQ75, l75, y75, z75⟩, st75⟩ := X74.virtualBack hx (y := (⟨"com/example/call_throttle/callthrottle/KeyQueue", "addLast", "(Ljava/lang/String;)V"⟩ : MethodName)) (z := (⟨"com/example/call_throttle/callthrottle/KeyQueue", "addLast", "(Ljava/lang/String;)V"⟩ : MethodName)) hown (mvT hZ (hw _ (List.mem_of_getElem? (i := 70) rfl))) (mvT hZ (hw _ (List.mem_of_getElem? (i := 71) rfl))) (notFace_of_selects (args := #[]) (mvT hZ (hw _ (List.mem_of_getElem? (i := 73) rfl)))) (mvT hZ (hw _ (List.mem_of_getElem? (i := 73) rfl))) (mvT hZ (hw _ (List.mem_of_getElem? (i := 72) rfl))) (by decide) (backOf (W := 0) (own_m_add l Z a0 hw [] (b56) (c1_57) (r1_57) (kA_57) ((0 : Int32)) ((((0 : Int32) + (1 : Int32)) + (1 : Int32))) ((((0 : Int64) + (1 : Int64)) + (1 : Int64))) ((([.null, .null, .null, .null].set 0 u_53).set 1 u_54)) (u_55) (2) T74.heap n0 (Nat.le_trans Z0 K74.1) g_b56 g_r1_57 p57_0 p57_1 Fq74_0 Fq74_1 Fq74_2 Fq74_3 Fq74_4 Fq74_5 Fq74_6 Fq74_7 Fq74_8 f74_3 p57_2 (by decide) (by decide) (by decide) rfl (Nat.le_of_ble_eq_true rfl)) hZ (hw _ (List.mem_of_getElem? (i := 74) rfl)) (hw _ (List.mem_of_getElem? (i := 38) rfl)) (by decide) (by decide)) q75a q75c (g := (mkF m 68 #[.val (.int p1), .val (.int p2), .val (.int p3), .val (.int p4), .val (.int (3 : Int32)), .val u_53, .val u_54, .val u_55, .val (.ref b56)] [u_55, (.ref b56)])) rfl (by rw [hml]; rfl) (Steps.refl _) (argsL := [u_55]) (rest := []) (lenOf own_pd9 rfl) rfl (by show 2 * 0 + _ ≤ _; exact Nat.le_of_eq rfl) (hb hby at_68) (fun _ _ => ⟨rfl, rfl, (by decide : 12 + 0 ≤ _), (by decide : 1055 + 0 ≤ _)⟩)
    dsimp only [Pt.U, Pt.locs, Pt.cells, Pt.slots] at X75 l75 y75 z75 st75 hQ75
    subst l75 y75 z75
    obtain ⟨rfl, Nq75, Kq75, Fq75_0, Fq75_1, Fq75_2, Fq75_3, Fq75_4, Fq75_5, Fq75_6, Fq75_7, Fq75_8⟩ := hQ75
    have N75 := Fr.app N74 Nq75
    have f75_0 : Sta Z T75.heap "java/lang/String" "COMPACT_STRINGS" "Z" (.int cz) := own_sta_keep f74_0 Kq75 (own_plF Fq74_0 (own_plV Fq74_8 own_pl0))
    have f75_1 : own_Key Z T75.heap u_53 := f74_1.keep Kq75
    have f75_2 : own_Key Z T75.heap u_54 := f74_2.keep Kq75
    have f75_3 : own_Key Z T75.heap u_55 := f74_3.keep Kq75
    have f75_9 : Exa Z T75.heap b56 "com/example/call_throttle/callthrottle/KeyQueue" := Fq74_5.keep Kq75
    have f75_10 : Fld Z T75.heap c1_57 "com/example/call_throttle/callthrottle/KeyQueue$Chunk" "keys" "[Ljava/lang/String;" (.ref r1_57) := Fq74_6.keep Kq75 (ninS (Ne.symm ne_b56_c1_57) (ninS p57_1 nin0))
    have f75_11 : Exa Z T75.heap c1_57 "com/example/call_throttle/callthrottle/KeyQueue$Chunk" := Fq74_7.keep Kq75
    have K75 : Keep h0 T75.heap [] := K74.trans Kq75 (allS (Or.inr sz_b56) (allS (Or.inr sz_r1_57) all0))
    refine own_step (U' := (T75.setTop (mkF m 71 #[.val (.int p1), .val (.int p2), .val (.int p3), .val (.int p4), .val (.int (3 : Int32)), .val u_53, .val u_54, .val u_55, .val (.ref b56)] []))) (fun t ht => st75.trans ht) ?_
    refine own_step (U' := (T75.setTop (mkF m 73 #[.val (.int p1), .val (.int p2), .val (.int p3), .val (.int p4), .val (.int (3 : Int32)), .val u_53, .val u_54, .val u_55, .val (.ref b56)] [(.ref b56)]))) (fun t ht => XS.aload X75.here hx rfl (hb hby at_71) rfl rfl ht) ?_
    obtain ⟨cq76, kq76, q76a, q76b, q76c⟩ := isOf hZ rfl Fq75_5
    obtain ⟨_, _, ⟨T76, L76, k76, n76⟩, -, X76, ⟨Lc76, hQ76, l76, y76, z76⟩, st76⟩ := X75.virtualBack hx (y := (⟨"com/example/call_throttle/callthrottle/KeyQueue", "size", "()J"⟩ : MethodName)) (z := (⟨"com/example/call_throttle/callthrottle/KeyQueue", "size", "()J"⟩ : MethodName)) hown (mvT hZ (hw _ (List.mem_of_getElem? (i := 58) rfl))) (mvT hZ (hw _ (List.mem_of_getElem? (i := 59) rfl))) (notFace_of_selects (args := #[]) (mvT hZ (hw _ (List.mem_of_getElem? (i := 61) rfl)))) (mvT hZ (hw _ (List.mem_of_getElem? (i := 61) rfl))) (mvT hZ (hw _ (List.mem_of_getElem? (i := 60) rfl))) (by decide) (backOf (W := 0) (own_m_siz l Z a0 hw [] (b56) (((((0 : Int64) + (1 : Int64)) + (1 : Int64)) + (1 : Int64))) T75.heap n0 (Nat.le_trans Z0 K75.1) Fq75_4) hZ (hw _ (List.mem_of_getElem? (i := 62) rfl)) (hw _ (List.mem_of_getElem? (i := 38) rfl)) (by decide) (by decide)) q76a q76c (g := (mkF m 73 #[.val (.int p1), .val (.int p2), .val (.int p3), .val (.int p4), .val (.int (3 : Int32)), .val u_53, .val u_54, .val u_55, .val (.ref b56)] [(.ref b56)])) rfl (by rw [hml]; rfl) (Steps.refl _) (argsL := []) (rest := []) (lenOf own_pd7 rfl) rfl (by show 2 * 0 + _ ≤ _; exact Nat.le_of_eq rfl) (hb hby at_73) (fun _ _ => ⟨rfl, rfl, (by decide : 12 + 0 ≤ _), (by decide : 1055 + 0 ≤ _)⟩)
    dsimp only [Pt.U, Pt.locs, Pt.cells, Pt.slots] at X76 l76 y76 z76 st76 hQ76
    subst l76 y76 z76
    obtain ⟨rfl, Nq76, Kq76⟩ := hQ76
    have N76 := Fr.app N75 Nq76
    have e76 : T76.heap = T75.heap := Kq76
    refine own_step (U' := (T76.setTop (mkF m 76 #[.val (.int p1), .val (.int p2), .val (.int p3), .val (.int p4), .val (.int (3 : Int32)), .val u_53, .val u_54, .val u_55, .val (.ref b56)] [(.long ((((0 : Int64) + (1 : Int64)) + (1 : Int64)) + (1 : Int64)))]))) (fun t ht => st76.trans ht) ?_
    refine own_step (U' := (T76.setTop (mkF m 78 #[.val (.int p1), .val (.int p2), .val (.int p3), .val (.int p4), .val (.int (3 : Int32)), .val u_53, .val u_54, .val u_55, .val (.ref b56)] [(.int (3 : Int32)), (.long ((((0 : Int64) + (1 : Int64)) + (1 : Int64)) + (1 : Int64)))]))) (fun t ht => XS.iload X76.here hx rfl (hb hby at_76) rfl ht) ?_
    refine own_step (U' := (T76.setTop (mkF m 79 #[.val (.int p1), .val (.int p2), .val (.int p3), .val (.int p4), .val (.int (3 : Int32)), .val u_53, .val u_54, .val u_55, .val (.ref b56)] [(.long ((3 : Int32).toInt64)), (.long ((((0 : Int64) + (1 : Int64)) + (1 : Int64)) + (1 : Int64)))]))) (fun t ht => XT.i2l X76.here hx rfl (hb hby at_78) rfl ht) ?_
    refine own_step (U' := (T76.setTop (mkF m 80 #[.val (.int p1), .val (.int p2), .val (.int p3), .val (.int p4), .val (.int (3 : Int32)), .val u_53, .val u_54, .val u_55, .val (.ref b56)] [(.int (XT.cmpL ((((0 : Int64) + (1 : Int64)) + (1 : Int64)) + (1 : Int64)) ((3 : Int32).toInt64)))]))) (fun t ht => XT.lcmp X76.here hx rfl (hb hby at_79) rfl ht) ?_
    refine own_step (U' := (T76.setTop (mkF m 85 #[.val (.int p1), .val (.int p2), .val (.int p3), .val (.int p4), .val (.int (3 : Int32)), .val u_53, .val u_54, .val u_55, .val (.ref b56)] []))) (fun t ht => XS.ifYes X76.here hx rfl (pc0 := 80) (pc' := 85) rfl (hb hby at_80) rfl (XT.ll_eq_t ((by decide) : ((((0 : Int64) + (1 : Int64)) + (1 : Int64)) + (1 : Int64)) = ((3 : Int32).toInt64))) (by decide) (by decide) ht) ?_
    refine own_step (U' := (T76.setTop (mkF m 87 #[.val (.int p1), .val (.int p2), .val (.int p3), .val (.int p4), .val (.int (3 : Int32)), .val u_53, .val u_54, .val u_55, .val (.ref b56)] [(.ref b56)]))) (fun t ht => XS.aload X76.here hx rfl (hb hby at_85) rfl rfl ht) ?_
    obtain ⟨cq77, kq77, q77a, q77b, q77c⟩ := isOf hZ e76 Fq75_5
    obtain ⟨_, _, ⟨T77, L77, k77, n77⟩, -, X77, ⟨Lc77, hQ77, l77, y77, z77⟩, st77⟩ := X76.virtualBack hx (y := (⟨"com/example/call_throttle/callthrottle/KeyQueue", "isEmpty", "()Z"⟩ : MethodName)) (z := (⟨"com/example/call_throttle/callthrottle/KeyQueue", "isEmpty", "()Z"⟩ : MethodName)) hown (mvT hZ (hw _ (List.mem_of_getElem? (i := 65) rfl))) (mvT hZ (hw _ (List.mem_of_getElem? (i := 66) rfl))) (notFace_of_selects (args := #[]) (mvT hZ (hw _ (List.mem_of_getElem? (i := 68) rfl)))) (mvT hZ (hw _ (List.mem_of_getElem? (i := 68) rfl))) (mvT hZ (hw _ (List.mem_of_getElem? (i := 67) rfl))) (by decide) (backOf (W := 0) (own_m_ie l Z a0 hw [] (b56) (((((0 : Int64) + (1 : Int64)) + (1 : Int64)) + (1 : Int64))) T75.heap n0 (Nat.le_trans Z0 K75.1) Fq75_4) hZ (hw _ (List.mem_of_getElem? (i := 69) rfl)) (hw _ (List.mem_of_getElem? (i := 38) rfl)) (by decide) (by decide)) q77a q77c (g := (mkF m 87 #[.val (.int p1), .val (.int p2), .val (.int p3), .val (.int p4), .val (.int (3 : Int32)), .val u_53, .val u_54, .val u_55, .val (.ref b56)] [(.ref b56)])) rfl (by rw [hml]; rfl) (Steps.refl _) (argsL := []) (rest := []) (lenOf own_pd8 rfl) rfl (by show 2 * 0 + _ ≤ _; exact Nat.le_of_eq rfl) (hb hby at_87) (fun _ _ => ⟨rfl, e76, (by decide : 12 + 0 ≤ _), (by decide : 1055 + 0 ≤ _)⟩)
    dsimp only [Pt.U, Pt.locs, Pt.cells, Pt.slots] at X77 l77 y77 z77 st77 hQ77
    subst l77 y77 z77
    obtain ⟨rfl, Nq77, Kq77⟩ := hQ77
    have N77 := Fr.app N76 Nq77
    have e77 : T77.heap = T75.heap := Kq77
    refine own_step (U' := (T77.setTop (mkF m 90 #[.val (.int p1), .val (.int p2), .val (.int p3), .val (.int p4), .val (.int (3 : Int32)), .val u_53, .val u_54, .val u_55, .val (.ref b56)] [(.int (own_ie ((((0 : Int64) + (1 : Int64)) + (1 : Int64)) + (1 : Int64))))]))) (fun t ht => st77.trans ht) ?_
    refine own_step (U' := (T77.setTop (mkF m 92 #[.val (.int p1), .val (.int p2), .val (.int p3), .val (.int p4), .val (.int (3 : Int32)), .val u_53, .val u_54, .val u_55, .val (.ref b56)] [(.int (3 : Int32)), (.int (own_ie ((((0 : Int64) + (1 : Int64)) + (1 : Int64)) + (1 : Int64))))]))) (fun t ht => XS.iload X77.here hx rfl (hb hby at_90) rfl ht) ?_
    refine own_step (U' := (T77.setTop (mkF m 99 #[.val (.int p1), .val (.int p2), .val (.int p3), .val (.int p4), .val (.int (3 : Int32)), .val u_53, .val u_54, .val u_55, .val (.ref b56)] [(.int (own_ie ((((0 : Int64) + (1 : Int64)) + (1 : Int64)) + (1 : Int64))))]))) (fun t ht => XS.ifYes X77.here hx rfl (pc0 := 92) (pc' := 99) rfl (hb hby at_92) rfl (XT.i0_ne_t ((by decide) : ¬ ((3 : Int32) = 0))) (by decide) (by decide) ht) ?_
    refine own_step (U' := (T77.setTop (mkF m 100 #[.val (.int p1), .val (.int p2), .val (.int p3), .val (.int p4), .val (.int (3 : Int32)), .val u_53, .val u_54, .val u_55, .val (.ref b56)] [(.int (0 : Int32)), (.int (own_ie ((((0 : Int64) + (1 : Int64)) + (1 : Int64)) + (1 : Int64))))]))) (fun t ht => XS.iconst X77.here hx rfl (hb hby at_99) ht) ?_
    refine own_step (U' := (T77.setTop (mkF m 105 #[.val (.int p1), .val (.int p2), .val (.int p3), .val (.int p4), .val (.int (3 : Int32)), .val u_53, .val u_54, .val u_55, .val (.ref b56)] []))) (fun t ht => XS.icmpYes X77.here hx rfl (pc0 := 100) (pc' := 105) rfl (hb hby at_100) rfl (XT.ii_eq_t ((by decide) : (own_ie ((((0 : Int64) + (1 : Int64)) + (1 : Int64)) + (1 : Int64))) = (0 : Int32))) (by decide) (by decide) ht) ?_
    refine own_step (U' := (T77.setTop (mkF m 107 #[.val (.int p1), .val (.int p2), .val (.int p3), .val (.int p4), .val (.int (3 : Int32)), .val u_53, .val u_54, .val u_55, .val (.ref b56)] [(.int (3 : Int32))]))) (fun t ht => XS.iload X77.here hx rfl (hb hby at_105) rfl ht) ?_
    refine own_step (U' := (T77.setTop (mkF m 108 #[.val (.int p1), .val (.int p2), .val (.int p3), .val (.int p4), .val (.int (3 : Int32)), .val u_53, .val u_54, .val u_55, .val (.ref b56)] [(.int (1 : Int32)), (.int (3 : Int32))]))) (fun t ht => XS.iconst X77.here hx rfl (hb hby at_107) ht) ?_
    refine own_step (U' := (T77.setTop (mkF m 111 #[.val (.int p1), .val (.int p2), .val (.int p3), .val (.int p4), .val (.int (3 : Int32)), .val u_53, .val u_54, .val u_55, .val (.ref b56)] []))) (fun t ht => XS.icmpNo X77.here hx rfl (hb hby at_108) rfl (XT.ii_lt_f ((by decide) : ¬ ((3 : Int32) < (1 : Int32)))) ht) ?_
    refine own_step (U' := (T77.setTop (mkF m 113 #[.val (.int p1), .val (.int p2), .val (.int p3), .val (.int p4), .val (.int (3 : Int32)), .val u_53, .val u_54, .val u_55, .val (.ref b56)] [(.ref b56)]))) (fun t ht => XS.aload X77.here hx rfl (hb hby at_111) rfl rfl ht) ?_
    obtain ⟨cq78, kq78, q78a, q78b, q78c⟩ := isOf hZ e77 Fq75_5
    obtain ⟨_, _, ⟨T78, L78, k78, n78⟩, -, X78, ⟨Lc78, hQ78, l78, y78, z78⟩, st78⟩ := X77.virtualBack hx (y := (⟨"com/example/call_throttle/callthrottle/KeyQueue", "removeFirst", "()Ljava/lang/String;"⟩ : MethodName)) (z := (⟨"com/example/call_throttle/callthrottle/KeyQueue", "removeFirst", "()Ljava/lang/String;"⟩ : MethodName)) hown (mvT hZ (hw _ (List.mem_of_getElem? (i := 78) rfl))) (mvT hZ (hw _ (List.mem_of_getElem? (i := 79) rfl))) (notFace_of_selects (args := #[]) (mvT hZ (hw _ (List.mem_of_getElem? (i := 81) rfl)))) (mvT hZ (hw _ (List.mem_of_getElem? (i := 81) rfl))) (mvT hZ (hw _ (List.mem_of_getElem? (i := 80) rfl))) (by decide) (backOf (W := 0) (own_m_rem l Z a0 hw [] (b56) (c1_57) (r1_57) (kA_57) ((0 : Int32)) (((((0 : Int32) + (1 : Int32)) + (1 : Int32)) + (1 : Int32))) (((((0 : Int64) + (1 : Int64)) + (1 : Int64)) + (1 : Int64))) (((([.null, .null, .null, .null].set 0 u_53).set 1 u_54).set 2 u_55)) (u_53) (0) T75.heap n0 (Nat.le_trans Z0 K75.1) g_b56 g_r1_57 p57_0 p57_1 Fq75_0 Fq75_1 Fq75_2 Fq75_3 Fq75_4 Fq75_5 Fq75_6 Fq75_7 Fq75_8 (by decide) (by decide) (by decide) (by decide) rfl (Nat.le_of_ble_eq_true rfl) rfl Fq53_0.isRef) hZ (hw _ (List.mem_of_getElem? (i := 82) rfl)) (hw _ (List.mem_of_getElem? (i := 38) rfl)) (by decide) (by decide)) q78a q78c (g := (mkF m 113 #[.val (.int p1), .val (.int p2), .val (.int p3), .val (.int p4), .val (.int (3 : Int32)), .val u_53, .val u_54, .val u_55, .val (.ref b56)] [(.ref b56)])) rfl (by rw [hml]; rfl) (Steps.refl _) (argsL := []) (rest := []) (lenOf own_pd10 rfl) rfl (by show 2 * 0 + _ ≤ _; exact Nat.le_of_eq rfl) (hb hby at_113) (fun _ _ => ⟨rfl, e77, (by decide : 12 + 0 ≤ _), (by decide : 1055 + 0 ≤ _)⟩)
    dsimp only [Pt.U, Pt.locs, Pt.cells, Pt.slots] at X78 l78 y78 z78 st78 hQ78
    subst l78 y78 z78
    obtain ⟨rfl, Nq78, Kq78, Fq78_0, Fq78_1, Fq78_2, Fq78_3, Fq78_4, Fq78_5, Fq78_6, Fq78_7, Fq78_8⟩ := hQ78
    have N78 := Fr.app N77 Nq78
    have f78_0 : Sta Z T78.heap "java/lang/String" "COMPACT_STRINGS" "Z" (.int cz) := own_sta_keep f75_0 Kq78 (own_plF Fq75_0 (own_plV Fq75_8 own_pl0))
    have f78_1 : own_Key Z T78.heap u_53 := f75_1.keep Kq78
    have f78_2 : own_Key Z T78.heap u_54 := f75_2.keep Kq78
    have f78_3 : own_Key Z T78.heap u_55 := f75_3.keep Kq78
    have f78_9 : Exa Z T78.heap b56 "com/example/call_throttle/callthrottle/KeyQueue" := Fq75_5.keep Kq78
    have f78_10 : Fld Z T78.heap c1_57 "com/example/call_throttle/callthrottle/KeyQueue$Chunk" "keys" "[Ljava/lang/String;" (.ref r1_57) := Fq75_6.keep Kq78 (ninS (Ne.symm ne_b56_c1_57) (ninS p57_1 nin0))
    have f78_11 : Exa Z T78.heap c1_57 "com/example/call_throttle/callthrottle/KeyQueue$Chunk" := Fq75_7.keep Kq78
    have K78 : Keep h0 T78.heap [] := K75.trans Kq78 (allS (Or.inr sz_b56) (allS (Or.inr sz_r1_57) all0))
    refine own_step (U' := (T78.setTop (mkF m 116 #[.val (.int p1), .val (.int p2), .val (.int p3), .val (.int p4), .val (.int (3 : Int32)), .val u_53, .val u_54, .val u_55, .val (.ref b56)] [u_53]))) (fun t ht => st78.trans ht) ?_
    refine own_step (U' := (T78.setTop (mkF m 118 #[.val (.int p1), .val (.int p2), .val (.int p3), .val (.int p4), .val (.int (3 : Int32)), .val u_53, .val u_54, .val u_55, .val (.ref b56)] [u_53, u_53]))) (fun t ht => XS.aload X78.here hx rfl (hb hby at_116) rfl Fq53_0.isRef ht) ?_
    refine own_step (U' := (T78.setTop (mkF m 123 #[.val (.int p1), .val (.int p2), .val (.int p3), .val (.int p4), .val (.int (3 : Int32)), .val u_53, .val u_54, .val u_55, .val (.ref b56)] []))) (fun t ht => Jvm.RoadKit.acmp (g := (mkF m 118 #[.val (.int p1), .val (.int p2), .val (.int p3), .val (.int p4), .val (.int (3 : Int32)), .val u_53, .val u_54, .val u_55, .val (.ref b56)] [u_53, u_53])) X78 hx rfl Fq53_0.isRef Fq53_0.isRef (pc0 := 118) (pc' := 123) (same := true) rfl (hb hby at_118) rfl (decide_eq_true (rfl : u_53 = u_53)) (by decide) (by decide) ht) ?_
    refine own_step (U' := (T78.setTop (mkF m 125 #[.val (.int p1), .val (.int p2), .val (.int p3), .val (.int p4), .val (.int (3 : Int32)), .val u_53, .val u_54, .val u_55, .val (.ref b56)] [(.int (3 : Int32))]))) (fun t ht => XS.iload X78.here hx rfl (hb hby at_123) rfl ht) ?_
    refine own_step (U' := (T78.setTop (mkF m 126 #[.val (.int p1), .val (.int p2), .val (.int p3), .val (.int p4), .val (.int (3 : Int32)), .val u_53, .val u_54, .val u_55, .val (.ref b56)] [(.int (2 : Int32)), (.int (3 : Int32))]))) (fun t ht => XS.iconst X78.here hx rfl (hb hby at_125) ht) ?_
    refine own_step (U' := (T78.setTop (mkF m 129 #[.val (.int p1), .val (.int p2), .val (.int p3), .val (.int p4), .val (.int (3 : Int32)), .val u_53, .val u_54, .val u_55, .val (.ref b56)] []))) (fun t ht => XS.icmpNo X78.here hx rfl (hb hby at_126) rfl (XT.ii_lt_f ((by decide) : ¬ ((3 : Int32) < (2 : Int32)))) ht) ?_
    refine own_step (U' := (T78.setTop (mkF m 131 #[.val (.int p1), .val (.int p2), .val (.int p3), .val (.int p4), .val (.int (3 : Int32)), .val u_53, .val u_54, .val u_55, .val (.ref b56)] [(.ref b56)]))) (fun t ht => XS.aload X78.here hx rfl (hb hby at_129) rfl rfl ht) ?_
    obtain ⟨cq79, kq79, q79a, q79b, q79c⟩ := isOf hZ rfl Fq78_5
    obtain ⟨_, _, ⟨T79, L79, k79, n79⟩, -, X79, ⟨Lc79, hQ79, l79, y79, z79⟩, st79⟩ := X78.virtualBack hx (y := (⟨"com/example/call_throttle/callthrottle/KeyQueue", "removeFirst", "()Ljava/lang/String;"⟩ : MethodName)) (z := (⟨"com/example/call_throttle/callthrottle/KeyQueue", "removeFirst", "()Ljava/lang/String;"⟩ : MethodName)) hown (mvT hZ (hw _ (List.mem_of_getElem? (i := 78) rfl))) (mvT hZ (hw _ (List.mem_of_getElem? (i := 79) rfl))) (notFace_of_selects (args := #[]) (mvT hZ (hw _ (List.mem_of_getElem? (i := 81) rfl)))) (mvT hZ (hw _ (List.mem_of_getElem? (i := 81) rfl))) (mvT hZ (hw _ (List.mem_of_getElem? (i := 80) rfl))) (by decide) (backOf (W := 0) (own_m_rem l Z a0 hw [] (b56) (c1_57) (r1_57) (kA_57) (((0 : Int32) + (1 : Int32))) (((((0 : Int32) + (1 : Int32)) + (1 : Int32)) + (1 : Int32))) ((((((0 : Int64) + (1 : Int64)) + (1 : Int64)) + (1 : Int64)) - (1 : Int64))) ((((([.null, .null, .null, .null].set 0 u_53).set 1 u_54).set 2 u_55).set 0 .null)) (u_54) (1) T78.heap n0 (Nat.le_trans Z0 K78.1) g_b56 g_r1_57 p57_0 p57_1 Fq78_0 Fq78_1 Fq78_2 Fq78_3 Fq78_4 Fq78_5 Fq78_6 Fq78_7 Fq78_8 (by decide) (by decide) (by decide) (by decide) rfl (Nat.le_of_ble_eq_true rfl) rfl Fq54_0.isRef) hZ (hw _ (List.mem_of_getElem? (i := 82) rfl)) (hw _ (List.mem_of_getElem? (i := 38) rfl)) (by decide) (by decide)) q79a q79c (g := (mkF m 131 #[.val (.int p1), .val (.int p2), .val (.int p3), .val (.int p4), .val (.int (3 : Int32)), .val u_53, .val u_54, .val u_55, .val (.ref b56)] [(.ref b56)])) rfl (by rw [hml]; rfl) (Steps.refl _) (argsL := []) (rest := []) (lenOf own_pd10 rfl) rfl (by show 2 * 0 + _ ≤ _; exact Nat.le_of_eq rfl) (hb hby at_131) (fun _ _ => ⟨rfl, rfl, (by decide : 12 + 0 ≤ _), (by decide : 1055 + 0 ≤ _)⟩)
    dsimp only [Pt.U, Pt.locs, Pt.cells, Pt.slots] at X79 l79 y79 z79 st79 hQ79
    subst l79 y79 z79
    obtain ⟨rfl, Nq79, Kq79, Fq79_0, Fq79_1, Fq79_2, Fq79_3, Fq79_4, Fq79_5, Fq79_6, Fq79_7, Fq79_8⟩ := hQ79
    have N79 := Fr.app N78 Nq79
    have f79_0 : Sta Z T79.heap "java/lang/String" "COMPACT_STRINGS" "Z" (.int cz) := own_sta_keep f78_0 Kq79 (own_plF Fq78_0 (own_plV Fq78_8 own_pl0))
    have f79_1 : own_Key Z T79.heap u_53 := f78_1.keep Kq79
    have f79_2 : own_Key Z T79.heap u_54 := f78_2.keep Kq79
    have f79_3 : own_Key Z T79.heap u_55 := f78_3.keep Kq79
    have f79_9 : Exa Z T79.heap b56 "com/example/call_throttle/callthrottle/KeyQueue" := Fq78_5.keep Kq79
    have f79_10 : Fld Z T79.heap c1_57 "com/example/call_throttle/callthrottle/KeyQueue$Chunk" "keys" "[Ljava/lang/String;" (.ref r1_57) := Fq78_6.keep Kq79 (ninS (Ne.symm ne_b56_c1_57) (ninS p57_1 nin0))
    have f79_11 : Exa Z T79.heap c1_57 "com/example/call_throttle/callthrottle/KeyQueue$Chunk" := Fq78_7.keep Kq79
    have K79 : Keep h0 T79.heap [] := K78.trans Kq79 (allS (Or.inr sz_b56) (allS (Or.inr sz_r1_57) all0))
    refine own_step (U' := (T79.setTop (mkF m 134 #[.val (.int p1), .val (.int p2), .val (.int p3), .val (.int p4), .val (.int (3 : Int32)), .val u_53, .val u_54, .val u_55, .val (.ref b56)] [u_54]))) (fun t ht => st79.trans ht) ?_
    refine own_step (U' := (T79.setTop (mkF m 136 #[.val (.int p1), .val (.int p2), .val (.int p3), .val (.int p4), .val (.int (3 : Int32)), .val u_53, .val u_54, .val u_55, .val (.ref b56)] [u_54, u_54]))) (fun t ht => XS.aload X79.here hx rfl (hb hby at_134) rfl Fq54_0.isRef ht) ?_
    refine own_step (U' := (T79.setTop (mkF m 141 #[.val (.int p1), .val (.int p2), .val (.int p3), .val (.int p4), .val (.int (3 : Int32)), .val u_53, .val u_54, .val u_55, .val (.ref b56)] []))) (fun t ht => Jvm.RoadKit.acmp (g := (mkF m 136 #[.val (.int p1), .val (.int p2), .val (.int p3), .val (.int p4), .val (.int (3 : Int32)), .val u_53, .val u_54, .val u_55, .val (.ref b56)] [u_54, u_54])) X79 hx rfl Fq54_0.isRef Fq54_0.isRef (pc0 := 136) (pc' := 141) (same := true) rfl (hb hby at_136) rfl (decide_eq_true (rfl : u_54 = u_54)) (by decide) (by decide) ht) ?_
    refine own_step (U' := (T79.setTop (mkF m 143 #[.val (.int p1), .val (.int p2), .val (.int p3), .val (.int p4), .val (.int (3 : Int32)), .val u_53, .val u_54, .val u_55, .val (.ref b56)] [(.int (3 : Int32))]))) (fun t ht => XS.iload X79.here hx rfl (hb hby at_141) rfl ht) ?_
    refine own_step (U' := (T79.setTop (mkF m 144 #[.val (.int p1), .val (.int p2), .val (.int p3), .val (.int p4), .val (.int (3 : Int32)), .val u_53, .val u_54, .val u_55, .val (.ref b56)] [(.int (3 : Int32)), (.int (3 : Int32))]))) (fun t ht => XS.iconst X79.here hx rfl (hb hby at_143) ht) ?_
    refine own_step (U' := (T79.setTop (mkF m 147 #[.val (.int p1), .val (.int p2), .val (.int p3), .val (.int p4), .val (.int (3 : Int32)), .val u_53, .val u_54, .val u_55, .val (.ref b56)] []))) (fun t ht => XS.icmpNo X79.here hx rfl (hb hby at_144) rfl (XT.ii_lt_f ((by decide) : ¬ ((3 : Int32) < (3 : Int32)))) ht) ?_
    refine own_step (U' := (T79.setTop (mkF m 149 #[.val (.int p1), .val (.int p2), .val (.int p3), .val (.int p4), .val (.int (3 : Int32)), .val u_53, .val u_54, .val u_55, .val (.ref b56)] [(.ref b56)]))) (fun t ht => XS.aload X79.here hx rfl (hb hby at_147) rfl rfl ht) ?_
    obtain ⟨cq80, kq80, q80a, q80b, q80c⟩ := isOf hZ rfl Fq79_5
    obtain ⟨_, _, ⟨T80, L80, k80, n80⟩, -, X80, ⟨Lc80, hQ80, l80, y80, z80⟩, st80⟩ := X79.virtualBack hx (y := (⟨"com/example/call_throttle/callthrottle/KeyQueue", "removeFirst", "()Ljava/lang/String;"⟩ : MethodName)) (z := (⟨"com/example/call_throttle/callthrottle/KeyQueue", "removeFirst", "()Ljava/lang/String;"⟩ : MethodName)) hown (mvT hZ (hw _ (List.mem_of_getElem? (i := 78) rfl))) (mvT hZ (hw _ (List.mem_of_getElem? (i := 79) rfl))) (notFace_of_selects (args := #[]) (mvT hZ (hw _ (List.mem_of_getElem? (i := 81) rfl)))) (mvT hZ (hw _ (List.mem_of_getElem? (i := 81) rfl))) (mvT hZ (hw _ (List.mem_of_getElem? (i := 80) rfl))) (by decide) (backOf (W := 0) (own_m_rem l Z a0 hw [] (b56) (c1_57) (r1_57) (kA_57) ((((0 : Int32) + (1 : Int32)) + (1 : Int32))) (((((0 : Int32) + (1 : Int32)) + (1 : Int32)) + (1 : Int32))) (((((((0 : Int64) + (1 : Int64)) + (1 : Int64)) + (1 : Int64)) - (1 : Int64)) - (1 : Int64))) (((((([.null, .null, .null, .null].set 0 u_53).set 1 u_54).set 2 u_55).set 0 .null).set 1 .null)) (u_55) (2) T79.heap n0 (Nat.le_trans Z0 K79.1) g_b56 g_r1_57 p57_0 p57_1 Fq79_0 Fq79_1 Fq79_2 Fq79_3 Fq79_4 Fq79_5 Fq79_6 Fq79_7 Fq79_8 (by decide) (by decide) (by decide) (by decide) rfl (Nat.le_of_ble_eq_true rfl) rfl Fq55_0.isRef) hZ (hw _ (List.mem_of_getElem? (i := 82) rfl)) (hw _ (List.mem_of_getElem? (i := 38) rfl)) (by decide) (by decide)) q80a q80c (g := (mkF m 149 #[.val (.int p1), .val (.int p2), .val (.int p3), .val (.int p4), .val (.int (3 : Int32)), .val u_53, .val u_54, .val u_55, .val (.ref b56)] [(.ref b56)])) rfl (by rw [hml]; rfl) (Steps.refl _) (argsL := []) (rest := []) (lenOf own_pd10 rfl) rfl (by show 2 * 0 + _ ≤ _; exact Nat.le_of_eq rfl) (hb hby at_149) (fun _ _ => ⟨rfl, rfl, (by decide : 12 + 0 ≤ _), (by decide : 1055 + 0 ≤ _)⟩)
    dsimp only [Pt.U, Pt.locs, Pt.cells, Pt.slots] at X80 l80 y80 z80 st80 hQ80
    subst l80 y80 z80
    obtain ⟨rfl, Nq80, Kq80, Fq80_0, Fq80_1, Fq80_2, Fq80_3, Fq80_4, Fq80_5, Fq80_6, Fq80_7, Fq80_8⟩ := hQ80
    have N80 := Fr.app N79 Nq80
    have f80_0 : Sta Z T80.heap "java/lang/String" "COMPACT_STRINGS" "Z" (.int cz) := own_sta_keep f79_0 Kq80 (own_plF Fq79_0 (own_plV Fq79_8 own_pl0))
    have f80_1 : own_Key Z T80.heap u_53 := f79_1.keep Kq80
    have f80_2 : own_Key Z T80.heap u_54 := f79_2.keep Kq80
    have f80_3 : own_Key Z T80.heap u_55 := f79_3.keep Kq80
    have f80_9 : Exa Z T80.heap b56 "com/example/call_throttle/callthrottle/KeyQueue" := Fq79_5.keep Kq80
    have f80_10 : Fld Z T80.heap c1_57 "com/example/call_throttle/callthrottle/KeyQueue$Chunk" "keys" "[Ljava/lang/String;" (.ref r1_57) := Fq79_6.keep Kq80 (ninS (Ne.symm ne_b56_c1_57) (ninS p57_1 nin0))
    have f80_11 : Exa Z T80.heap c1_57 "com/example/call_throttle/callthrottle/KeyQueue$Chunk" := Fq79_7.keep Kq80
    have K80 : Keep h0 T80.heap [] := K79.trans Kq80 (allS (Or.inr sz_b56) (allS (Or.inr sz_r1_57) all0))
    refine own_step (U' := (T80.setTop (mkF m 152 #[.val (.int p1), .val (.int p2), .val (.int p3), .val (.int p4), .val (.int (3 : Int32)), .val u_53, .val u_54, .val u_55, .val (.ref b56)] [u_55]))) (fun t ht => st80.trans ht) ?_
    refine own_step (U' := (T80.setTop (mkF m 154 #[.val (.int p1), .val (.int p2), .val (.int p3), .val (.int p4), .val (.int (3 : Int32)), .val u_53, .val u_54, .val u_55, .val (.ref b56)] [u_55, u_55]))) (fun t ht => XS.aload X80.here hx rfl (hb hby at_152) rfl Fq55_0.isRef ht) ?_
    refine own_step (U' := (T80.setTop (mkF m 159 #[.val (.int p1), .val (.int p2), .val (.int p3), .val (.int p4), .val (.int (3 : Int32)), .val u_53, .val u_54, .val u_55, .val (.ref b56)] []))) (fun t ht => Jvm.RoadKit.acmp (g := (mkF m 154 #[.val (.int p1), .val (.int p2), .val (.int p3), .val (.int p4), .val (.int (3 : Int32)), .val u_53, .val u_54, .val u_55, .val (.ref b56)] [u_55, u_55])) X80 hx rfl Fq55_0.isRef Fq55_0.isRef (pc0 := 154) (pc' := 159) (same := true) rfl (hb hby at_154) rfl (decide_eq_true (rfl : u_55 = u_55)) (by decide) (by decide) ht) ?_
    refine own_step (U' := (T80.setTop (mkF m 161 #[.val (.int p1), .val (.int p2), .val (.int p3), .val (.int p4), .val (.int (3 : Int32)), .val u_53, .val u_54, .val u_55, .val (.ref b56)] [(.ref b56)]))) (fun t ht => XS.aload X80.here hx rfl (hb hby at_159) rfl rfl ht) ?_
    obtain ⟨cq81, kq81, q81a, q81b, q81c⟩ := isOf hZ rfl Fq80_5
    obtain ⟨_, _, ⟨T81, L81, k81, n81⟩, -, X81, ⟨Lc81, hQ81, l81, y81, z81⟩, st81⟩ := X80.virtualBack hx (y := (⟨"com/example/call_throttle/callthrottle/KeyQueue", "isEmpty", "()Z"⟩ : MethodName)) (z := (⟨"com/example/call_throttle/callthrottle/KeyQueue", "isEmpty", "()Z"⟩ : MethodName)) hown (mvT hZ (hw _ (List.mem_of_getElem? (i := 65) rfl))) (mvT hZ (hw _ (List.mem_of_getElem? (i := 66) rfl))) (notFace_of_selects (args := #[]) (mvT hZ (hw _ (List.mem_of_getElem? (i := 68) rfl)))) (mvT hZ (hw _ (List.mem_of_getElem? (i := 68) rfl))) (mvT hZ (hw _ (List.mem_of_getElem? (i := 67) rfl))) (by decide) (backOf (W := 0) (own_m_ie l Z a0 hw [] (b56) ((((((((0 : Int64) + (1 : Int64)) + (1 : Int64)) + (1 : Int64)) - (1 : Int64)) - (1 : Int64)) - (1 : Int64))) T80.heap n0 (Nat.le_trans Z0 K80.1) Fq80_4) hZ (hw _ (List.mem_of_getElem? (i := 69) rfl)) (hw _ (List.mem_of_getElem? (i := 38) rfl)) (by decide) (by decide)) q81a q81c (g := (mkF m 161 #[.val (.int p1), .val (.int p2), .val (.int p3), .val (.int p4), .val (.int (3 : Int32)), .val u_53, .val u_54, .val u_55, .val (.ref b56)] [(.ref b56)])) rfl (by rw [hml]; rfl) (Steps.refl _) (argsL := []) (rest := []) (lenOf own_pd8 rfl) rfl (by show 2 * 0 + _ ≤ _; exact Nat.le_of_eq rfl) (hb hby at_161) (fun _ _ => ⟨rfl, rfl, (by decide : 12 + 0 ≤ _), (by decide : 1055 + 0 ≤ _)⟩)
    dsimp only [Pt.U, Pt.locs, Pt.cells, Pt.slots] at X81 l81 y81 z81 st81 hQ81
    subst l81 y81 z81
    obtain ⟨rfl, Nq81, Kq81⟩ := hQ81
    have N81 := Fr.app N80 Nq81
    have e81 : T81.heap = T80.heap := Kq81
    refine own_step (U' := (T81.setTop (mkF m 164 #[.val (.int p1), .val (.int p2), .val (.int p3), .val (.int p4), .val (.int (3 : Int32)), .val u_53, .val u_54, .val u_55, .val (.ref b56)] [(.int (own_ie (((((((0 : Int64) + (1 : Int64)) + (1 : Int64)) + (1 : Int64)) - (1 : Int64)) - (1 : Int64)) - (1 : Int64))))]))) (fun t ht => st81.trans ht) ?_
    refine own_ret X81 (v := (some (.int (nar .boolean (own_ie (((((((0 : Int64) + (1 : Int64)) + (1 : Int64)) + (1 : Int64)) - (1 : Int64)) - (1 : Int64)) - (1 : Int64))))))) (fun h => by rw [Bd.returns] at h; cases h) Bd.notSynchronized (by decide) (by decide) ?_ (fun fs hr => retN X81 hx (t := .boolean) Bd.returns (by simp) (hb hby at_164) hr)
    show own_Q_law Z p1 p2 p3 p4 cz h0 n0 _ T81.heap _
    rw [e81]
    exact ⟨(congrArg (fun z => some (Value.int z)) (by decide)), N81⟩
set_option maxRecDepth 65536 in
set_option maxHeartbeats 40000000 in
theorem own_comes {Post : Tables → Env → Array Value → State → Outcome → State → Prop} (hpost : ∀ tb e args s v u, (limb_1_1.after args s (.returned v) u = true ∧ limb_1_2.after args s (.returned v) u = true ∧ True) → FrameEnd s (.returned v) u (Jvm.fieldLocs frame_1_writes args s ++ Jvm.arrayLocs frame_1_arrays args s ++ Jvm.staticLocs frame_1_statics s) 32 2176 → Post tb e args s (.returned v) u) :
    ArmFor flags0 classFile x code maxLocals ret World_1 tables_1 room_1 Calls_1 rest_1 Pre_1 Post := by
  intro l hfl _ _ p e ha hc hk s m args below hf hA hF happ hP
  obtain ⟨hcalls, hrest, hpre⟩ := hP
  obtain ⟨-, -, -, hnamed, -, -, -, hat⟩ := (Spec.applies_iff hf).mp happ
  obtain ⟨hg, hn⟩ := and_e (Cond.before_iff.mp (show (Jvm.Cond.and given_1 narrow_1).before args s = true from hpre))
  obtain ⟨hcount, q0⟩ := and_e hg
  obtain ⟨a0, q1⟩ := and_e q0
  obtain ⟨a1, q2⟩ := and_e q1
  obtain ⟨a2, q3⟩ := and_e q2
  have a3 := q3
  obtain ⟨w0, w1, w2, w3, rfl⟩ : ∃ w0 w1 w2 w3 : Value, args = #[w0, w1, w2, w3] := by
    have hs : args.size = 4 := by simpa [Cond.value, given_1] using hcount
    obtain ⟨L⟩ := args
    match L, hs with
    | [w0, w1, w2, w3], _ => exact ⟨w0, w1, w2, w3, rfl⟩
  obtain ⟨i0, e0⟩ := is_v a0
  obtain rfl : w0 = (.int i0) := Option.some.inj e0
  obtain ⟨i1, e1⟩ := is_v a1
  obtain rfl : w1 = (.int i1) := Option.some.inj e1
  obtain ⟨i2, e2⟩ := is_v a2
  obtain rfl : w2 = (.int i2) := Option.some.inj e2
  obtain ⟨i3, e3⟩ := is_v a3
  obtain rfl : w3 = (.int i3) := Option.some.inj e3
  have hw := fun d (hd : d ∈ tables_1) => atoms_spec (ws := Jvm.Cond.code x code maxLocals ret :: tables_1) hat d (List.mem_cons_of_mem _ hd)
  have hfit : Fit s := fun {y c} hc i hi => by
    obtain ⟨ha, rfl⟩ := Array.getElem?_eq_some_iff.mp hc
    have q := List.all_eq_true.mp ((Array.all_eq_true_iff_forall_mem.mp hF) _ (Array.getElem_mem ha)) i (List.mem_range.mpr hi)
    simpa [Array.getElem?_eq_getElem hi] using q
  obtain ⟨hsets, hown0⟩ := atoms_of _ (rest_1_c_eq ▸ (show rest_1_c.before _ s = true from hrest))
  have n3 := not_v (Cond.before_iff.mp (hsets _ (List.mem_of_getElem? (i := 2) rfl)))
  obtain ⟨cz, ecz⟩ := is_v (Cond.before_iff.mp (hsets _ (List.mem_of_getElem? (i := 1) rfl)))
  have Scz : Sta s s.heap "java/lang/String" "COMPACT_STRINGS" "Z" (.int cz) := Sta.start ecz (Or.inl (hsets _ (List.mem_of_getElem? (i := 0) rfl)))
  have hcz : ¬ cz = 0 := fun q => by rw [eq_i ecz (Term.int_eval 0) (by rw [q])] at n3; cases n3
  obtain ⟨n, o, h1, h2, h3, _, L, rfl, ⟨rfl, N⟩, hq⟩ := own_m_law l s _ hw tables_1 i0 i1 i2 i3 cz s.heap s.heap.size (Nat.le_refl _) Scz hcz p e ha hc hk s m _ below hf ((Spec.applies_iff_loose hf).mp happ).1 ⟨rfl, State.Warmed39.refl s, rfl⟩ trivial
  refine ⟨n, _, h1, h2, h3, hpost _ _ _ _ _ _ ⟨Cond.after_iff.mpr rfl, Cond.after_iff.mpr (eq_i res_at (Term.int_eval (1)) rfl), trivial⟩ ⟨hq.1, hq.2.1, (hq.2.2.sift fun y hy => Or.inr (N y hy)).mono (by decide) (by decide)⟩⟩
theorem main_1_1 : Claimed_1_1 := own_comes fun _ _ _ _ _ _ h hF => ⟨h.1, hF⟩
theorem main_1_2 : Claimed_1_2 := own_comes fun _ _ _ _ _ _ h hF => ⟨h.2.1, hF⟩
end Jvm.Pilot.@@N@@
namespace Jvm.Pilot.@@N@@
open Jvm Jvm.ClassFile Sem Op Lib Jvm.Free Jvm.Stand Jvm.Pilot.@@N@@.Jvm.D
/-! MADE BY PROGRAM (witnessworld.py) out of the Statement's table words and the real class files: 22 classes; the members and pool entries that the words name. The judged class is class 1, her method 1. -/
namespace start1
open Jvm.ClassFile
def u (s : String) : CpInfo := .utf8 (stringToUtf16 s)
/-- a pool by its gaps: so many unusable entries, then the entry; so many at the end -/
def gap : Nat → List CpInfo → List CpInfo
  | 0, r => r
  | n + 1, r => .unusable :: gap n r
def poolList (es : List (Nat × CpInfo)) (last : Nat) : List CpInfo := es.foldr (fun e r => gap e.1 (e.2 :: r)) (gap last [])
def pool (es : List (Nat × CpInfo)) (last : Nat) : Array CpInfo := ⟨poolList es last⟩
def fileOf (pool : Array CpInfo) (this : Nat) (attrs : Array Attribute := #[]) (ms : Array MethodInfo := #[]) (fl : Nat := 33) (sup : Nat := 0) (ifs : Array Nat := #[]) (fds : Array FieldInfo := #[]) : ClassFile where
  minorVersion := 0
  majorVersion := 65
  constantPool := pool
  accessFlags := fl
  thisClass := this
  superClass := sup
  interfaces := ifs
  fields := fds
  methods := ms
  attributes := attrs
def plain (name : String) (sup : Option ClassId) : Class where
  name := name
  kind := .ordinary
  loader := none
  accessFlags := 33
  super := sup
  interfaces := #[]
  cf := none
  fields := #[]
  methods := #[]
  instanceTypes := #[]
  staticTypes := #[]
  resolved := #[]
  callSites := []
  init := .initialized
  statics := none
  mirror := none

def pool0 : Array CpInfo := pool [(5, u "<init>"), (0, u "()V"), (1, .class_ 10), (1, u "java/lang/Object")] 113

def k0c0 : Code := { maxStack := 0, maxLocals := 1, code := object_method_1_code, exceptionTable := #[], attributes := #[] }
def k0m0 : Method := { name := "<init>", desc := "()V", sig := { parameters := [], returnType := none }, accessFlags := 1, code := some k0c0 }
/-- java/lang/Object -/
def k0 : Class := { plain "java/lang/Object" none with
  accessFlags := 33
  interfaces := #[]
  cf := some (fileOf pool0 8 #[] #[{ accessFlags := 1, nameIndex := 5, descriptorIndex := 6, attributes := #[] }] 33 0 #[] #[])
  fields := #[]
  methods := #[k0m0]
  instanceTypes := #[]
  staticTypes := #[]
  resolved := Array.replicate 124 none
  statics := none }

def pool1 : Array CpInfo := pool [(2, .class_ 4), (0, .nameAndType 5 6), (0, u "java/lang/Object"), (0, u "<init>"), (0, u "()V"), (0, .methodref 8 9), (0, .class_ 10), (0, .nameAndType 11 12), (0, u "com/example/call_throttle/callthrottle/KeyQueueAddLastPinLaw"), (0, u "key"), (0, u "(I)Ljava/lang/String;"), (0, .class_ 14), (0, u "com/example/call_throttle/callthrottle/KeyQueue"), (0, .methodref 13 3), (0, .methodref 13 17), (0, .nameAndType 18 19), (0, u "addLast"), (0, u "(Ljava/lang/String;)V"), (0, .methodref 13 21), (0, .nameAndType 22 23), (0, u "size"), (0, u "()J"), (0, .methodref 13 25), (0, .nameAndType 26 27), (0, u "isEmpty"), (0, u "()Z"), (0, .methodref 13 29), (0, .nameAndType 30 31), (0, u "removeFirst"), (0, u "()Ljava/lang/String;"), (0, .integer 65536), (0, .integer 131072), (0, .methodref 35 36), (0, .class_ 37), (0, .nameAndType 38 39), (0, u "java/lang/String"), (0, u "valueOf"), (0, u "(C)Ljava/lang/String;"), (0, .methodref 35 41), (0, .nameAndType 5 42), (0, u "([C)V"), (2, u "law"), (0, u "(IIII)Z")] 3

def k1m0 : Method := { name := "<init>", desc := "()V", sig := { parameters := [], returnType := none }, accessFlags := 1, code := none }
def k1c1 : Code := { maxStack := 4, maxLocals := 9, code := code, exceptionTable := #[], attributes := #[] }
def k1m1 : Method := { name := "law", desc := "(IIII)Z", sig := { parameters := [.int, .int, .int, .int], returnType := some .boolean }, accessFlags := 9, code := some k1c1 }
def k1c2 : Code := { maxStack := 4, maxLocals := 2, code := method_3_code, exceptionTable := #[], attributes := #[] }
def k1m2 : Method := { name := "key", desc := "(I)Ljava/lang/String;", sig := { parameters := [.int], returnType := some (.object "java/lang/String") }, accessFlags := 10, code := some k1c2 }
/-- com/example/call_throttle/callthrottle/KeyQueueAddLastPinLaw -/
def k1 : Class := { plain "com/example/call_throttle/callthrottle/KeyQueueAddLastPinLaw" (some 0) with
  accessFlags := 49
  interfaces := #[]
  cf := some (fileOf pool1 8 #[] #[{ accessFlags := 1, nameIndex := 5, descriptorIndex := 6, attributes := #[] }, { accessFlags := 9, nameIndex := 45, descriptorIndex := 46, attributes := #[] }, { accessFlags := 10, nameIndex := 11, descriptorIndex := 12, attributes := #[] }] 49 2 #[] #[])
  fields := #[]
  methods := #[k1m0, k1m1, k1m2]
  instanceTypes := #[]
  staticTypes := #[]
  resolved := Array.replicate 50 none
  statics := none }

def pool2 : Array CpInfo := pool [(1, .class_ 2), (0, u "java/io/Serializable"), (0, .class_ 4), (0, u "java/lang/Object")] 2

/-- java/io/Serializable -/
def k2 : Class := { plain "java/io/Serializable" (some 0) with
  accessFlags := 1537
  interfaces := #[]
  cf := some (fileOf pool2 1 #[] #[] 1537 3 #[] #[])
  fields := #[]
  methods := #[]
  instanceTypes := #[]
  staticTypes := #[]
  resolved := Array.replicate 7 none
  statics := none }

def pool3 : Array CpInfo := pool [(1, .class_ 2), (0, u "java/lang/Comparable"), (0, .class_ 4), (0, u "java/lang/Object")] 7

/-- java/lang/Comparable -/
def k3 : Class := { plain "java/lang/Comparable" (some 0) with
  accessFlags := 1537
  interfaces := #[]
  cf := some (fileOf pool3 1 #[] #[] 1537 3 #[] #[])
  fields := #[]
  methods := #[]
  instanceTypes := #[]
  staticTypes := #[]
  resolved := Array.replicate 12 none
  statics := none }

def pool4 : Array CpInfo := pool [(2, .class_ 4), (1, u "java/lang/CharSequence"), (42, .class_ 48), (0, u "java/lang/CharSequence$1CodePointIterator"), (10, .class_ 60), (0, u "java/lang/CharSequence$1CharIterator"), (5, .class_ 67), (0, u "java/lang/Object")] 63

/-- java/lang/CharSequence -/
def k4 : Class := { plain "java/lang/CharSequence" (some 0) with
  accessFlags := 1537
  interfaces := #[]
  cf := some (fileOf pool4 2 #[.nestMembers #[47, 59]] #[] 1537 66 #[] #[])
  fields := #[]
  methods := #[]
  instanceTypes := #[]
  staticTypes := #[]
  resolved := Array.replicate 131 none
  statics := none }

def pool5 : Array CpInfo := pool [(1, .class_ 2), (0, u "java/lang/constant/Constable"), (0, .class_ 4), (0, u "java/lang/Object")] 6

/-- java/lang/constant/Constable -/
def k5 : Class := { plain "java/lang/constant/Constable" (some 0) with
  accessFlags := 1537
  interfaces := #[]
  cf := some (fileOf pool5 1 #[] #[] 1537 3 #[] #[])
  fields := #[]
  methods := #[]
  instanceTypes := #[]
  staticTypes := #[]
  resolved := Array.replicate 11 none
  statics := none }

def pool6 : Array CpInfo := pool [(1, .class_ 2), (0, u "java/lang/constant/ConstantDesc"), (0, .class_ 4), (0, u "java/lang/Object")] 32

/-- java/lang/constant/ConstantDesc -/
def k6 : Class := { plain "java/lang/constant/ConstantDesc" (some 0) with
  accessFlags := 1537
  interfaces := #[]
  cf := some (fileOf pool6 1 #[] #[] 1537 3 #[] #[])
  fields := #[]
  methods := #[]
  instanceTypes := #[]
  staticTypes := #[]
  resolved := Array.replicate 37 none
  statics := none }

def pool7 : Array CpInfo := pool [(1, .methodref 2 3), (0, .class_ 4), (0, .nameAndType 5 6), (0, u "java/lang/Object"), (0, u "<init>"), (0, u "()V"), (2, .fieldref 10 11), (0, .class_ 12), (0, .nameAndType 13 14), (0, u "java/lang/String"), (0, u "value"), (0, u "[B"), (0, .fieldref 10 16), (0, .nameAndType 17 18), (0, u "coder"), (0, u "B"), (2, u "hash"), (0, u "I"), (2, u "hashIsZero"), (0, u "Z"), (0, .methodref 10 28), (0, .nameAndType 5 29), (0, u "([CIILjava/lang/Void;)V"), (8, .fieldref 10 39), (0, .nameAndType 40 26), (0, u "COMPACT_STRINGS"), (1, .class_ 44), (1, u "java/lang/StringUTF16"), (0, u "compress"), (1, .methodref 42 48), (0, .nameAndType 49 50), (0, u "coderFromArrayLen"), (0, u "([BI)B"), (2, u "toBytes"), (53, .class_ 109), (1, u "java/lang/StringLatin1"), (67, .methodref 42 178), (0, .nameAndType 45 179), (0, u "([CII)[B"), (29, .methodref 10 210), (0, .nameAndType 5 211), (0, u "([BB)V"), (157, u "(C)Z"), (205, .class_ 576), (0, u "java/lang/CharSequence"), (22, u "CASE_INSENSITIVE_ORDER"), (0, u "Ljava/util/Comparator;"), (181, u "valueOf"), (0, u "(C)Ljava/lang/String;"), (226, u "([C)V"), (4, .methodref 107 1016), (0, .nameAndType 1017 369), (0, u "canEncode"), (0, .methodref 107 1019), (0, .nameAndType 53 1020), (0, u "(C)[B"), (80, u "serialPersistentFields"), (0, u "[Ljava/io/ObjectStreamField;"), (0, .class_ 1104), (0, u "java/lang/String$CaseInsensitiveComparator"), (1, .class_ 1107), (0, u "java/io/Serializable"), (0, .class_ 1109), (0, u "java/lang/Comparable"), (0, .class_ 1111), (0, u "java/lang/constant/Constable"), (0, .class_ 1113), (0, u "java/lang/constant/ConstantDesc"), (2, u "serialVersionUID"), (0, u "J"), (3, u "REPL"), (0, u "C"), (2, u "LATIN1"), (1, u "UTF16")] 323

def k7m0 : Method := { name := "<init>", desc := "()V", sig := { parameters := [], returnType := none }, accessFlags := 1, code := none }
def k7c1 : Code := { maxStack := 5, maxLocals := 2, code := jdk_42_method_3_code, exceptionTable := #[], attributes := #[] }
def k7m1 : Method := { name := "<init>", desc := "([C)V", sig := { parameters := [(.array .char)], returnType := none }, accessFlags := 1, code := some k7c1 }
def k7c2 : Code := { maxStack := 4, maxLocals := 1, code := jdk_42_method_139_code, exceptionTable := #[], attributes := #[] }
def k7m2 : Method := { name := "valueOf", desc := "(C)Ljava/lang/String;", sig := { parameters := [.char], returnType := some (.object "java/lang/String") }, accessFlags := 9, code := some k7c2 }
def k7c3 : Code := { maxStack := 4, maxLocals := 6, code := jdk_42_method_149_code, exceptionTable := #[], attributes := #[] }
def k7m3 : Method := { name := "<init>", desc := "([CIILjava/lang/Void;)V", sig := { parameters := [(.array .char), .int, .int, (.object "java/lang/Void")], returnType := none }, accessFlags := 2, code := some k7c3 }
def k7c4 : Code := { maxStack := 2, maxLocals := 3, code := jdk_42_method_151_code, exceptionTable := #[], attributes := #[] }
def k7m4 : Method := { name := "<init>", desc := "([BB)V", sig := { parameters := [(.array .byte), .byte], returnType := none }, accessFlags := 0, code := some k7c4 }
/-- java/lang/String -/
def k7 : Class := { plain "java/lang/String" (some 0) with
  accessFlags := 49
  interfaces := #[2, 3, 4, 5, 6]
  cf := some (fileOf pool7 10 #[.nestMembers #[1103]] #[{ accessFlags := 1, nameIndex := 5, descriptorIndex := 6, attributes := #[] }, { accessFlags := 1, nameIndex := 5, descriptorIndex := 1010, attributes := #[] }, { accessFlags := 9, nameIndex := 782, descriptorIndex := 783, attributes := #[] }, { accessFlags := 2, nameIndex := 5, descriptorIndex := 29, attributes := #[] }, { accessFlags := 0, nameIndex := 5, descriptorIndex := 211, attributes := #[] }] 49 2 #[1106, 1108, 575, 1110, 1112] #[{ accessFlags := 18, nameIndex := 13, descriptorIndex := 14, attributes := #[] }, { accessFlags := 18, nameIndex := 17, descriptorIndex := 18, attributes := #[] }, { accessFlags := 2, nameIndex := 21, descriptorIndex := 22, attributes := #[] }, { accessFlags := 2, nameIndex := 25, descriptorIndex := 26, attributes := #[] }, { accessFlags := 26, nameIndex := 1116, descriptorIndex := 1117, attributes := #[] }, { accessFlags := 24, nameIndex := 40, descriptorIndex := 26, attributes := #[] }, { accessFlags := 26, nameIndex := 1101, descriptorIndex := 1102, attributes := #[] }, { accessFlags := 26, nameIndex := 1121, descriptorIndex := 1122, attributes := #[] }, { accessFlags := 25, nameIndex := 599, descriptorIndex := 600, attributes := #[] }, { accessFlags := 24, nameIndex := 1125, descriptorIndex := 18, attributes := #[] }, { accessFlags := 24, nameIndex := 1127, descriptorIndex := 18, attributes := #[] }])
  fields := #[{ name := "value", type := (.array .byte), accessFlags := 18, slot := 0, constantValue := 0 }, { name := "coder", type := .byte, accessFlags := 18, slot := 1, constantValue := 0 }, { name := "hash", type := .int, accessFlags := 2, slot := 2, constantValue := 0 }, { name := "hashIsZero", type := .boolean, accessFlags := 2, slot := 3, constantValue := 0 }, { name := "serialVersionUID", type := .long, accessFlags := 26, slot := 0, constantValue := 0 }, { name := "COMPACT_STRINGS", type := .boolean, accessFlags := 24, slot := 1, constantValue := 0 }, { name := "serialPersistentFields", type := (.array (.object "java/io/ObjectStreamField")), accessFlags := 26, slot := 2, constantValue := 0 }, { name := "REPL", type := .char, accessFlags := 26, slot := 3, constantValue := 0 }, { name := "CASE_INSENSITIVE_ORDER", type := (.object "java/util/Comparator"), accessFlags := 25, slot := 4, constantValue := 0 }, { name := "LATIN1", type := .byte, accessFlags := 24, slot := 5, constantValue := 0 }, { name := "UTF16", type := .byte, accessFlags := 24, slot := 6, constantValue := 0 }]
  methods := #[k7m0, k7m1, k7m2, k7m3, k7m4]
  instanceTypes := #[(.array .byte), .byte, .int, .boolean]
  staticTypes := #[.long, .boolean, (.array (.object "java/io/ObjectStreamField")), .char, (.object "java/util/Comparator"), .byte, .byte]
  resolved := Array.replicate 1451 none
  statics := some 0 }

def pool8 : Array CpInfo := pool [(6, .class_ 8), (1, u "java/lang/Object"), (0, u "<init>"), (0, u "()V"), (1, .class_ 14), (1, u "java/lang/StringUTF16"), (31, u "$assertionsDisabled"), (0, u "Z"), (13, u "HI_BYTE_SHIFT"), (0, u "I"), (2, u "LO_BYTE_SHIFT"), (49, .methodref 12 116), (0, .nameAndType 117 118), (0, u "compress"), (0, u "([CI[BII)I"), (3, u "([CII)[B"), (138, u "coderFromArrayLen"), (0, u "([BI)B"), (106, .class_ 371), (1, u "java/lang/StringUTF16$LinesSpliterator"), (58, u "MAX_LENGTH"), (196, .class_ 628), (0, u "java/lang/StringUTF16$CodePointsSpliterator"), (0, .class_ 630), (0, u "java/lang/StringUTF16$CharsSpliterator")] 4

def k8m0 : Method := { name := "<init>", desc := "()V", sig := { parameters := [], returnType := none }, accessFlags := 0, code := none }
def k8c1 : Code := { maxStack := 2, maxLocals := 2, code := jdk_52_method_15_code, exceptionTable := #[], attributes := #[] }
def k8m1 : Method := { name := "coderFromArrayLen", desc := "([BI)B", sig := { parameters := [(.array .byte), .int], returnType := some .byte }, accessFlags := 8, code := some k8c1 }
def k8c2 : Code := { maxStack := 5, maxLocals := 6, code := jdk_52_method_16_code, exceptionTable := #[], attributes := #[] }
def k8m2 : Method := { name := "compress", desc := "([CII)[B", sig := { parameters := [(.array .char), .int, .int], returnType := some (.array .byte) }, accessFlags := 9, code := some k8c2 }
def k8c3 : Code := { maxStack := 3, maxLocals := 7, code := jdk_52_method_21_code, exceptionTable := #[], attributes := #[] }
def k8m3 : Method := { name := "compress", desc := "([CI[BII)I", sig := { parameters := [(.array .char), .int, (.array .byte), .int, .int], returnType := some .int }, accessFlags := 9, code := some k8c3 }
/-- java/lang/StringUTF16 -/
def k8 : Class := { plain "java/lang/StringUTF16" (some 0) with
  accessFlags := 48
  interfaces := #[]
  cf := some (fileOf pool8 12 #[.nestMembers #[627, 629, 369]] #[{ accessFlags := 0, nameIndex := 9, descriptorIndex := 10, attributes := #[] }, { accessFlags := 8, nameIndex := 261, descriptorIndex := 262, attributes := #[] }, { accessFlags := 9, nameIndex := 117, descriptorIndex := 122, attributes := #[] }, { accessFlags := 9, nameIndex := 117, descriptorIndex := 118, attributes := #[] }] 48 6 #[] #[{ accessFlags := 26, nameIndex := 61, descriptorIndex := 62, attributes := #[] }, { accessFlags := 26, nameIndex := 65, descriptorIndex := 62, attributes := #[] }, { accessFlags := 24, nameIndex := 430, descriptorIndex := 62, attributes := #[] }, { accessFlags := 4120, nameIndex := 46, descriptorIndex := 47, attributes := #[] }])
  fields := #[{ name := "HI_BYTE_SHIFT", type := .int, accessFlags := 26, slot := 0, constantValue := 0 }, { name := "LO_BYTE_SHIFT", type := .int, accessFlags := 26, slot := 1, constantValue := 0 }, { name := "MAX_LENGTH", type := .int, accessFlags := 24, slot := 2, constantValue := 0 }, { name := "$assertionsDisabled", type := .boolean, accessFlags := 4120, slot := 3, constantValue := 0 }]
  methods := #[k8m0, k8m1, k8m2, k8m3]
  instanceTypes := #[]
  staticTypes := #[.int, .int, .int, .boolean]
  resolved := Array.replicate 635 none
  statics := none }

def pool9 : Array CpInfo := pool [(1, .methodref 2 3), (0, .class_ 4), (0, .nameAndType 5 6), (0, u "java/lang/Object"), (0, u "<init>"), (0, u "()V"), (0, .class_ 8), (0, u "com/example/call_throttle/callthrottle/KeyQueue$Chunk"), (0, .methodref 7 3), (0, .fieldref 11 12), (0, .class_ 13), (0, .nameAndType 14 15), (0, u "com/example/call_throttle/callthrottle/KeyQueue"), (0, u "first"), (0, u "Lcom/example/call_throttle/callthrottle/KeyQueue$Chunk;"), (0, .fieldref 11 17), (0, .nameAndType 18 15), (0, u "last"), (0, .fieldref 11 20), (0, .nameAndType 21 22), (0, u "lastIndex"), (0, u "I"), (0, .fieldref 7 24), (0, .nameAndType 25 15), (0, u "next"), (0, .fieldref 7 27), (0, .nameAndType 28 29), (0, u "keys"), (0, u "[Ljava/lang/String;"), (0, .fieldref 11 31), (0, .nameAndType 32 33), (0, u "size"), (0, u "J"), (3, .fieldref 11 38), (0, .nameAndType 39 22), (0, u "firstIndex"), (0, u "CHUNK"), (4, u "addLast"), (0, u "(Ljava/lang/String;)V"), (1, u "removeFirst"), (0, u "()Ljava/lang/String;"), (0, u "isEmpty"), (0, u "()Z"), (0, u "()J")] 5

def k9c0 : Code := { maxStack := 3, maxLocals := 1, code := prog_12_method_1_code, exceptionTable := #[], attributes := #[] }
def k9m0 : Method := { name := "<init>", desc := "()V", sig := { parameters := [], returnType := none }, accessFlags := 0, code := some k9c0 }
def k9c1 : Code := { maxStack := 5, maxLocals := 3, code := prog_12_method_2_code, exceptionTable := #[], attributes := #[] }
def k9m1 : Method := { name := "addLast", desc := "(Ljava/lang/String;)V", sig := { parameters := [(.object "java/lang/String")], returnType := none }, accessFlags := 0, code := some k9c1 }
def k9c2 : Code := { maxStack := 5, maxLocals := 2, code := prog_12_method_3_code, exceptionTable := #[], attributes := #[] }
def k9m2 : Method := { name := "removeFirst", desc := "()Ljava/lang/String;", sig := { parameters := [], returnType := some (.object "java/lang/String") }, accessFlags := 0, code := some k9c2 }
def k9c3 : Code := { maxStack := 4, maxLocals := 1, code := prog_12_method_4_code, exceptionTable := #[], attributes := #[] }
def k9m3 : Method := { name := "isEmpty", desc := "()Z", sig := { parameters := [], returnType := some .boolean }, accessFlags := 0, code := some k9c3 }
def k9c4 : Code := { maxStack := 2, maxLocals := 1, code := prog_12_method_5_code, exceptionTable := #[], attributes := #[] }
def k9m4 : Method := { name := "size", desc := "()J", sig := { parameters := [], returnType := some .long }, accessFlags := 0, code := some k9c4 }
/-- com/example/call_throttle/callthrottle/KeyQueue -/
def k9 : Class := { plain "com/example/call_throttle/callthrottle/KeyQueue" (some 0) with
  accessFlags := 48
  interfaces := #[]
  cf := some (fileOf pool9 11 #[.nestMembers #[7]] #[{ accessFlags := 0, nameIndex := 5, descriptorIndex := 6, attributes := #[] }, { accessFlags := 0, nameIndex := 45, descriptorIndex := 46, attributes := #[] }, { accessFlags := 0, nameIndex := 48, descriptorIndex := 49, attributes := #[] }, { accessFlags := 0, nameIndex := 50, descriptorIndex := 51, attributes := #[] }, { accessFlags := 0, nameIndex := 32, descriptorIndex := 52, attributes := #[] }] 48 2 #[] #[{ accessFlags := 26, nameIndex := 40, descriptorIndex := 22, attributes := #[] }, { accessFlags := 2, nameIndex := 14, descriptorIndex := 15, attributes := #[] }, { accessFlags := 2, nameIndex := 18, descriptorIndex := 15, attributes := #[] }, { accessFlags := 2, nameIndex := 39, descriptorIndex := 22, attributes := #[] }, { accessFlags := 2, nameIndex := 21, descriptorIndex := 22, attributes := #[] }, { accessFlags := 2, nameIndex := 32, descriptorIndex := 33, attributes := #[] }])
  fields := #[{ name := "CHUNK", type := .int, accessFlags := 26, slot := 0, constantValue := 0 }, { name := "first", type := (.object "com/example/call_throttle/callthrottle/KeyQueue$Chunk"), accessFlags := 2, slot := 0, constantValue := 0 }, { name := "last", type := (.object "com/example/call_throttle/callthrottle/KeyQueue$Chunk"), accessFlags := 2, slot := 1, constantValue := 0 }, { name := "firstIndex", type := .int, accessFlags := 2, slot := 2, constantValue := 0 }, { name := "lastIndex", type := .int, accessFlags := 2, slot := 3, constantValue := 0 }, { name := "size", type := .long, accessFlags := 2, slot := 4, constantValue := 0 }]
  methods := #[k9m0, k9m1, k9m2, k9m3, k9m4]
  instanceTypes := #[(.object "com/example/call_throttle/callthrottle/KeyQueue$Chunk"), (.object "com/example/call_throttle/callthrottle/KeyQueue$Chunk"), .int, .int, .long]
  staticTypes := #[.int]
  resolved := ((Array.replicate 58 none).setIfInBounds 7 (some (.cls 10))).setIfInBounds 9 (some (.method ⟨10, 0⟩))
  statics := none }

def pool10 : Array CpInfo := pool [(1, .class_ 2), (0, u "com/example/call_throttle/callthrottle/KeyQueue"), (0, .methodref 4 5), (0, .class_ 6), (0, .nameAndType 7 8), (0, u "java/lang/Object"), (0, u "<init>"), (0, u "()V"), (0, .class_ 10), (0, u "java/lang/String"), (0, .fieldref 12 13), (0, .class_ 14), (0, .nameAndType 15 16), (0, u "com/example/call_throttle/callthrottle/KeyQueue$Chunk"), (0, u "keys"), (0, u "[Ljava/lang/String;"), (0, u "next"), (0, u "Lcom/example/call_throttle/callthrottle/KeyQueue$Chunk;")] 7

def k10c0 : Code := { maxStack := 2, maxLocals := 1, code := prog_13_method_1_code, exceptionTable := #[], attributes := #[] }
def k10m0 : Method := { name := "<init>", desc := "()V", sig := { parameters := [], returnType := none }, accessFlags := 2, code := some k10c0 }
/-- com/example/call_throttle/callthrottle/KeyQueue$Chunk -/
def k10 : Class := { plain "com/example/call_throttle/callthrottle/KeyQueue$Chunk" (some 0) with
  accessFlags := 48
  interfaces := #[]
  cf := some (fileOf pool10 12 #[.nestHost 1] #[{ accessFlags := 2, nameIndex := 7, descriptorIndex := 8, attributes := #[] }] 48 4 #[] #[{ accessFlags := 16, nameIndex := 15, descriptorIndex := 16, attributes := #[] }, { accessFlags := 0, nameIndex := 17, descriptorIndex := 18, attributes := #[] }])
  fields := #[{ name := "keys", type := (.array (.object "java/lang/String")), accessFlags := 16, slot := 0, constantValue := 0 }, { name := "next", type := (.object "com/example/call_throttle/callthrottle/KeyQueue$Chunk"), accessFlags := 0, slot := 1, constantValue := 0 }]
  methods := #[k10m0]
  instanceTypes := #[(.array (.object "java/lang/String")), (.object "com/example/call_throttle/callthrottle/KeyQueue$Chunk")]
  staticTypes := #[]
  resolved := Array.replicate 26 none
  statics := none }

def pool11 : Array CpInfo := pool [(4, .class_ 6), (1, u "java/lang/Object"), (0, u "<init>"), (0, u "()V"), (5, .class_ 16), (1, u "java/lang/StringLatin1"), (73, u "canEncode"), (14, u "(C)Z"), (15, u "$assertionsDisabled"), (0, u "Z"), (98, .class_ 223), (1, u "java/lang/StringLatin1$LinesSpliterator"), (156, u "toBytes"), (1, u "(C)[B"), (7, .class_ 391), (0, u "java/lang/StringLatin1$CharsSpliterator")] 3

def k11m0 : Method := { name := "<init>", desc := "()V", sig := { parameters := [], returnType := none }, accessFlags := 0, code := none }
def k11c1 : Code := { maxStack := 2, maxLocals := 1, code := jdk_43_method_3_code, exceptionTable := #[], attributes := #[] }
def k11m1 : Method := { name := "canEncode", desc := "(C)Z", sig := { parameters := [.char], returnType := some .boolean }, accessFlags := 9, code := some k11c1 }
def k11c2 : Code := { maxStack := 4, maxLocals := 1, code := jdk_43_method_46_code, exceptionTable := #[], attributes := #[] }
def k11m2 : Method := { name := "toBytes", desc := "(C)[B", sig := { parameters := [.char], returnType := some (.array .byte) }, accessFlags := 9, code := some k11c2 }
/-- java/lang/StringLatin1 -/
def k11 : Class := { plain "java/lang/StringLatin1" (some 0) with
  accessFlags := 48
  interfaces := #[]
  cf := some (fileOf pool11 14 #[.nestMembers #[390, 221]] #[{ accessFlags := 0, nameIndex := 7, descriptorIndex := 8, attributes := #[] }, { accessFlags := 9, nameIndex := 90, descriptorIndex := 105, attributes := #[] }, { accessFlags := 9, nameIndex := 380, descriptorIndex := 382, attributes := #[] }] 48 4 #[] #[{ accessFlags := 4120, nameIndex := 121, descriptorIndex := 122, attributes := #[] }])
  fields := #[{ name := "$assertionsDisabled", type := .boolean, accessFlags := 4120, slot := 0, constantValue := 0 }]
  methods := #[k11m0, k11m1, k11m2]
  instanceTypes := #[]
  staticTypes := #[.boolean]
  resolved := Array.replicate 395 none
  statics := none }

def pool12 : Array CpInfo := pool [(2, .class_ 4), (1, u "java/lang/Object"), (0, u "<init>"), (0, u "()V"), (17, .class_ 26), (1, u "jdk/internal/util/Preconditions"), (28, .class_ 56), (0, u "jdk/internal/util/Preconditions$4"), (57, .class_ 115), (0, u "jdk/internal/util/Preconditions$1"), (7, u "SIOOBE_FORMATTER"), (0, u "Ljava/util/function/BiFunction;"), (0, .class_ 126), (0, u "jdk/internal/util/Preconditions$2"), (3, u "AIOOBE_FORMATTER"), (0, .class_ 132), (0, u "jdk/internal/util/Preconditions$3"), (3, u "IOOBE_FORMATTER")] 57

def k12m0 : Method := { name := "<init>", desc := "()V", sig := { parameters := [], returnType := none }, accessFlags := 1, code := none }
/-- jdk/internal/util/Preconditions -/
def k12 : Class := { plain "jdk/internal/util/Preconditions" (some 0) with
  accessFlags := 33
  interfaces := #[]
  cf := some (fileOf pool12 24 #[.nestMembers #[55, 131, 125, 114]] #[{ accessFlags := 1, nameIndex := 5, descriptorIndex := 6, attributes := #[] }] 33 2 #[] #[{ accessFlags := 25, nameIndex := 123, descriptorIndex := 124, attributes := #[] }, { accessFlags := 25, nameIndex := 130, descriptorIndex := 124, attributes := #[] }, { accessFlags := 25, nameIndex := 136, descriptorIndex := 124, attributes := #[] }])
  fields := #[{ name := "SIOOBE_FORMATTER", type := (.object "java/util/function/BiFunction"), accessFlags := 25, slot := 0, constantValue := 0 }, { name := "AIOOBE_FORMATTER", type := (.object "java/util/function/BiFunction"), accessFlags := 25, slot := 1, constantValue := 0 }, { name := "IOOBE_FORMATTER", type := (.object "java/util/function/BiFunction"), accessFlags := 25, slot := 2, constantValue := 0 }]
  methods := #[k12m0]
  instanceTypes := #[]
  staticTypes := #[(.object "java/util/function/BiFunction"), (.object "java/util/function/BiFunction"), (.object "java/util/function/BiFunction")]
  resolved := Array.replicate 194 none
  statics := some 1 }

def pool13 : Array CpInfo := pool [(9, u "<init>"), (6, .class_ 18), (1, u "java/lang/Object"), (0, u "()V"), (1, .class_ 23), (1, u "jdk/internal/util/ArraysSupport"), (0, u "LOG2_ARRAY_LONG_INDEX_SCALE"), (0, u "I"), (2, u "U"), (0, u "Ljdk/internal/misc/Unsafe;"), (8, u "BIG_ENDIAN"), (0, u "Z"), (8, u "LOG2_BYTE_BIT_SIZE"), (4, u "LOG2_ARRAY_INT_INDEX_SCALE"), (54, u "JLA"), (0, u "Ljdk/internal/access/JavaLangAccess;"), (11, u "LOG2_ARRAY_BOOLEAN_INDEX_SCALE"), (9, u "LOG2_ARRAY_BYTE_INDEX_SCALE"), (5, u "LOG2_ARRAY_CHAR_INDEX_SCALE"), (5, u "LOG2_ARRAY_SHORT_INDEX_SCALE"), (18, u "LOG2_ARRAY_FLOAT_INDEX_SCALE"), (24, u "LOG2_ARRAY_DOUBLE_INDEX_SCALE"), (89, u "T_BOOLEAN"), (2, u "T_CHAR"), (1, u "T_FLOAT"), (1, u "T_DOUBLE"), (1, u "T_BYTE"), (1, u "T_SHORT"), (1, u "T_INT"), (1, u "T_LONG"), (1, u "SOFT_MAX_ARRAY_LENGTH")] 83

def k13m0 : Method := { name := "<init>", desc := "()V", sig := { parameters := [], returnType := none }, accessFlags := 2, code := none }
/-- jdk/internal/util/ArraysSupport -/
def k13 : Class := { plain "jdk/internal/util/ArraysSupport" (some 0) with
  accessFlags := 33
  interfaces := #[]
  cf := some (fileOf pool13 21 #[] #[{ accessFlags := 2, nameIndex := 9, descriptorIndex := 19, attributes := #[] }] 33 16 #[] #[{ accessFlags := 24, nameIndex := 28, descriptorIndex := 29, attributes := #[] }, { accessFlags := 26, nameIndex := 38, descriptorIndex := 39, attributes := #[] }, { accessFlags := 25, nameIndex := 121, descriptorIndex := 25, attributes := #[] }, { accessFlags := 25, nameIndex := 131, descriptorIndex := 25, attributes := #[] }, { accessFlags := 25, nameIndex := 137, descriptorIndex := 25, attributes := #[] }, { accessFlags := 25, nameIndex := 143, descriptorIndex := 25, attributes := #[] }, { accessFlags := 25, nameIndex := 53, descriptorIndex := 25, attributes := #[] }, { accessFlags := 25, nameIndex := 24, descriptorIndex := 25, attributes := #[] }, { accessFlags := 25, nameIndex := 162, descriptorIndex := 25, attributes := #[] }, { accessFlags := 25, nameIndex := 187, descriptorIndex := 25, attributes := #[] }, { accessFlags := 26, nameIndex := 48, descriptorIndex := 25, attributes := #[] }, { accessFlags := 25, nameIndex := 277, descriptorIndex := 25, attributes := #[] }, { accessFlags := 25, nameIndex := 280, descriptorIndex := 25, attributes := #[] }, { accessFlags := 25, nameIndex := 282, descriptorIndex := 25, attributes := #[] }, { accessFlags := 25, nameIndex := 284, descriptorIndex := 25, attributes := #[] }, { accessFlags := 25, nameIndex := 286, descriptorIndex := 25, attributes := #[] }, { accessFlags := 25, nameIndex := 288, descriptorIndex := 25, attributes := #[] }, { accessFlags := 25, nameIndex := 290, descriptorIndex := 25, attributes := #[] }, { accessFlags := 25, nameIndex := 292, descriptorIndex := 25, attributes := #[] }, { accessFlags := 26, nameIndex := 108, descriptorIndex := 109, attributes := #[] }, { accessFlags := 25, nameIndex := 294, descriptorIndex := 25, attributes := #[] }])
  fields := #[{ name := "U", type := (.object "jdk/internal/misc/Unsafe"), accessFlags := 24, slot := 0, constantValue := 0 }, { name := "BIG_ENDIAN", type := .boolean, accessFlags := 26, slot := 1, constantValue := 0 }, { name := "LOG2_ARRAY_BOOLEAN_INDEX_SCALE", type := .int, accessFlags := 25, slot := 2, constantValue := 0 }, { name := "LOG2_ARRAY_BYTE_INDEX_SCALE", type := .int, accessFlags := 25, slot := 3, constantValue := 0 }, { name := "LOG2_ARRAY_CHAR_INDEX_SCALE", type := .int, accessFlags := 25, slot := 4, constantValue := 0 }, { name := "LOG2_ARRAY_SHORT_INDEX_SCALE", type := .int, accessFlags := 25, slot := 5, constantValue := 0 }, { name := "LOG2_ARRAY_INT_INDEX_SCALE", type := .int, accessFlags := 25, slot := 6, constantValue := 0 }, { name := "LOG2_ARRAY_LONG_INDEX_SCALE", type := .int, accessFlags := 25, slot := 7, constantValue := 0 }, { name := "LOG2_ARRAY_FLOAT_INDEX_SCALE", type := .int, accessFlags := 25, slot := 8, constantValue := 0 }, { name := "LOG2_ARRAY_DOUBLE_INDEX_SCALE", type := .int, accessFlags := 25, slot := 9, constantValue := 0 }, { name := "LOG2_BYTE_BIT_SIZE", type := .int, accessFlags := 26, slot := 10, constantValue := 0 }, { name := "T_BOOLEAN", type := .int, accessFlags := 25, slot := 11, constantValue := 0 }, { name := "T_CHAR", type := .int, accessFlags := 25, slot := 12, constantValue := 0 }, { name := "T_FLOAT", type := .int, accessFlags := 25, slot := 13, constantValue := 0 }, { name := "T_DOUBLE", type := .int, accessFlags := 25, slot := 14, constantValue := 0 }, { name := "T_BYTE", type := .int, accessFlags := 25, slot := 15, constantValue := 0 }, { name := "T_SHORT", type := .int, accessFlags := 25, slot := 16, constantValue := 0 }, { name := "T_INT", type := .int, accessFlags := 25, slot := 17, constantValue := 0 }, { name := "T_LONG", type := .int, accessFlags := 25, slot := 18, constantValue := 0 }, { name := "JLA", type := (.object "jdk/internal/access/JavaLangAccess"), accessFlags := 26, slot := 19, constantValue := 0 }, { name := "SOFT_MAX_ARRAY_LENGTH", type := .int, accessFlags := 25, slot := 20, constantValue := 0 }]
  methods := #[k13m0]
  instanceTypes := #[]
  staticTypes := #[(.object "jdk/internal/misc/Unsafe"), .boolean, .int, .int, .int, .int, .int, .int, .int, .int, .int, .int, .int, .int, .int, .int, .int, .int, .int, (.object "jdk/internal/access/JavaLangAccess"), .int]
  resolved := Array.replicate 378 none
  statics := none }

def pool14 : Array CpInfo := pool [(1, u "java/lang/Cloneable"), (0, .class_ 1), (0, u "java/lang/Object"), (0, .class_ 3)] 3

/-- java/lang/Cloneable -/
def k14 : Class := { plain "java/lang/Cloneable" (some 0) with
  accessFlags := 1537
  interfaces := #[]
  cf := some (fileOf pool14 2 #[] #[] 1537 4 #[] #[])
  fields := #[]
  methods := #[]
  instanceTypes := #[]
  staticTypes := #[]
  resolved := Array.replicate 8 none
  statics := none }

/-- the primitive byte -/
def k15 : Class := { plain "byte" none with kind := .primitive 'B', accessFlags := 0x411 }
/-- [B -/
def k16 : Class := { plain "[B" (some 0) with kind := .array 15 .byte, interfaces := #[14, 2], accessFlags := 1041 }

/-- the primitive char -/
def k17 : Class := { plain "char" none with kind := .primitive 'C', accessFlags := 0x411 }
/-- [C -/
def k18 : Class := { plain "[C" (some 0) with kind := .array 17 .char, interfaces := #[14, 2], accessFlags := 1041 }

/-- the primitive int -/
def k19 : Class := { plain "int" none with kind := .primitive 'I', accessFlags := 0x411 }
/-- [I -/
def k20 : Class := { plain "[I" (some 0) with kind := .array 19 .int, interfaces := #[14, 2], accessFlags := 1041 }

/-- [Ljava/lang/String; -/
def k21 : Class := { plain "[Ljava/lang/String;" (some 0) with kind := .array 7 (.object "java/lang/String"), interfaces := #[14, 2], accessFlags := 1041 }

def heap : Heap := #[{ cls := 7, slots := #[.long 0, .int 1, .null, .int 0, .null, .int 0, .int 0], vm := .statics 7 },
  { cls := 12, slots := #[.null, .null, .null], vm := .statics 12 }]
def classes : Array Class := #[k0, k1, k2, k3, k4, k5, k6, k7, k8, k9, k10, k11, k12, k13, k14, k15, k16, k17, k18, k19, k20, k21]
def interned : List (Array UInt16 × Addr) := []
def slotsUsed : Nat := 10
def theMethod : MethodId := ⟨1, 1⟩
def args0 : Array Value := #[.int 5, .int 7, .int 8, .int 9]
def aboutOver (below : List Frame) : State where
  vm := { classes := classes, interned := interned.toArray }
  heap := heap
  slotsUsed := slotsUsed
  threads := #[{ frames := .invoking theMethod args0 :: below }]
def below0 : List Frame := [.native { method := ⟨0, 0⟩, args := #[] }]
def about1 : State := aboutOver below0
def p0 : Program := .bare "" "" ""
def e0 : Env := launch0.env 0 0 0
theorem w_frames : about1.frames = Frame.invoking theMethod args0 :: below0 := rfl
set_option maxRecDepth 65536 in
theorem w_args : argsFit about1.vm theMethod args0 = true := by decide +kernel
set_option maxRecDepth 65536 in
theorem w_heap : heapFits about1 = true := by decide +kernel
set_option maxRecDepth 65536 in
theorem w_runnable : about1.curStatus? = some .runnable := by decide +kernel
set_option maxRecDepth 65536 in
theorem w_alone : about1.alone = true := by decide +kernel
set_option maxRecDepth 65536 in
theorem w_named : about1.methodNamed? x = some theMethod := by decide +kernel
set_option maxRecDepth 65536 in
theorem w_hears : about1.hears theMethod below0 = true := by decide +kernel
set_option maxRecDepth 65536 in
theorem w_ripe : about1.ripe theMethod args0 below0 = true := by decide +kernel
theorem w_running : about1.status = .running := rfl
set_option maxRecDepth 65536 in
theorem w_room : about1.hasRoom e0.platform room_1 = true :=
  launch0.hasRoom_least _ room_1 (by decide +kernel) (by decide +kernel) (by decide +kernel) (by decide +kernel) (by decide +kernel) (by decide +kernel)
theorem allAtoms_all (ts : List Jvm.Cond) (a : Array Jvm.Value) (st : Jvm.State) : (allAtoms ts).before a st = ts.all (fun c => c.before a st) := by
  induction ts with
  | nil => rfl
  | cons c t ih =>
    show (Jvm.Cond.and c (allAtoms t)).before a st = _
    rw [Jvm.Cond.before_and, ih, List.all_cons]
def words1 : List Jvm.Cond := Jvm.Cond.code x code maxLocals ret :: tables_1
/-- a 'code' word, met by the world's own term for the bytes: nothing is compared byte by byte -/
theorem code_word {y : MethodName} {bytes : ByteArray} {mx : Nat} {rt : Option FieldType} {a : Array Value} {s : State} {m : MethodId} {meth : Method} {c : Code} (h1 : s.methodNamed? y = some m) (h2 : s.vm.method? m = some meth) (h3 : meth.code = some c) (h4 : c.code = bytes)
    (h5 : (c.maxLocals == mx && c.exceptionTable.isEmpty && decide (c.maxStack ≤ mostOperands) && decide (meth.sig.returnType = rt) && !meth.locks && decide (parseMethodDescriptor y.desc = some meth.sig)) = true) : (Jvm.Cond.code y bytes mx rt).before a s = true := by
  simp only [Bool.and_eq_true, beq_iff_eq, Bool.not_eq_true', decide_eq_true_eq] at h5
  obtain ⟨⟨⟨⟨⟨g1, g2⟩, g3⟩, g4⟩, g5⟩, g6⟩ := h5
  simp [Cond.before, Cond.holds, Cond.value, h1, h2, h3, h4, g1, g2, g3, g4, g5, g6]
def isCode : Jvm.Cond → Bool
  | .code _ _ _ _ => true
  | _ => false
theorem all_split {L : List Jvm.Cond} {P : Jvm.Cond → Bool} (h1 : L.all (fun c => isCode c || P c) = true) (h2 : ∀ c ∈ L.filter isCode, P c = true) : L.all P = true := by
  refine List.all_eq_true.mpr fun c hc => ?_
  have h := List.all_eq_true.mp h1 c hc
  rcases Bool.eq_false_or_eq_true (isCode c) with hi | hi
  · exact h2 c (List.mem_filter.mpr ⟨hc, hi⟩)
  · simpa [hi] using h
set_option maxRecDepth 65536 in
theorem w_c0 : (Jvm.Cond.code x code maxLocals ret).before args0 about1 = true := code_word (m := ⟨1, 1⟩) (meth := k1m1) (c := k1c1) (by decide +kernel) rfl rfl rfl (by decide +kernel)
set_option maxRecDepth 65536 in
theorem w_c1 : (Jvm.Cond.code ({ cls := "com/example/call_throttle/callthrottle/KeyQueueAddLastPinLaw", name := "key", desc := "(I)Ljava/lang/String;" } : Jvm.MethodName) method_3_code (2 : Nat) (Option.some (Jvm.ClassFile.FieldType.object "java/lang/String"))).before args0 about1 = true := code_word (m := ⟨1, 2⟩) (meth := k1m2) (c := k1c2) (by decide +kernel) rfl rfl rfl (by decide +kernel)
set_option maxRecDepth 65536 in
theorem w_c2 : (Jvm.Cond.code ({ cls := "java/lang/String", name := "<init>", desc := "([C)V" } : Jvm.MethodName) jdk_42_method_3_code (2 : Nat) (Option.none : Option Jvm.ClassFile.FieldType)).before args0 about1 = true := code_word (m := ⟨7, 1⟩) (meth := k7m1) (c := k7c1) (by decide +kernel) rfl rfl rfl (by decide +kernel)
set_option maxRecDepth 65536 in
theorem w_c3 : (Jvm.Cond.code ({ cls := "java/lang/String", name := "<init>", desc := "([CIILjava/lang/Void;)V" } : Jvm.MethodName) jdk_42_method_149_code (6 : Nat) (Option.none : Option Jvm.ClassFile.FieldType)).before args0 about1 = true := code_word (m := ⟨7, 3⟩) (meth := k7m3) (c := k7c3) (by decide +kernel) rfl rfl rfl (by decide +kernel)
set_option maxRecDepth 65536 in
theorem w_c4 : (Jvm.Cond.code ({ cls := "java/lang/Object", name := "<init>", desc := "()V" } : Jvm.MethodName) object_method_1_code (1 : Nat) (Option.none : Option Jvm.ClassFile.FieldType)).before args0 about1 = true := code_word (m := ⟨0, 0⟩) (meth := k0m0) (c := k0c0) (by decide +kernel) rfl rfl rfl (by decide +kernel)
set_option maxRecDepth 65536 in
theorem w_c5 : (Jvm.Cond.code ({ cls := "java/lang/StringUTF16", name := "compress", desc := "([CII)[B" } : Jvm.MethodName) jdk_52_method_16_code (6 : Nat) (Option.some (Jvm.ClassFile.FieldType.array Jvm.ClassFile.FieldType.byte))).before args0 about1 = true := code_word (m := ⟨8, 2⟩) (meth := k8m2) (c := k8c2) (by decide +kernel) rfl rfl rfl (by decide +kernel)
set_option maxRecDepth 65536 in
theorem w_c6 : (Jvm.Cond.code ({ cls := "java/lang/StringUTF16", name := "compress", desc := "([CI[BII)I" } : Jvm.MethodName) jdk_52_method_21_code (7 : Nat) (Option.some Jvm.ClassFile.FieldType.int)).before args0 about1 = true := code_word (m := ⟨8, 3⟩) (meth := k8m3) (c := k8c3) (by decide +kernel) rfl rfl rfl (by decide +kernel)
set_option maxRecDepth 65536 in
theorem w_c7 : (Jvm.Cond.code ({ cls := "java/lang/StringUTF16", name := "coderFromArrayLen", desc := "([BI)B" } : Jvm.MethodName) jdk_52_method_15_code (2 : Nat) (Option.some Jvm.ClassFile.FieldType.byte)).before args0 about1 = true := code_word (m := ⟨8, 1⟩) (meth := k8m1) (c := k8c1) (by decide +kernel) rfl rfl rfl (by decide +kernel)
set_option maxRecDepth 65536 in
theorem w_c8 : (Jvm.Cond.code ({ cls := "com/example/call_throttle/callthrottle/KeyQueue", name := "<init>", desc := "()V" } : Jvm.MethodName) prog_12_method_1_code (1 : Nat) (Option.none : Option Jvm.ClassFile.FieldType)).before args0 about1 = true := code_word (m := ⟨9, 0⟩) (meth := k9m0) (c := k9c0) (by decide +kernel) rfl rfl rfl (by decide +kernel)
set_option maxRecDepth 65536 in
theorem w_c9 : (Jvm.Cond.code ({ cls := "com/example/call_throttle/callthrottle/KeyQueue$Chunk", name := "<init>", desc := "()V" } : Jvm.MethodName) prog_13_method_1_code (1 : Nat) (Option.none : Option Jvm.ClassFile.FieldType)).before args0 about1 = true := code_word (m := ⟨10, 0⟩) (meth := k10m0) (c := k10c0) (by decide +kernel) rfl rfl rfl (by decide +kernel)
set_option maxRecDepth 65536 in
theorem w_c10 : (Jvm.Cond.code ({ cls := "com/example/call_throttle/callthrottle/KeyQueue", name := "size", desc := "()J" } : Jvm.MethodName) prog_12_method_5_code (1 : Nat) (Option.some Jvm.ClassFile.FieldType.long)).before args0 about1 = true := code_word (m := ⟨9, 4⟩) (meth := k9m4) (c := k9c4) (by decide +kernel) rfl rfl rfl (by decide +kernel)
set_option maxRecDepth 65536 in
theorem w_c11 : (Jvm.Cond.code ({ cls := "com/example/call_throttle/callthrottle/KeyQueue", name := "isEmpty", desc := "()Z" } : Jvm.MethodName) prog_12_method_4_code (1 : Nat) (Option.some Jvm.ClassFile.FieldType.boolean)).before args0 about1 = true := code_word (m := ⟨9, 3⟩) (meth := k9m3) (c := k9c3) (by decide +kernel) rfl rfl rfl (by decide +kernel)
set_option maxRecDepth 65536 in
theorem w_c12 : (Jvm.Cond.code ({ cls := "com/example/call_throttle/callthrottle/KeyQueue", name := "addLast", desc := "(Ljava/lang/String;)V" } : Jvm.MethodName) prog_12_method_2_code (3 : Nat) (Option.none : Option Jvm.ClassFile.FieldType)).before args0 about1 = true := code_word (m := ⟨9, 1⟩) (meth := k9m1) (c := k9c1) (by decide +kernel) rfl rfl rfl (by decide +kernel)
set_option maxRecDepth 65536 in
theorem w_c13 : (Jvm.Cond.code ({ cls := "com/example/call_throttle/callthrottle/KeyQueue", name := "removeFirst", desc := "()Ljava/lang/String;" } : Jvm.MethodName) prog_12_method_3_code (2 : Nat) (Option.some (Jvm.ClassFile.FieldType.object "java/lang/String"))).before args0 about1 = true := code_word (m := ⟨9, 2⟩) (meth := k9m2) (c := k9c2) (by decide +kernel) rfl rfl rfl (by decide +kernel)
set_option maxRecDepth 65536 in
theorem w_c14 : (Jvm.Cond.code ({ cls := "java/lang/String", name := "valueOf", desc := "(C)Ljava/lang/String;" } : Jvm.MethodName) jdk_42_method_139_code (1 : Nat) (Option.some (Jvm.ClassFile.FieldType.object "java/lang/String"))).before args0 about1 = true := code_word (m := ⟨7, 2⟩) (meth := k7m2) (c := k7c2) (by decide +kernel) rfl rfl rfl (by decide +kernel)
set_option maxRecDepth 65536 in
theorem w_c15 : (Jvm.Cond.code ({ cls := "java/lang/StringLatin1", name := "canEncode", desc := "(C)Z" } : Jvm.MethodName) jdk_43_method_3_code (1 : Nat) (Option.some Jvm.ClassFile.FieldType.boolean)).before args0 about1 = true := code_word (m := ⟨11, 1⟩) (meth := k11m1) (c := k11c1) (by decide +kernel) rfl rfl rfl (by decide +kernel)
set_option maxRecDepth 65536 in
theorem w_c16 : (Jvm.Cond.code ({ cls := "java/lang/StringLatin1", name := "toBytes", desc := "(C)[B" } : Jvm.MethodName) jdk_43_method_46_code (1 : Nat) (Option.some (Jvm.ClassFile.FieldType.array Jvm.ClassFile.FieldType.byte))).before args0 about1 = true := code_word (m := ⟨11, 2⟩) (meth := k11m2) (c := k11c2) (by decide +kernel) rfl rfl rfl (by decide +kernel)
set_option maxRecDepth 65536 in
theorem w_c17 : (Jvm.Cond.code ({ cls := "java/lang/String", name := "<init>", desc := "([BB)V" } : Jvm.MethodName) jdk_42_method_151_code (3 : Nat) (Option.none : Option Jvm.ClassFile.FieldType)).before args0 about1 = true := code_word (m := ⟨7, 4⟩) (meth := k7m4) (c := k7c4) (by decide +kernel) rfl rfl rfl (by decide +kernel)
def codes1 : List Jvm.Cond := [Jvm.Cond.code x code maxLocals ret, Jvm.Cond.code ({ cls := "com/example/call_throttle/callthrottle/KeyQueueAddLastPinLaw", name := "key", desc := "(I)Ljava/lang/String;" } : Jvm.MethodName) method_3_code (2 : Nat) (Option.some (Jvm.ClassFile.FieldType.object "java/lang/String")), Jvm.Cond.code ({ cls := "java/lang/String", name := "<init>", desc := "([C)V" } : Jvm.MethodName) jdk_42_method_3_code (2 : Nat) (Option.none : Option Jvm.ClassFile.FieldType), Jvm.Cond.code ({ cls := "java/lang/String", name := "<init>", desc := "([CIILjava/lang/Void;)V" } : Jvm.MethodName) jdk_42_method_149_code (6 : Nat) (Option.none : Option Jvm.ClassFile.FieldType), Jvm.Cond.code ({ cls := "java/lang/Object", name := "<init>", desc := "()V" } : Jvm.MethodName) object_method_1_code (1 : Nat) (Option.none : Option Jvm.ClassFile.FieldType), Jvm.Cond.code ({ cls := "java/lang/StringUTF16", name := "compress", desc := "([CII)[B" } : Jvm.MethodName) jdk_52_method_16_code (6 : Nat) (Option.some (Jvm.ClassFile.FieldType.array Jvm.ClassFile.FieldType.byte)), Jvm.Cond.code ({ cls := "java/lang/StringUTF16", name := "compress", desc := "([CI[BII)I" } : Jvm.MethodName) jdk_52_method_21_code (7 : Nat) (Option.some Jvm.ClassFile.FieldType.int), Jvm.Cond.code ({ cls := "java/lang/StringUTF16", name := "coderFromArrayLen", desc := "([BI)B" } : Jvm.MethodName) jdk_52_method_15_code (2 : Nat) (Option.some Jvm.ClassFile.FieldType.byte), Jvm.Cond.code ({ cls := "com/example/call_throttle/callthrottle/KeyQueue", name := "<init>", desc := "()V" } : Jvm.MethodName) prog_12_method_1_code (1 : Nat) (Option.none : Option Jvm.ClassFile.FieldType), Jvm.Cond.code ({ cls := "com/example/call_throttle/callthrottle/KeyQueue$Chunk", name := "<init>", desc := "()V" } : Jvm.MethodName) prog_13_method_1_code (1 : Nat) (Option.none : Option Jvm.ClassFile.FieldType), Jvm.Cond.code ({ cls := "com/example/call_throttle/callthrottle/KeyQueue", name := "size", desc := "()J" } : Jvm.MethodName) prog_12_method_5_code (1 : Nat) (Option.some Jvm.ClassFile.FieldType.long), Jvm.Cond.code ({ cls := "com/example/call_throttle/callthrottle/KeyQueue", name := "isEmpty", desc := "()Z" } : Jvm.MethodName) prog_12_method_4_code (1 : Nat) (Option.some Jvm.ClassFile.FieldType.boolean), Jvm.Cond.code ({ cls := "com/example/call_throttle/callthrottle/KeyQueue", name := "addLast", desc := "(Ljava/lang/String;)V" } : Jvm.MethodName) prog_12_method_2_code (3 : Nat) (Option.none : Option Jvm.ClassFile.FieldType), Jvm.Cond.code ({ cls := "com/example/call_throttle/callthrottle/KeyQueue", name := "removeFirst", desc := "()Ljava/lang/String;" } : Jvm.MethodName) prog_12_method_3_code (2 : Nat) (Option.some (Jvm.ClassFile.FieldType.object "java/lang/String")), Jvm.Cond.code ({ cls := "java/lang/String", name := "valueOf", desc := "(C)Ljava/lang/String;" } : Jvm.MethodName) jdk_42_method_139_code (1 : Nat) (Option.some (Jvm.ClassFile.FieldType.object "java/lang/String")), Jvm.Cond.code ({ cls := "java/lang/StringLatin1", name := "canEncode", desc := "(C)Z" } : Jvm.MethodName) jdk_43_method_3_code (1 : Nat) (Option.some Jvm.ClassFile.FieldType.boolean), Jvm.Cond.code ({ cls := "java/lang/StringLatin1", name := "toBytes", desc := "(C)[B" } : Jvm.MethodName) jdk_43_method_46_code (1 : Nat) (Option.some (Jvm.ClassFile.FieldType.array Jvm.ClassFile.FieldType.byte)), Jvm.Cond.code ({ cls := "java/lang/String", name := "<init>", desc := "([BB)V" } : Jvm.MethodName) jdk_42_method_151_code (3 : Nat) (Option.none : Option Jvm.ClassFile.FieldType)]
set_option maxRecDepth 65536 in
theorem codes_eq : words1.filter isCode = codes1 := rfl
theorem w_codes : ∀ c ∈ words1.filter isCode, c.before args0 about1 = true := by
  rw [codes_eq]
  intro c hc
  simp only [codes1, List.mem_cons, List.not_mem_nil, or_false] at hc
  rcases hc with rfl | rfl | rfl | rfl | rfl | rfl | rfl | rfl | rfl | rfl | rfl | rfl | rfl | rfl | rfl | rfl | rfl | rfl
  · exact w_c0
  · exact w_c1
  · exact w_c2
  · exact w_c3
  · exact w_c4
  · exact w_c5
  · exact w_c6
  · exact w_c7
  · exact w_c8
  · exact w_c9
  · exact w_c10
  · exact w_c11
  · exact w_c12
  · exact w_c13
  · exact w_c14
  · exact w_c15
  · exact w_c16
  · exact w_c17
set_option maxRecDepth 65536 in
theorem w_t1 : (words1.take 24).all (fun c => isCode c || c.before args0 about1) = true := by decide +kernel
set_option maxRecDepth 65536 in
theorem w_t2 : ((words1.drop 24).take 24).all (fun c => isCode c || c.before args0 about1) = true := by decide +kernel
set_option maxRecDepth 65536 in
theorem w_t3 : (((words1.drop 24).drop 24).take 24).all (fun c => isCode c || c.before args0 about1) = true := by decide +kernel
set_option maxRecDepth 65536 in
theorem w_t4 : ((((words1.drop 24).drop 24).drop 24).take 24).all (fun c => isCode c || c.before args0 about1) = true := by decide +kernel
set_option maxRecDepth 65536 in
theorem w_t5 : ((((words1.drop 24).drop 24).drop 24).drop 24).all (fun c => isCode c || c.before args0 about1) = true := by decide +kernel
theorem w_tables : (allAtoms (Jvm.Cond.code x code maxLocals ret :: tables_1)).before args0 about1 = true := by
  rw [allAtoms_all]
  show words1.all (fun c => c.before args0 about1) = true
  refine all_split ?_ w_codes
  rw [← List.take_append_drop 24 words1, List.all_append, w_t1, ← List.take_append_drop 24 (words1.drop 24), List.all_append, w_t2, ← List.take_append_drop 24 ((words1.drop 24).drop 24), List.all_append, w_t3, ← List.take_append_drop 24 (((words1.drop 24).drop 24).drop 24), List.all_append, w_t4, w_t5]
  rfl
set_option maxRecDepth 65536 in
theorem w_rest : rest_1_c.before args0 about1 = true := by decide +kernel
set_option maxRecDepth 65536 in
theorem w_case : (Jvm.Cond.and given_1 narrow_1).before args0 about1 = true := by decide +kernel
theorem w_applies : (headSpec (Jvm.Cond.code x code maxLocals ret :: tables_1) room_1).applies x e0.platform about1 = true :=
  (Spec.applies_iff w_frames).mpr ⟨w_running, w_runnable, w_alone, w_named, w_hears, w_ripe, w_room, w_tables⟩
theorem atStart : AtStart classFile x code maxLocals ret World_1 tables_1 room_1 Calls_1 rest_1 Pre_1 launch0 p0 e0 about1 theMethod args0 below0 :=
  ⟨lists_1, trivial, launch0.admits_env _ _ _, launch0.least_env, fairChoices_fair.cas, fairChoices_fair.clock, w_frames, w_args, w_heap, w_applies, trivial, w_rest, w_case⟩
end start1
theorem witness_1 : WitnessClaimed_1 := ⟨start1.p0, start1.e0, start1.about1, start1.theMethod, start1.args0, start1.below0, start1.atStart⟩
end Jvm.Pilot.@@N@@
