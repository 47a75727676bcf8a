import JvmDerived
import JvmDerived.Pilot.@@N@@Statement
import JvmDerived.Pilot.@@N@@Code
set_option linter.unusedVariables false
set_option linter.unusedSimpArgs false
@@BLOCK:NumsL.lean.txt@@
namespace Jvm.RoadKit
open Sem ClassFile Op Lib Jvm.Stand Jvm.Free Jvm.LawKit
section New
variable {p : Program} {l : Launch} {e : Env} {R : Room} {s : State} {m : MethodId} {args : Array Value} {below : List Frame} {meth : Method} {c : Code} {T : State} {locs : List Loc} {cells slots : Nat}
theorem retI (X : Stand p l e R s m args below meth c T locs cells slots) (hx : p.tables.exec = Jvm.exec) {pc : Nat} {Ls : Array Slot} {z : Int32} {rest : List Value} (hret : meth.sig.returnType = some .int) (hd : decode c.code pc = .ok (.ireturn, 1)) {fs : List Frame}
    (hl : ∀ (f : JFrame) (acts : List Action), f.method = m → f.locked = none → f.entered = [] → (doReturn e (T.setTop f) acts (some (.int z))).1 = T.setFrames fs) : Steps p.tables e below (T.setTop (mkF m pc Ls (.int z :: rest))) (T.setFrames fs) := by
  have hm' : T.vm.method? m = some meth := X.method'
  have hn : narrow .int (.int z) = .int z := rfl
  show Steps p.tables e below (T.setTop { method := m, pc := pc, locals := Ls, stack := _ :: rest, locked := none }) _
  jvm_step X.here [X.here.top, hx, hd, hm', hret, hn]
  first | (intro acts; rw [hl _ acts rfl rfl rfl]) | rw [hl _ _ rfl rfl rfl]
  exact Steps.refl _
end New
end Jvm.RoadKit
/- laws to paste: Road.backV, Road.eqW, Road.codOf (cut by pick.py; bodies as the Statement names them) -/
namespace Jvm.Pilot.@@N@@
namespace StrChars
open Jvm Sem ClassFile Op Lib Jvm.Stand Jvm.Free.XT Jvm.Free.ALB Jvm.Free.JM Jvm.Free
open Jvm.Lib.Cold (StaticIs)
/-- a char array whose places are chars -/
def Ch (a : Addr) (A : Cell) (U : State) : Prop := Arr .char a A U ∧ Typed .char A
theorem Ch.mv {a : Addr} {A : Cell} {U U' : State} (h : Ch a A U) (hal : U.vm.Alike U'.vm) (hh : U'.heap = U.heap) : Ch a A U' := ⟨h.1.mv hal hh, h.2⟩
theorem Ch.keep {a : Addr} {A : Cell} {U U' : State} (h : Ch a A U) (hal : U.vm.Alike U'.vm) (hk : U'.heap[a]? = some A) : Ch a A U' := ⟨h.1.keep hal hk, h.2⟩
/-- what place i of a char[]'s cell holds -/
def cv (A : Cell) (i : Nat) : Int32 := match A.slots[i]? with | some (.int x) => x | _ => 0
theorem Ch.get {a : Addr} {A : Cell} {U : State} (h : Ch a A U) {i : Nat} (hi : i < A.slots.size) : A.slots[i]? = some (.int (cv A i)) := by
  have e := Array.getElem?_eq_getElem hi
  have f := h.2 i _ e
  unfold cv; rw [e]
  generalize A.slots[i] = v at f
  cases v <;> simp [fits] at f ⊢
/-- the byte that i2b leaves of a char -/
def lo8 (x : Int32) : Int32 := x.toInt8.toInt32
theorem fits_lo8 (y : Int32) : fits .byte (.int (lo8 y)) = true := by
  have h1 := y.toInt8.le_toInt
  have h2 := y.toInt8.toInt_lt
  simp only [lo8, fits, Bool.and_eq_true, decide_eq_true_eq, Int32.le_iff_toInt_le, Int8.toInt_toInt32, show (-128 : Int32).toInt = -128 from by decide, show (127 : Int32).toInt = 127 from by decide]
  omega
/-- A' is A but that each place j of lo .. hi - 1 holds f j -/
def Laid (A A' : Cell) (lo hi : Nat) (f : Nat → Value) : Prop := A'.cls = A.cls ∧ A'.vm = A.vm ∧ A'.slots.size = A.slots.size ∧ ∀ i, A'.slots[i]? = if lo ≤ i ∧ i < hi then some (f i) else A.slots[i]?
theorem Laid.zero (A : Cell) (lo : Nat) (f : Nat → Value) : Laid A A lo (lo + 0) f := ⟨rfl, rfl, rfl, fun i => by rw [if_neg (by omega)]⟩
theorem Laid.step {A Ak : Cell} {lo k : Nat} {f : Nat → Value} {v : Value} (h : Laid A Ak lo k f) (hlo : lo ≤ k) (hk : k < Ak.slots.size) (hv : v = f k) : Laid A (Ak.setSlot k v) lo (k + 1) f := by
  refine ⟨h.1, h.2.1, by simpa [Cell.setSlot] using h.2.2.1, fun i => ?_⟩
  by_cases e : k = i
  · subst e; rw [Cell.slots_setSlot_self v hk, if_pos (by omega), hv]
  · rw [Cell.slots_setSlot_ne v e, h.2.2.2 i]
    by_cases q : lo ≤ i ∧ i < k
    · rw [if_pos q, if_pos (by omega)]
    · rw [if_neg q, if_neg (by omega)]
def U16 : String := "java/lang/StringUTF16"
namespace Cmp5
def yN : MethodName := ⟨"java/lang/StringUTF16", "compress", "([CI[BII)I"⟩
abbrev yB : ByteArray := jdk_52_method_21_code
theorem d0 : decode yB 0 = .ok (.iconst 0, 1) := by decide +kernel
theorem d1 : decode yB 1 = .ok (.istore 5, 2) := by decide +kernel
theorem d3 : decode yB 3 = .ok (.iload 5, 2) := by decide +kernel
theorem d5 : decode yB 5 = .ok (.iload 4, 2) := by decide +kernel
theorem d7 : decode yB 7 = .ok (.if_icmp (.ge) 37, 3) := by decide +kernel
theorem d10 : decode yB 10 = .ok (.aload_n 0, 1) := by decide +kernel
theorem d11 : decode yB 11 = .ok (.iload_n 1, 1) := by decide +kernel
theorem d12 : decode yB 12 = .ok (.caload, 1) := by decide +kernel
theorem d13 : decode yB 13 = .ok (.istore 6, 2) := by decide +kernel
theorem d15 : decode yB 15 = .ok (.iload 6, 2) := by decide +kernel
theorem d17 : decode yB 17 = .ok (.sipush 255, 3) := by decide +kernel
theorem d20 : decode yB 20 = .ok (.if_icmp (.le) 6, 3) := by decide +kernel
theorem d26 : decode yB 26 = .ok (.aload_n 2, 1) := by decide +kernel
theorem d27 : decode yB 27 = .ok (.iload_n 3, 1) := by decide +kernel
theorem d28 : decode yB 28 = .ok (.iload 6, 2) := by decide +kernel
theorem d30 : decode yB 30 = .ok (.i2b, 1) := by decide +kernel
theorem d31 : decode yB 31 = .ok (.bastore, 1) := by decide +kernel
theorem d32 : decode yB 32 = .ok (.iinc 1 1, 3) := by decide +kernel
theorem d35 : decode yB 35 = .ok (.iinc 3 1, 3) := by decide +kernel
theorem d38 : decode yB 38 = .ok (.iinc 5 1, 3) := by decide +kernel
theorem d41 : decode yB 41 = .ok (.goto (-38), 3) := by decide +kernel
theorem d44 : decode yB 44 = .ok (.iload 4, 2) := by decide +kernel
theorem d46 : decode yB 46 = .ok (.ireturn, 1) := by decide +kernel
def site : List Cond := []
def tab : Cond := tabOf yN yB 7 (some .int) site
def P (b : Addr) (A : Cell) (d : Addr) (B : Cell) (o q len : Nat) (args : Array Value) (s : State) : Prop := args = #[.ref b, .int (Int32.ofNat o), .ref d, .int (Int32.ofNat q), .int (Int32.ofNat len)] ∧ Ch b A s ∧ Arr .byte d B s ∧ b ≠ d ∧ o + len ≤ A.slots.size ∧ q + len ≤ B.slots.size ∧ ∀ i, i < len → ¬ 255 < cv A (o + i)
def E (b : Addr) (A : Cell) (d : Addr) (B : Cell) (o q len : Nat) (r : Option Value) (s u : State) : Prop := r = some (.int (Int32.ofNat len)) ∧ ∃ B', Put d B' s u ∧ Laid B B' q (q + len) (fun j => Value.int (lo8 (cv A (o + (j - q)))))
/-- no char of the range above 255: len; the places written hold each char's low byte -/
theorem law (l : Launch) (b : Addr) (A : Cell) (d : Addr) (B : Cell) (o q len : Nat) : Law l yN 5 5 0 0 yB 7 (some .int) site (P b A d B o q len) (E b A d B o q len) (copyLocs d q len) 0 0 := by
  refine Law.of_walk (plainFor_of_name (by decide +kernel)) (by decide +kernel) (by decide +kernel) (by decide) (fun _ _ h => by rw [h.1]; rfl) (fun _ U U' hal hh h => ⟨h.1, h.2.1.mv hal hh, h.2.2.1.mv hal hh, h.2.2.2⟩) (fun r U U' V V' h1 hal h2 h => ⟨h.1, h.2.elim fun B' q => ⟨B', q.1.mv h1 h2, q.2⟩⟩) ?_
  intro p e s m args below meth c s₁ X0 hexec hbytes hml hret hlk hnm hown hh0 W hP
  obtain ⟨rfl, hA, hB, hne, l1, l2, hp⟩ := hP
  have c1 : Steps p.tables e below (s₁.setTop (entryFrame m #[.ref b, .int (Int32.ofNat o), .ref d, .int (Int32.ofNat q), .int (Int32.ofNat len)] 7)) (s₁.setTop (mkF m 0 #[.val (.ref b), .val (.int (Int32.ofNat o)), .val (.ref d), .val (.int (Int32.ofNat q)), .val (.int (Int32.ofNat len)), .unset, .unset] [])) := entry rfl
  have hA0 := hA.1.mv X0.warmed.alike hh0
  have hB0 := hB.mv X0.warmed.alike hh0
  have a31 := hA.1.2.2.2
  have c2 : Steps p.tables e below (s₁.setTop (entryFrame m #[.ref b, .int (Int32.ofNat o), .ref d, .int (Int32.ofNat q), .int (Int32.ofNat len)] 7)) (s₁.setTop (mkF m 3 #[.val (.ref b), .val (.int (Int32.ofNat o)), .val (.ref d), .val (.int (Int32.ofNat q)), .val (.int (Int32.ofNat len)), .val (.int 0), .unset] [])) := c1.trans (by
    refine iconstV X0.here hexec rfl 0 (hb hbytes d0) (by decide) ?_
    refine XS.istore X0.here hexec rfl (hb hbytes d1) rfl rfl ?_
    exact Steps.refl _)
  have loop : ∀ (r i : Nat), i + r = len → ∀ (z : Slot), (z = .unset ∨ ∃ w, z = .val w ∧ w.category = 1) → ∀ (Tl : State) (Bk : Cell), Stand p l e { frames := 0, locals := 0, cells := 0, slots := 0 } s m #[.ref b, .int (Int32.ofNat o), .ref d, .int (Int32.ofNat q), .int (Int32.ofNat len)] below meth c Tl ([] ++ copyLocs d q i) 0 0 → Put d Bk s₁ Tl → Laid B Bk q (q + i) (fun j => Value.int (lo8 (cv A (o + (j - q))))) →
      Steps p.tables e below (s₁.setTop (entryFrame m #[.ref b, .int (Int32.ofNat o), .ref d, .int (Int32.ofNat q), .int (Int32.ofNat len)] 7)) (Tl.setTop (mkF m 3 #[.val (.ref b), .val (.int (Int32.ofNat (o + i))), .val (.ref d), .val (.int (Int32.ofNat (q + i))), .val (.int (Int32.ofNat len)), .val (.int (Int32.ofNat i)), z] [])) → ∃ (T' : State) (B' : Cell) (z' : Slot), Stand p l e { frames := 0, locals := 0, cells := 0, slots := 0 } s m #[.ref b, .int (Int32.ofNat o), .ref d, .int (Int32.ofNat q), .int (Int32.ofNat len)] below meth c T' ([] ++ copyLocs d q len) 0 0 ∧ Put d B' s₁ T' ∧ Laid B B' q (q + len) (fun j => Value.int (lo8 (cv A (o + (j - q))))) ∧
      Steps p.tables e below (s₁.setTop (entryFrame m #[.ref b, .int (Int32.ofNat o), .ref d, .int (Int32.ofNat q), .int (Int32.ofNat len)] 7)) (T'.setTop (mkF m 3 #[.val (.ref b), .val (.int (Int32.ofNat (o + len))), .val (.ref d), .val (.int (Int32.ofNat (q + len))), .val (.int (Int32.ofNat len)), .val (.int (Int32.ofNat len)), z'] [])) := by
    intro r
    induction r with
    | zero =>
      intro i hi z hz Tl Bk Xl pl fl cl
      have hil : i = len := by omega
      rw [hil] at Xl fl cl
      exact ⟨Tl, Bk, z, Xl, pl, fl, cl⟩
    | succ r ih =>
      intro i hi z hz Tl Bk Xl pl fl cl
      have all := X0.warmed.alike.symm.trans Xl.warmed.alike
      have hAl := hA0.keep all (pl.other hne hA0.1)
      have hBk := hB0.like all pl.1 fl.1 fl.2.1 fl.2.2.1
      have hlt : q + i < Bk.slots.size := by rw [fl.2.2.1]; omega
      have c3 : Steps p.tables e below (s₁.setTop (entryFrame m #[.ref b, .int (Int32.ofNat o), .ref d, .int (Int32.ofNat q), .int (Int32.ofNat len)] 7)) (Tl.setTop (mkF m 12 #[.val (.ref b), .val (.int (Int32.ofNat (o + i))), .val (.ref d), .val (.int (Int32.ofNat (q + i))), .val (.int (Int32.ofNat len)), .val (.int (Int32.ofNat i)), z] [.int (Int32.ofNat (o + i)), .ref b])) := cl.trans (by
        refine XS.iload Xl.here hexec rfl (hb hbytes d3) rfl ?_
        refine XS.iload Xl.here hexec rfl (hb hbytes d5) rfl ?_
        refine XS.icmpNo Xl.here hexec rfl (hb hbytes d7) rfl (ii_ge_f (lt32 (by omega) (by omega))) ?_
        refine XS.aloadN Xl.here hexec rfl (hb hbytes d10) rfl rfl ?_
        refine XS.iloadN Xl.here hexec rfl (hb hbytes d11) rfl ?_
        exact Steps.refl _)
      have c4 : Steps p.tables e below (s₁.setTop (entryFrame m #[.ref b, .int (Int32.ofNat o), .ref d, .int (Int32.ofNat q), .int (Int32.ofNat len)] 7)) (Tl.setTop (mkF m 13 #[.val (.ref b), .val (.int (Int32.ofNat (o + i))), .val (.ref d), .val (.int (Int32.ofNat (q + i))), .val (.int (Int32.ofNat len)), .val (.int (Int32.ofNat i)), z] [.int (cv A (o + i))])) := c3.trans (by
        refine Xl.aget hexec hAl rfl (hA.get (i := o + i) (by omega)) rfl rfl (hb hbytes d12) ?_
        exact Steps.refl _)
      have c5 : Steps p.tables e below (s₁.setTop (entryFrame m #[.ref b, .int (Int32.ofNat o), .ref d, .int (Int32.ofNat q), .int (Int32.ofNat len)] 7)) (Tl.setTop (mkF m 15 #[.val (.ref b), .val (.int (Int32.ofNat (o + i))), .val (.ref d), .val (.int (Int32.ofNat (q + i))), .val (.int (Int32.ofNat len)), .val (.int (Int32.ofNat i)), .val (.int (cv A (o + i)))] [])) := c4.trans (by
        refine XS.istoreS Xl.here hexec rfl (hb hbytes d13) rfl rfl hz ?_
        exact Steps.refl _)
      have c6 : Steps p.tables e below (s₁.setTop (entryFrame m #[.ref b, .int (Int32.ofNat o), .ref d, .int (Int32.ofNat q), .int (Int32.ofNat len)] 7)) (Tl.setTop (mkF m 31 #[.val (.ref b), .val (.int (Int32.ofNat (o + i))), .val (.ref d), .val (.int (Int32.ofNat (q + i))), .val (.int (Int32.ofNat len)), .val (.int (Int32.ofNat i)), .val (.int (cv A (o + i)))] [.int (lo8 (cv A (o + i))), .int (Int32.ofNat (q + i)), .ref d])) := c5.trans (by
        refine XS.iload Xl.here hexec rfl (hb hbytes d15) rfl ?_
        refine sipushV Xl.here hexec rfl 255 (hb hbytes d17) (by decide) ?_
        refine XS.icmpYes Xl.here hexec rfl (pc0 := 20) rfl (hb hbytes d20) rfl (ii_le_t (hp i (by omega))) (by decide) rfl ?_
        refine XS.aloadN Xl.here hexec rfl (hb hbytes d26) rfl rfl ?_
        refine XS.iloadN Xl.here hexec rfl (hb hbytes d27) rfl ?_
        refine XS.iload Xl.here hexec rfl (hb hbytes d28) rfl ?_
        refine i2b Xl.here hexec rfl (hb hbytes d30) rfl ?_
        exact Steps.refl _)
      obtain ⟨T7, X7, p7, st7⟩ := Xl.aput hexec hBk rfl hlt rfl (fits_lo8 (cv A (o + i))) (g := (mkF m 31 #[.val (.ref b), .val (.int (Int32.ofNat (o + i))), .val (.ref d), .val (.int (Int32.ofNat (q + i))), .val (.int (Int32.ofNat len)), .val (.int (Int32.ofNat i)), .val (.int (cv A (o + i)))] [.int (lo8 (cv A (o + i))), .int (Int32.ofNat (q + i)), .ref d])) rfl (rest := []) rfl (hb hbytes d31)
      have c8 : Steps p.tables e below (s₁.setTop (entryFrame m #[.ref b, .int (Int32.ofNat o), .ref d, .int (Int32.ofNat q), .int (Int32.ofNat len)] 7)) (T7.setTop (mkF m 32 #[.val (.ref b), .val (.int (Int32.ofNat (o + i))), .val (.ref d), .val (.int (Int32.ofNat (q + i))), .val (.int (Int32.ofNat len)), .val (.int (Int32.ofNat i)), .val (.int (cv A (o + i)))] [])) := c6.trans (st7 _ (Steps.refl _))
      have c9 : Steps p.tables e below (s₁.setTop (entryFrame m #[.ref b, .int (Int32.ofNat o), .ref d, .int (Int32.ofNat q), .int (Int32.ofNat len)] 7)) (T7.setTop (mkF m 3 #[.val (.ref b), .val (.int (Int32.ofNat (o + i) + 1)), .val (.ref d), .val (.int (Int32.ofNat (q + i) + 1)), .val (.int (Int32.ofNat len)), .val (.int (Int32.ofNat i + 1)), .val (.int (cv A (o + i)))] [])) := c8.trans (by
        refine iincV X7.here hexec rfl 1 (hb hbytes d32) (by decide) rfl rfl ?_
        refine iincV X7.here hexec rfl 1 (hb hbytes d35) (by decide) rfl rfl ?_
        refine iincV X7.here hexec rfl 1 (hb hbytes d38) (by decide) rfl rfl ?_
        refine XS.goto X7.here hexec rfl (pc0 := 41) rfl (hb hbytes d41) (by decide) rfl ?_
        exact Steps.refl _)
      have c10 : Steps p.tables e below (s₁.setTop (entryFrame m #[.ref b, .int (Int32.ofNat o), .ref d, .int (Int32.ofNat q), .int (Int32.ofNat len)] 7)) (T7.setTop (mkF m 3 #[.val (.ref b), .val (.int (Int32.ofNat (o + (i + 1)))), .val (.ref d), .val (.int (Int32.ofNat (q + (i + 1)))), .val (.int (Int32.ofNat len)), .val (.int (Int32.ofNat (i + 1))), .val (.int (cv A (o + i)))] [])) := by
        have := c9
        rw [succ32, succ32, succ32] at this
        exact this
      exact ih (i + 1) (by omega) _ (Or.inr ⟨_, rfl, rfl⟩) T7 _ (by rw [copyLocs_step, ← List.append_assoc]; exact X7) (pl.trans p7) (fl.step (by omega) hlt (by simp)) c10
  obtain ⟨T9, B9, z9, X9, p9, f9, g9⟩ := loop len 0 (by omega) .unset (Or.inl rfl) s₁ B (by simpa [copyLocs] using X0) ⟨hB0.1, fun _ _ => rfl, rfl⟩ (Laid.zero _ _ _) c2
  have c11 : Steps p.tables e below (s₁.setTop (entryFrame m #[.ref b, .int (Int32.ofNat o), .ref d, .int (Int32.ofNat q), .int (Int32.ofNat len)] 7)) (T9.setTop (mkF m 46 #[.val (.ref b), .val (.int (Int32.ofNat (o + len))), .val (.ref d), .val (.int (Int32.ofNat (q + len))), .val (.int (Int32.ofNat len)), .val (.int (Int32.ofNat len)), z9] [.int (Int32.ofNat len)])) := g9.trans (by
    refine XS.iload X9.here hexec rfl (hb hbytes d3) rfl ?_
    refine XS.iload X9.here hexec rfl (hb hbytes d5) rfl ?_
    refine XS.icmpYes X9.here hexec rfl (pc0 := 7) rfl (hb hbytes d7) rfl (ii_ge_t (nlt32 (by omega) (Nat.le_refl _))) (by decide) rfl ?_
    refine XS.iload X9.here hexec rfl (hb hbytes d44) rfl ?_
    exact Steps.refl _)
  exact ⟨T9, some (.int (Int32.ofNat len)), _, _, _, X9, by simp, rfl, rfl, (fun h => by cases h), ⟨rfl, B9, p9.from hh0, f9⟩, fun fs hl => c11.trans (X9.ireturnOut hexec hret rfl (Or.inl rfl) (hb hbytes d46) hl)⟩
end Cmp5
namespace Cmp3
def yN : MethodName := ⟨"java/lang/StringUTF16", "compress", "([CII)[B"⟩
abbrev yB : ByteArray := jdk_52_method_16_code
theorem d0 : decode yB 0 = .ok (.iload_n 2, 1) := by decide +kernel
theorem d1 : decode yB 1 = .ok (.newarray .byte, 2) := by decide +kernel
theorem d3 : decode yB 3 = .ok (.astore_n 3, 1) := by decide +kernel
theorem d4 : decode yB 4 = .ok (.aload_n 0, 1) := by decide +kernel
theorem d5 : decode yB 5 = .ok (.iload_n 1, 1) := by decide +kernel
theorem d6 : decode yB 6 = .ok (.aload_n 3, 1) := by decide +kernel
theorem d7 : decode yB 7 = .ok (.iconst 0, 1) := by decide +kernel
theorem d8 : decode yB 8 = .ok (.iload_n 2, 1) := by decide +kernel
theorem d9 : decode yB 9 = .ok (.invokestatic 115, 3) := by decide +kernel
theorem d12 : decode yB 12 = .ok (.istore 4, 2) := by decide +kernel
theorem d14 : decode yB 14 = .ok (.iload 4, 2) := by decide +kernel
theorem d16 : decode yB 16 = .ok (.iload_n 2, 1) := by decide +kernel
theorem d17 : decode yB 17 = .ok (.if_icmp (.eq) 40, 3) := by decide +kernel
theorem d57 : decode yB 57 = .ok (.aload_n 3, 1) := by decide +kernel
theorem d58 : decode yB 58 = .ok (.areturn, 1) := by decide +kernel
def site : List Cond := [.arrayClass .byte, Cmp5.tab] ++ staticW U16 115 Cmp5.yN
def tab : Cond := tabOf yN yB 6 (some (.array .byte)) site
def P (b : Addr) (A : Cell) (o len : Nat) (args : Array Value) (s : State) : Prop := args = #[.ref b, .int (Int32.ofNat o), .int (Int32.ofNat len)] ∧ Ch b A s ∧ o + len ≤ A.slots.size ∧ len ≤ 536870912 ∧ ∀ i, i < len → ¬ 255 < cv A (o + i)
def E (b : Addr) (A : Cell) (o len : Nat) (r : Option Value) (s u : State) : Prop := NewArr .byte "[B" len (fun j => .int (lo8 (cv A (o + j)))) r s u ∧ u.heap.size = s.heap.size + 1
/-- no char of the range above 255: a new byte[] of their low bytes -/
theorem law (l : Launch) (b : Addr) (A : Cell) (o len : Nat) : Law l yN 3 3 1 18 yB 6 (some (.array .byte)) site (P b A o len) (E b A o len) [] 1 len := by
  refine Law.of_walk (plainFor_of_name (by decide +kernel)) (by decide +kernel) (by decide +kernel) (by decide) (fun _ _ h => by rw [h.1]; rfl) (fun _ U U' hal hh h => ⟨h.1, h.2.1.mv hal hh, h.2.2⟩) (fun r U U' V V' h1 hal h2 h => ⟨NewArr.mv r U U' V V' h1 hal h2 h.1, by rw [h1, h2]; exact h.2⟩) ?_
  intro p e s m args below meth c s₁ X0 hexec hbytes hml hret hlk hnm hown hh0 W hP
  obtain ⟨rfl, hA, l1, l2, hp⟩ := hP
  have a31 := hA.1.2.2.2
  have c1 : Steps p.tables e below (s₁.setTop (entryFrame m #[.ref b, .int (Int32.ofNat o), .int (Int32.ofNat len)] 6)) (s₁.setTop (mkF m 0 #[.val (.ref b), .val (.int (Int32.ofNat o)), .val (.int (Int32.ofNat len)), .unset, .unset, .unset] [])) := entry rfl
  have c2 : Steps p.tables e below (s₁.setTop (entryFrame m #[.ref b, .int (Int32.ofNat o), .int (Int32.ofNat len)] 6)) (s₁.setTop (mkF m 1 #[.val (.ref b), .val (.int (Int32.ofNat o)), .val (.int (Int32.ofNat len)), .unset, .unset, .unset] [.int (Int32.ofNat len)])) := c1.trans (by
    refine XS.iloadN X0.here hexec rfl (hb hbytes d0) rfl ?_
    exact Steps.refl _)
  obtain ⟨T3, B3, X3, ba3, bs3, bv3, bh3, bf3, st3⟩ := X0.anew hexec (atype := .byte) (wk W (.arrayClass .byte)) rfl (by show len * 1 ≤ _; omega) (by omega) (g := (mkF m 1 #[.val (.ref b), .val (.int (Int32.ofNat o)), .val (.int (Int32.ofNat len)), .unset, .unset, .unset] [.int (Int32.ofNat len)])) rfl (hb hbytes d1) (rest := []) rfl (Nat.le_refl _) (by show 0 + len ≤ len; omega)
  rw [hh0] at ba3 st3
  have kp3 : XT.Kept s T3 := (XT.Kept.of_eq hh0).push bh3
  have hA3 := hA.keep X3.warmed.alike (kp3 _ _ hA.1.1)
  have hne : b ≠ s.heap.size := hA.1.ne
  have c4 : Steps p.tables e below (s₁.setTop (entryFrame m #[.ref b, .int (Int32.ofNat o), .int (Int32.ofNat len)] 6)) (T3.setTop (mkF m 3 #[.val (.ref b), .val (.int (Int32.ofNat o)), .val (.int (Int32.ofNat len)), .unset, .unset, .unset] [.ref s.heap.size])) := c2.trans (st3 _ (Steps.refl _))
  have c5 : Steps p.tables e below (s₁.setTop (entryFrame m #[.ref b, .int (Int32.ofNat o), .int (Int32.ofNat len)] 6)) (T3.setTop (mkF m 9 #[.val (.ref b), .val (.int (Int32.ofNat o)), .val (.int (Int32.ofNat len)), .val (.ref s.heap.size), .unset, .unset] [.int (Int32.ofNat len), .int 0, .ref s.heap.size, .int (Int32.ofNat o), .ref b])) := c4.trans (by
    refine XS.astoreN X3.here hexec rfl (hb hbytes d3) rfl rfl rfl ?_
    refine XS.aloadN X3.here hexec rfl (hb hbytes d4) rfl rfl ?_
    refine XS.iloadN X3.here hexec rfl (hb hbytes d5) rfl ?_
    refine XS.aloadN X3.here hexec rfl (hb hbytes d6) rfl rfl ?_
    refine iconstV X3.here hexec rfl 0 (hb hbytes d7) (by decide) ?_
    refine XS.iloadN X3.here hexec rfl (hb hbytes d8) rfl ?_
    exact Steps.refl _)
  obtain ⟨v6, T6, X6, E6, g6⟩ := X3.callS hexec (Cmp5.law l b A s.heap.size B3 o 0 len) hown (wks W (staticW U16 115 Cmp5.yN)) (wk W Cmp5.tab) (W := 0) (Nat.le_of_ble_eq_true rfl) (Nat.le_of_ble_eq_true rfl) (Nat.le_refl _) (by show 0 + len + 0 ≤ len; omega) (g := (mkF m 9 #[.val (.ref b), .val (.int (Int32.ofNat o)), .val (.int (Int32.ofNat len)), .val (.ref s.heap.size), .unset, .unset] [.int (Int32.ofNat len), .int (Int32.ofNat 0), .ref s.heap.size, .int (Int32.ofNat o), .ref b])) rfl (by rw [hml]; rfl) c5 (argsL := [.ref b, .int (Int32.ofNat o), .ref s.heap.size, .int (Int32.ofNat 0), .int (Int32.ofNat len)]) (rest := []) rfl rfl (by show 2 * 0 + 0 ≤ _; decide) (hb hbytes d9) (⟨rfl, hA3, ba3, hne, l1, by rw [bs3]; simp, hp⟩)
  obtain ⟨rfl, B6, p6, f6⟩ := E6
  have c7 : Steps p.tables e below (s₁.setTop (entryFrame m #[.ref b, .int (Int32.ofNat o), .int (Int32.ofNat len)] 6)) (T6.setTop (mkF m 12 #[.val (.ref b), .val (.int (Int32.ofNat o)), .val (.int (Int32.ofNat len)), .val (.ref s.heap.size), .unset, .unset] [.int (Int32.ofNat len)])) := g6
  have c8 : Steps p.tables e below (s₁.setTop (entryFrame m #[.ref b, .int (Int32.ofNat o), .int (Int32.ofNat len)] 6)) (T6.setTop (mkF m 58 #[.val (.ref b), .val (.int (Int32.ofNat o)), .val (.int (Int32.ofNat len)), .val (.ref s.heap.size), .val (.int (Int32.ofNat len)), .unset] [.ref s.heap.size])) := c7.trans (by
    refine XS.istore X6.here hexec rfl (hb hbytes d12) rfl rfl ?_
    refine XS.iload X6.here hexec rfl (hb hbytes d14) rfl ?_
    refine XS.iloadN X6.here hexec rfl (hb hbytes d16) rfl ?_
    refine XS.icmpYes X6.here hexec rfl (pc0 := 17) rfl (hb hbytes d17) rfl (ii_eq_t rfl) (by decide) rfl ?_
    refine XS.aloadN X6.here hexec rfl (hb hbytes d57) rfl rfl ?_
    exact Steps.refl _)
  have X8 := X6.wide (L' := []) (cells' := 1) (slots' := len) (fun x hx hlt => by
    simp only [List.nil_append, copyLocs, List.mem_map, List.mem_range] at hx
    obtain ⟨i, -, rfl⟩ := hx
    exact absurd hlt (Nat.lt_irrefl _)) (Nat.le_refl _) (by omega)
  exact ⟨T6, some (.ref s.heap.size), _, _, _, X8, rfl, rfl, rfl, (fun h => by cases h), ⟨⟨rfl, B6, ba3.like (X3.warmed.alike.symm.trans X6.warmed.alike) p6.1 f6.1 f6.2.1 f6.2.2.1, f6.2.1.trans bv3, by rw [X6.warmed.alike.findClass, f6.1]; exact bf3, by rw [f6.2.2.1, bs3]; simp, fun j hj => by rw [f6.2.2.2 j, if_pos (by omega)]; rfl, kp3.put p6 (Nat.le_refl _)⟩, by rw [p6.2.2, bh3, hh0]; simp⟩, fun fs hl => c8.trans (X8.areturnOut hexec rfl hret rfl (hb hbytes d58) hl)⟩
end Cmp3
namespace CodL
def yN : MethodName := ⟨"java/lang/StringUTF16", "coderFromArrayLen", "([BI)B"⟩
abbrev yB : ByteArray := jdk_52_method_15_code
theorem d0 : decode yB 0 = .ok (.iload_n 1, 1) := by decide +kernel
theorem d1 : decode yB 1 = .ok (.aload_n 0, 1) := by decide +kernel
theorem d2 : decode yB 2 = .ok (.arraylength, 1) := by decide +kernel
theorem d3 : decode yB 3 = .ok (.isub, 1) := by decide +kernel
theorem d4 : decode yB 4 = .ok (.bipush 31, 2) := by decide +kernel
theorem d6 : decode yB 6 = .ok (.iushr, 1) := by decide +kernel
theorem d7 : decode yB 7 = .ok (.i2b, 1) := by decide +kernel
theorem d8 : decode yB 8 = .ok (.ireturn, 1) := by decide +kernel
def site : List Cond := []
def tab : Cond := tabOf yN yB 2 (some .byte) site
def P (d : Addr) (B : Cell) (args : Array Value) (s : State) : Prop := args = #[.ref d, .int (Int32.ofNat B.slots.size)] ∧ Arr .byte d B s
def E (r : Option Value) (s u : State) : Prop := XT.PureE (some (.int 0)) r s u
/-- an array as long as the number of chars: LATIN1 -/
theorem law (l : Launch) (d : Addr) (B : Cell) : Law l yN 2 2 0 0 yB 2 (some .byte) site (P d B) E [] 0 0 := by
  refine Law.of_walk (plainFor_of_name (by decide +kernel)) (by decide +kernel) (by decide +kernel) (by decide) (fun _ _ h => by rw [h.1]; rfl) (fun _ U U' hal hh h => ⟨h.1, h.2.mv hal hh⟩) (fun r U U' V V' h1 hal h2 h => XT.PureE.mv r U U' V V' h1 hal h2 h) ?_
  intro p e s m args below meth c s₁ X0 hexec hbytes hml hret hlk hnm hown hh0 W hP
  obtain ⟨rfl, hB⟩ := hP
  have hB0 := hB.mv X0.warmed.alike hh0
  have c1 : Steps p.tables e below (s₁.setTop (entryFrame m #[.ref d, .int (Int32.ofNat B.slots.size)] 2)) (s₁.setTop (mkF m 0 #[.val (.ref d), .val (.int (Int32.ofNat B.slots.size))] [])) := entry rfl
  have c2 : Steps p.tables e below (s₁.setTop (entryFrame m #[.ref d, .int (Int32.ofNat B.slots.size)] 2)) (s₁.setTop (mkF m 2 #[.val (.ref d), .val (.int (Int32.ofNat B.slots.size))] [.ref d, .int (Int32.ofNat B.slots.size)])) := c1.trans (by
    refine XS.iloadN X0.here hexec rfl (hb hbytes d0) rfl ?_
    refine XS.aloadN X0.here hexec rfl (hb hbytes d1) rfl rfl ?_
    exact Steps.refl _)
  have c3 : Steps p.tables e below (s₁.setTop (entryFrame m #[.ref d, .int (Int32.ofNat B.slots.size)] 2)) (s₁.setTop (mkF m 8 #[.val (.ref d), .val (.int (Int32.ofNat B.slots.size))] [.int (lo8 (ushr (Int32.ofNat B.slots.size - Int32.ofNat B.slots.size) 31))])) := c2.trans (by
    refine X0.alen hexec hB0 rfl rfl (hb hbytes d2) ?_
    refine XS.isub X0.here hexec rfl (hb hbytes d3) rfl ?_
    refine bipushV X0.here hexec rfl 31 (hb hbytes d4) (by decide) ?_
    refine iushr X0.here hexec rfl (hb hbytes d6) rfl ?_
    refine i2b X0.here hexec rfl (hb hbytes d7) rfl ?_
    exact Steps.refl _)
  have e0 : lo8 (ushr (Int32.ofNat B.slots.size - Int32.ofNat B.slots.size) 31) = 0 := by rw [Int32.sub_self]; decide
  rw [e0] at c3
  exact ⟨s₁, some (.int 0), _, _, _, X0, rfl, rfl, rfl, (fun h => by cases h), ⟨rfl, hh0⟩, fun fs hl => c3.trans (X0.ireturnOut hexec hret rfl (Or.inr (Or.inr (Or.inl rfl))) (hb hbytes d8) hl)⟩
end CodL
/-- the String at a is Latin-1 over a new byte[] (the heap's one new cell): the low bytes of the len chars of A from o on; every cell but a is kept -/
def Got (a : Addr) (D : Cell) (fV fC : Field) (A : Cell) (o len : Nat) (r : Option Value) (s u : State) : Prop := r = none ∧ ∃ D' V : Cell, Blank "java/lang/String" a D' u ∧ Same D D' [fV.slot, fC.slot] ∧ D'.slots[fV.slot]? = some (.ref s.heap.size) ∧ D'.slots[fC.slot]? = some (.int 0) ∧ Arr .byte s.heap.size V u ∧ V.vm = .none ∧ u.vm.findClass "[B" = some V.cls ∧ V.slots.size = len ∧ (∀ j, j < len → V.slots[j]? = some (.int (lo8 (cv A (o + j))))) ∧ (∀ (y : Addr) (c : Cell), y ≠ a → s.heap[y]? = some c → u.heap[y]? = some c) ∧ u.heap.size = s.heap.size + 1
theorem Got.mv {a : Addr} {D A : Cell} {fV fC : Field} {o len : Nat} : ∀ r (U U' V V' : State), U'.heap = U.heap → V.vm.Alike V'.vm → V'.heap = V.heap → Got a D fV fC A o len r U V → Got a D fV fC A o len r U' V' :=
  fun r U U' V V' h1 hal h2 ⟨e0, D', X, a1, a2, a3, a4, a5, a6, a7, a8, a9, a10, a11⟩ => ⟨e0, D', X, a1.mv hal h2, a2, by rw [h1]; exact a3, a4, by rw [h1]; exact a5.mv hal h2, a6, by rw [hal.findClass]; exact a7, a8, a9, by rw [h1, h2]; exact a10, by rw [h1, h2]; exact a11⟩
namespace New4
def yN : MethodName := ⟨"java/lang/String", "<init>", "([CIILjava/lang/Void;)V"⟩
abbrev yB : ByteArray := jdk_42_method_149_code
theorem d0 : decode yB 0 = .ok (.aload_n 0, 1) := by decide +kernel
theorem d1 : decode yB 1 = .ok (.invokespecial 1, 3) := by decide +kernel
theorem d4 : decode yB 4 = .ok (.iload_n 3, 1) := by decide +kernel
theorem d5 : decode yB 5 = .ok (.ifCond (.ne) 22, 3) := by decide +kernel
theorem d27 : decode yB 27 = .ok (.getstatic 38, 3) := by decide +kernel
theorem d30 : decode yB 30 = .ok (.ifCond (.eq) 28, 3) := by decide +kernel
theorem d33 : decode yB 33 = .ok (.aload_n 1, 1) := by decide +kernel
theorem d34 : decode yB 34 = .ok (.iload_n 2, 1) := by decide +kernel
theorem d35 : decode yB 35 = .ok (.iload_n 3, 1) := by decide +kernel
theorem d36 : decode yB 36 = .ok (.invokestatic 177, 3) := by decide +kernel
theorem d39 : decode yB 39 = .ok (.astore 5, 2) := by decide +kernel
theorem d41 : decode yB 41 = .ok (.aload_n 0, 1) := by decide +kernel
theorem d42 : decode yB 42 = .ok (.aload 5, 2) := by decide +kernel
theorem d44 : decode yB 44 = .ok (.iload_n 3, 1) := by decide +kernel
theorem d45 : decode yB 45 = .ok (.invokestatic 47, 3) := by decide +kernel
theorem d48 : decode yB 48 = .ok (.putfield 15, 3) := by decide +kernel
theorem d51 : decode yB 51 = .ok (.aload_n 0, 1) := by decide +kernel
theorem d52 : decode yB 52 = .ok (.aload 5, 2) := by decide +kernel
theorem d54 : decode yB 54 = .ok (.putfield 9, 3) := by decide +kernel
theorem d57 : decode yB 57 = .ok (.return_, 1) := by decide +kernel
def site : List Cond := [.fieldLink "java/lang/String" 38 "java/lang/String" "COMPACT_STRINGS" "Z", Cmp3.tab, CodL.tab, .laysFinal "java/lang/String" "java/lang/String" "value" "[B", .fieldLink "java/lang/String" 9 "java/lang/String" "value" "[B", .laysFinal "java/lang/String" "java/lang/String" "coder" "B", .fieldLink "java/lang/String" 15 "java/lang/String" "coder" "B"] ++ objW "java/lang/String" 1 ++ staticW "java/lang/String" 177 Cmp3.yN ++ staticW "java/lang/String" 47 CodL.yN
def tab : Cond := tabOf yN yB 6 none site
def P (a : Addr) (D : Cell) (fV fC : Field) (b : Addr) (A : Cell) (z : Int32) (o len : Nat) (args : Array Value) (s : State) : Prop := args = #[.ref a, .ref b, .int (Int32.ofNat o), .int (Int32.ofNat len), .null] ∧ Blank "java/lang/String" a D s ∧ Found "java/lang/String" "value" "[B" fV s ∧ Found "java/lang/String" "coder" "B" fC s ∧ Ch b A s ∧ StaticIs s "java/lang/String" "COMPACT_STRINGS" "Z" (.int z) ∧ ¬ z = 0 ∧ 0 < len ∧ o + len ≤ A.slots.size ∧ len ≤ 536870912 ∧ ∀ i, i < len → ¬ 255 < cv A (o + i)
def E (a : Addr) (D : Cell) (fV fC : Field) (A : Cell) (o len : Nat) (r : Option Value) (s u : State) : Prop := Got a D fV fC A o len r s u
/-- len > 0, no char of the range above 255: a Latin-1 String of their low bytes -/
theorem law (l : Launch) (a : Addr) (D : Cell) (fV fC : Field) (b : Addr) (A : Cell) (z : Int32) (o len : Nat) : Law l yN 5 4 2 35 yB 6 none site (P a D fV fC b A z o len) (E a D fV fC A o len) [⟨a, fC.slot⟩, ⟨a, fV.slot⟩] 1 len := by
  refine Law.of_walk (plainFor_of_name (by decide +kernel)) (by decide +kernel) (by decide +kernel) (by decide) (fun _ _ h => by rw [h.1]; rfl) (fun _ U U' hal hh h => ⟨h.1, h.2.1.mv hal hh, h.2.2.1.al hal, h.2.2.2.1.al hal, h.2.2.2.2.1.mv hal hh, h.2.2.2.2.2.1.there hal hh, h.2.2.2.2.2.2⟩) (fun r U U' V V' h1 hal h2 h => Got.mv r U U' V V' h1 hal h2 h) ?_
  intro p e s m args below meth c s₁ X0 hexec hbytes hml hret hlk hnm hown hh0 W hP
  obtain ⟨rfl, hB, f1, f2, hA, s1, hz, l0, l1, l2, hp⟩ := hP
  have a31 := hA.1.2.2.2
  have c1 : Steps p.tables e below (s₁.setTop (entryFrame m #[.ref a, .ref b, .int (Int32.ofNat o), .int (Int32.ofNat len), .null] 6)) (s₁.setTop (mkF m 0 #[.val (.ref a), .val (.ref b), .val (.int (Int32.ofNat o)), .val (.int (Int32.ofNat len)), .val .null, .unset] [])) := entry rfl
  have c2 : Steps p.tables e below (s₁.setTop (entryFrame m #[.ref a, .ref b, .int (Int32.ofNat o), .int (Int32.ofNat len), .null] 6)) (s₁.setTop (mkF m 1 #[.val (.ref a), .val (.ref b), .val (.int (Int32.ofNat o)), .val (.int (Int32.ofNat len)), .val .null, .unset] [.ref a])) := c1.trans (by
    refine XS.aloadN X0.here hexec rfl (hb hbytes d0) rfl rfl ?_
    exact Steps.refl _)
  obtain ⟨T3, X3, q3, st3⟩ := X0.oinit hexec hown (wks W (objW "java/lang/String" 1)) (g := (mkF m 1 #[.val (.ref a), .val (.ref b), .val (.int (Int32.ofNat o)), .val (.int (Int32.ofNat len)), .val .null, .unset] [.ref a])) rfl (by rw [hml]; rfl) (rest := []) rfl (hb hbytes d1) (W := 0) (by show 2 * 0 + 0 ≤ _; decide) (Nat.le_of_ble_eq_true rfl) (Nat.le_of_ble_eq_true rfl)
  have hh3 := q3.trans hh0
  have c4 : Steps p.tables e below (s₁.setTop (entryFrame m #[.ref a, .ref b, .int (Int32.ofNat o), .int (Int32.ofNat len), .null] 6)) (T3.setTop (mkF m 27 #[.val (.ref a), .val (.ref b), .val (.int (Int32.ofNat o)), .val (.int (Int32.ofNat len)), .val .null, .unset] [])) := (c2.trans (st3 _ (Steps.refl _))).trans (by
    refine XS.iloadN X3.here hexec rfl (hb hbytes d4) rfl ?_
    refine XS.ifYes X3.here hexec rfl (pc0 := 5) rfl (hb hbytes d5) rfl (i0_ne_t (nz32 (by omega) l0)) (by decide) rfl ?_
    exact Steps.refl _)
  obtain ⟨T5, X5, q5, st5⟩ := X3.sget hexec hown (wk W (.fieldLink "java/lang/String" 38 "java/lang/String" "COMPACT_STRINGS" "Z")) s1 (fun _ _ h => by rw [hh3]; exact h) (g := (mkF m 27 #[.val (.ref a), .val (.ref b), .val (.int (Int32.ofNat o)), .val (.int (Int32.ofNat len)), .val .null, .unset] [])) rfl (hb hbytes d27)
  have hh5 := q5.trans hh3
  have c6 : Steps p.tables e below (s₁.setTop (entryFrame m #[.ref a, .ref b, .int (Int32.ofNat o), .int (Int32.ofNat len), .null] 6)) (T5.setTop (mkF m 30 #[.val (.ref a), .val (.ref b), .val (.int (Int32.ofNat o)), .val (.int (Int32.ofNat len)), .val .null, .unset] [.int z])) := c4.trans (st5 _ (Steps.refl _))
  have c7 : Steps p.tables e below (s₁.setTop (entryFrame m #[.ref a, .ref b, .int (Int32.ofNat o), .int (Int32.ofNat len), .null] 6)) (T5.setTop (mkF m 36 #[.val (.ref a), .val (.ref b), .val (.int (Int32.ofNat o)), .val (.int (Int32.ofNat len)), .val .null, .unset] [.int (Int32.ofNat len), .int (Int32.ofNat o), .ref b])) := c6.trans (by
    refine XS.ifNo X5.here hexec rfl (hb hbytes d30) rfl (i0_eq_f hz) ?_
    refine XS.aloadN X5.here hexec rfl (hb hbytes d33) rfl rfl ?_
    refine XS.iloadN X5.here hexec rfl (hb hbytes d34) rfl ?_
    refine XS.iloadN X5.here hexec rfl (hb hbytes d35) rfl ?_
    exact Steps.refl _)
  obtain ⟨v8, T8, X8, E8, g8⟩ := X5.callS hexec (Cmp3.law l b A o len) hown (wks W (staticW "java/lang/String" 177 Cmp3.yN)) (wk W Cmp3.tab) (W := 0) (Nat.le_of_ble_eq_true rfl) (Nat.le_of_ble_eq_true rfl) (Nat.le_refl _) (by show 0 + len ≤ len; omega) (g := (mkF m 36 #[.val (.ref a), .val (.ref b), .val (.int (Int32.ofNat o)), .val (.int (Int32.ofNat len)), .val .null, .unset] [.int (Int32.ofNat len), .int (Int32.ofNat o), .ref b])) rfl (by rw [hml]; rfl) c7 (argsL := [.ref b, .int (Int32.ofNat o), .int (Int32.ofNat len)]) (rest := []) rfl rfl (by show 2 * 0 + 0 ≤ _; decide) (hb hbytes d36) (⟨rfl, hA.mv X5.warmed.alike hh5, l1, l2, hp⟩)
  obtain ⟨e8, z8⟩ := E8
  obtain ⟨rfl, N, n1, n2, n3, n4, n5, n6⟩ := NewArr.mv _ T5 s _ _ hh5.symm (Vm.Alike.refl _) rfl e8
  rw [hh5] at z8
  have hB1 := hB.keep X8.warmed.alike (n6 _ _ hB.1)
  have hne : s.heap.size ≠ a := (Nat.ne_of_lt (Array.getElem?_eq_some_iff.mp hB.1).1).symm
  have c9 : Steps p.tables e below (s₁.setTop (entryFrame m #[.ref a, .ref b, .int (Int32.ofNat o), .int (Int32.ofNat len), .null] 6)) (T8.setTop (mkF m 39 #[.val (.ref a), .val (.ref b), .val (.int (Int32.ofNat o)), .val (.int (Int32.ofNat len)), .val .null, .unset] [.ref s.heap.size])) := g8
  have c10 : Steps p.tables e below (s₁.setTop (entryFrame m #[.ref a, .ref b, .int (Int32.ofNat o), .int (Int32.ofNat len), .null] 6)) (T8.setTop (mkF m 45 #[.val (.ref a), .val (.ref b), .val (.int (Int32.ofNat o)), .val (.int (Int32.ofNat len)), .val .null, .val (.ref s.heap.size)] [.int (Int32.ofNat N.slots.size), .ref s.heap.size, .ref a])) := by
    have hc : Steps p.tables e below (s₁.setTop (entryFrame m #[.ref a, .ref b, .int (Int32.ofNat o), .int (Int32.ofNat len), .null] 6)) (T8.setTop (mkF m 45 #[.val (.ref a), .val (.ref b), .val (.int (Int32.ofNat o)), .val (.int (Int32.ofNat len)), .val .null, .val (.ref s.heap.size)] [.int (Int32.ofNat len), .ref s.heap.size, .ref a])) := c9.trans (by
      refine XS.astore X8.here hexec rfl (hb hbytes d39) rfl rfl rfl ?_
      refine XS.aloadN X8.here hexec rfl (hb hbytes d41) rfl rfl ?_
      refine XS.aload X8.here hexec rfl (hb hbytes d42) rfl rfl ?_
      refine XS.iloadN X8.here hexec rfl (hb hbytes d44) rfl ?_
      exact Steps.refl _)
    rw [n4]; exact hc
  obtain ⟨v11, T11, X11, E11, g11⟩ := X8.callS hexec (CodL.law l s.heap.size N) hown (wks W (staticW "java/lang/String" 47 CodL.yN)) (wk W CodL.tab) (W := 1) (Nat.le_of_ble_eq_true rfl) (Nat.le_of_ble_eq_true rfl) (Nat.le_refl _) (by show 0 + len + 0 ≤ len; omega) (g := (mkF m 45 #[.val (.ref a), .val (.ref b), .val (.int (Int32.ofNat o)), .val (.int (Int32.ofNat len)), .val .null, .val (.ref s.heap.size)] [.int (Int32.ofNat N.slots.size), .ref s.heap.size, .ref a])) rfl (by rw [hml]; rfl) c10 (argsL := [.ref s.heap.size, .int (Int32.ofNat N.slots.size)]) (rest := [.ref a]) rfl rfl (by show 2 * 0 + (1 + 0) ≤ _; decide) (hb hbytes d45) (⟨rfl, n1⟩)
  obtain ⟨rfl, q11⟩ := E11
  have hB11 := hB1.mv (X8.warmed.alike.symm.trans X11.warmed.alike) q11
  have c12 : Steps p.tables e below (s₁.setTop (entryFrame m #[.ref a, .ref b, .int (Int32.ofNat o), .int (Int32.ofNat len), .null] 6)) (T11.setTop (mkF m 48 #[.val (.ref a), .val (.ref b), .val (.int (Int32.ofNat o)), .val (.int (Int32.ofNat len)), .val .null, .val (.ref s.heap.size)] [.int 0, .ref a])) := g11
  obtain ⟨T13, X13, p13, bl13, sl13, st13⟩ := X11.finit hexec hown (wk W (.fieldLink "java/lang/String" 15 "java/lang/String" "coder" "B")) (Or.inr ⟨_, (wk W (.laysFinal "java/lang/String" "java/lang/String" "coder" "B"))⟩) (Or.inl ⟨rfl, hnm⟩) f2 (Or.inl rfl) hB11 (t := .byte) (by decide +kernel) rfl (g := (mkF m 48 #[.val (.ref a), .val (.ref b), .val (.int (Int32.ofNat o)), .val (.int (Int32.ofNat len)), .val .null, .val (.ref s.heap.size)] [.int 0, .ref a])) rfl (rest := []) rfl (hb hbytes d48)
  have c14 : Steps p.tables e below (s₁.setTop (entryFrame m #[.ref a, .ref b, .int (Int32.ofNat o), .int (Int32.ofNat len), .null] 6)) (T13.setTop (mkF m 54 #[.val (.ref a), .val (.ref b), .val (.int (Int32.ofNat o)), .val (.int (Int32.ofNat len)), .val .null, .val (.ref s.heap.size)] [.ref s.heap.size, .ref a])) := (c12.trans (st13 _ (Steps.refl _))).trans (by
    refine XS.aloadN X13.here hexec rfl (hb hbytes d51) rfl rfl ?_
    refine XS.aload X13.here hexec rfl (hb hbytes d52) rfl rfl ?_
    exact Steps.refl _)
  obtain ⟨T15, X15, p15, bl15, sl15, st15⟩ := X13.finit hexec hown (wk W (.fieldLink "java/lang/String" 9 "java/lang/String" "value" "[B")) (Or.inr ⟨_, (wk W (.laysFinal "java/lang/String" "java/lang/String" "value" "[B"))⟩) (Or.inl ⟨rfl, hnm⟩) f1 (Or.inl rfl) bl13 (t := (.array .byte)) (by decide +kernel) rfl (g := (mkF m 54 #[.val (.ref a), .val (.ref b), .val (.int (Int32.ofNat o)), .val (.int (Int32.ofNat len)), .val .null, .val (.ref s.heap.size)] [.ref s.heap.size, .ref a])) rfl (rest := []) rfl (hb hbytes d54)
  have c16 : Steps p.tables e below (s₁.setTop (entryFrame m #[.ref a, .ref b, .int (Int32.ofNat o), .int (Int32.ofNat len), .null] 6)) (T15.setTop (mkF m 57 #[.val (.ref a), .val (.ref b), .val (.int (Int32.ofNat o)), .val (.int (Int32.ofNat len)), .val .null, .val (.ref s.heap.size)] [])) := c14.trans (st15 _ (Steps.refl _))
  have ap := apart (Or.inr ⟨_, (wk W (.laysFinal "java/lang/String" "java/lang/String" "value" "[B"))⟩) (Or.inr ⟨_, (wk W (.laysFinal "java/lang/String" "java/lang/String" "coder" "B"))⟩) f1 f2 (t₁ := .array .byte) (t₂ := .byte) (by decide +kernel) (by decide +kernel) (by decide)
  have al := X8.warmed.alike.symm.trans X15.warmed.alike
  have n7 : T11.heap[s.heap.size]? = some N := by rw [q11]; exact n1.1
  exact ⟨T15, none, _, _, _, X15, by simp, rfl, by omega, (fun _ => rfl), ⟨rfl, _, N, bl15, ((Same.refl D _).set _ (by simp)).set _ (by simp), sl15, (Cell.slots_setSlot_ne _ ap).trans sl13, n1.keep al (p15.other hne (p13.other hne n7)), n2, by rw [al.findClass]; exact n3, n4, n5, fun y c h1 h2 => p15.other h1 (p13.other h1 (by rw [q11]; exact n6 y c h2)), by rw [p15.2.2, p13.2.2, q11]; exact z8⟩, fun fs hl => c16.trans (X15.returnOut hexec hret (hb hbytes d57) hl)⟩
end New4
namespace New1
def yN : MethodName := ⟨"java/lang/String", "<init>", "([C)V"⟩
abbrev yB : ByteArray := jdk_42_method_3_code
theorem d0 : decode yB 0 = .ok (.aload_n 0, 1) := by decide +kernel
theorem d1 : decode yB 1 = .ok (.aload_n 1, 1) := by decide +kernel
theorem d2 : decode yB 2 = .ok (.iconst 0, 1) := by decide +kernel
theorem d3 : decode yB 3 = .ok (.aload_n 1, 1) := by decide +kernel
theorem d4 : decode yB 4 = .ok (.arraylength, 1) := by decide +kernel
theorem d5 : decode yB 5 = .ok (.aconst_null, 1) := by decide +kernel
theorem d6 : decode yB 6 = .ok (.invokespecial 27, 3) := by decide +kernel
theorem d9 : decode yB 9 = .ok (.return_, 1) := by decide +kernel
def site : List Cond := [New4.tab] ++ initW "java/lang/String" 27 New4.yN
def tab : Cond := tabOf yN yB 2 none site
def P (a : Addr) (D : Cell) (fV fC : Field) (b : Addr) (A : Cell) (z : Int32) (args : Array Value) (s : State) : Prop := args = #[.ref a, .ref b] ∧ Blank "java/lang/String" a D s ∧ Found "java/lang/String" "value" "[B" fV s ∧ Found "java/lang/String" "coder" "B" fC s ∧ Ch b A s ∧ StaticIs s "java/lang/String" "COMPACT_STRINGS" "Z" (.int z) ∧ ¬ z = 0 ∧ 0 < A.slots.size ∧ A.slots.size ≤ 536870912 ∧ ∀ i, i < A.slots.size → ¬ 255 < cv A i
def E (a : Addr) (D : Cell) (fV fC : Field) (A : Cell) (r : Option Value) (s u : State) : Prop := Got a D fV fC A 0 A.slots.size r s u
/-- new String(chars), not empty, no char above 255: a Latin-1 String of their low bytes -/
theorem law (l : Launch) (a : Addr) (D : Cell) (fV fC : Field) (b : Addr) (A : Cell) (z : Int32) : Law l yN 2 1 3 52 yB 2 none site (P a D fV fC b A z) (E a D fV fC A) [⟨a, fC.slot⟩, ⟨a, fV.slot⟩] 1 A.slots.size := by
  refine Law.of_walk (plainFor_of_name (by decide +kernel)) (by decide +kernel) (by decide +kernel) (by decide) (fun _ _ h => by rw [h.1]; rfl) (fun _ U U' hal hh h => ⟨h.1, h.2.1.mv hal hh, h.2.2.1.al hal, h.2.2.2.1.al hal, h.2.2.2.2.1.mv hal hh, h.2.2.2.2.2.1.there hal hh, h.2.2.2.2.2.2⟩) (fun r U U' V V' h1 hal h2 h => Got.mv r U U' V V' h1 hal h2 h) ?_
  intro p e s m args below meth c s₁ X0 hexec hbytes hml hret hlk hnm hown hh0 W hP
  obtain ⟨rfl, hB, f1, f2, hA, s1, hz, l0, l2, hp⟩ := hP
  have c1 : Steps p.tables e below (s₁.setTop (entryFrame m #[.ref a, .ref b] 2)) (s₁.setTop (mkF m 0 #[.val (.ref a), .val (.ref b)] [])) := entry rfl
  have c2 : Steps p.tables e below (s₁.setTop (entryFrame m #[.ref a, .ref b] 2)) (s₁.setTop (mkF m 6 #[.val (.ref a), .val (.ref b)] [.null, .int (Int32.ofNat A.slots.size), .int 0, .ref b, .ref a])) := c1.trans (by
    refine XS.aloadN X0.here hexec rfl (hb hbytes d0) rfl rfl ?_
    refine XS.aloadN X0.here hexec rfl (hb hbytes d1) rfl rfl ?_
    refine iconstV X0.here hexec rfl 0 (hb hbytes d2) (by decide) ?_
    refine XS.aloadN X0.here hexec rfl (hb hbytes d3) rfl rfl ?_
    refine X0.alen hexec (hA.1.mv X0.warmed.alike hh0) rfl rfl (hb hbytes d4) ?_
    refine XS.aconstNull X0.here hexec rfl (hb hbytes d5) ?_
    exact Steps.refl _)
  obtain ⟨v3, T3, X3, E3, g3⟩ := X0.callN hexec (New4.law l a D fV fC b A z 0 A.slots.size) rfl hown (wks W (initW "java/lang/String" 27 New4.yN)) (W New4.tab (by simp only [site, List.mem_cons, List.mem_append, true_or, or_true])) (W := 0) (Nat.le_of_ble_eq_true rfl) (Nat.le_of_ble_eq_true rfl) (Nat.le_refl _) (by show 0 + A.slots.size ≤ A.slots.size; omega) (g := (mkF m 6 #[.val (.ref a), .val (.ref b)] [.null, .int (Int32.ofNat A.slots.size), .int (Int32.ofNat 0), .ref b, .ref a])) rfl (by rw [hml]; rfl) c2 (argsL := [.ref b, .int (Int32.ofNat 0), .int (Int32.ofNat A.slots.size), .null]) (rest := []) rfl rfl (by show 2 * 0 + 0 ≤ _; decide) (hb hbytes d6) (⟨rfl, hB.mv X0.warmed.alike hh0, f1.al X0.warmed.alike, f2.al X0.warmed.alike, hA.mv X0.warmed.alike hh0, s1.there X0.warmed.alike hh0, hz, l0, by omega, l2, fun i hi => by rw [Nat.zero_add]; exact hp i hi⟩)
  have e0 := Got.mv _ s₁ s _ _ hh0.symm (Vm.Alike.refl _) rfl E3
  obtain rfl := e0.1
  have c4 : Steps p.tables e below (s₁.setTop (entryFrame m #[.ref a, .ref b] 2)) (T3.setTop (mkF m 9 #[.val (.ref a), .val (.ref b)] [])) := g3
  exact ⟨T3, none, _, _, _, X3, by simp, rfl, by omega, (fun _ => rfl), e0, fun fs hl => c4.trans (X3.returnOut hexec hret (hb hbytes d9) hl)⟩
theorem pays {l : Launch} {R : Room} {p : Program} {e : Env} {below : List Frame} {s : State} {sargs : Array Value} {len W : Nat} (a : Addr) (D : Cell) (fV fC : Field) (b : Addr) (A : Cell) (z : Int32) (htab : tab.before sargs s = true) (hfr : 4 ≤ R.frames) (hlo : W + 65 ≤ R.locals) :
    Back l R p e below s sargs yN len W (fun A₁ a₁ => A₁.cells + 1 ≤ R.cells ∧ A₁.slots + A.slots.size ≤ R.slots ∧ P a D fV fC b A z a₁ A₁.U) (fun A₁ _ v₁ B₁ => E a D fV fC A v₁ A₁.U B₁.U ∧ B₁.locs = A₁.locs ++ [⟨a, fC.slot⟩, ⟨a, fV.slot⟩] ∧ B₁.cells = A₁.cells + 1 ∧ B₁.slots = A₁.slots + A.slots.size) :=
  (law l a D fV fC b A z).pays htab hfr (by omega)
end New1
/-- the byte, read back as charAt reads it, is the char -/
theorem lo8_mask {x : Int32} (h0 : ¬ x < 0) (h1 : ¬ 255 < x) : lo8 x &&& 255 = x := by
  have t : ∀ k : Fin 256, lo8 (Int32.ofNat k.val) &&& 255 = Int32.ofNat k.val := by decide +kernel
  rw [Int32.lt_iff_toInt_lt] at h0 h1
  have e0 : (0 : Int32).toInt = 0 := rfl
  have e1 : (255 : Int32).toInt = 255 := rfl
  obtain ⟨k, hk⟩ : ∃ k : Nat, x.toInt = k := ⟨x.toInt.toNat, by omega⟩
  have hx : x = Int32.ofNat k := Int32.toInt_inj.mp (by rw [hk, Int32.toInt_ofNat_small (by omega)])
  rw [hx]
  exact t ⟨k, by omega⟩
end StrChars
namespace StrChars.Road
open Jvm Sem ClassFile Op Lib Jvm.Stand Jvm.Free Jvm.Free.XT
open Jvm.Lib.Cold (StaticIs)
abbrev ST : String := "java/lang/String"
/-- every table word that New1's law asks, flat -/
abbrev words : List Jvm.Cond := [.code New1.yN New1.yB 2 none, .initialized ST, .methodLink ST 27 New4.yN, .instanceMethod New4.yN,
  .code New4.yN New4.yB 6 none, .fieldLink ST 38 ST "COMPACT_STRINGS" "Z", .laysFinal ST ST "value" "[B", .fieldLink ST 9 ST "value" "[B", .laysFinal ST ST "coder" "B", .fieldLink ST 15 ST "coder" "B",
  .methodLink ST 1 Lib.objectInit, .instanceMethod Lib.objectInit, .code Lib.objectInit ⟨#[0xb1]⟩ 1 none, .methodLink ST 177 Cmp3.yN, .static Cmp3.yN, .methodLink ST 47 CodL.yN, .static CodL.yN,
  .code Cmp3.yN Cmp3.yB 6 (some (.array .byte)), .initialized U16, .arrayClass .byte, .methodLink U16 115 Cmp5.yN, .static Cmp5.yN, .code Cmp5.yN Cmp5.yB 7 (some .int), .code CodL.yN CodL.yB 2 (some .byte)]
theorem tab_of {a : Array Value} {s : State} (h : ∀ w ∈ words, w.before a s = true) : New1.tab.before a s = true := by
  have h5 : Cmp5.tab.before a s = true := unparts (wk h (.code Cmp5.yN Cmp5.yB 7 (some .int))) (wks h (.initialized Cmp5.yN.cls :: Cmp5.site))
  have hc : CodL.tab.before a s = true := unparts (wk h (.code CodL.yN CodL.yB 2 (some .byte))) (wks h (.initialized CodL.yN.cls :: CodL.site))
  have q5 : ∀ w ∈ Cmp5.tab :: words, w.before a s = true := fun w hw => (List.mem_cons.mp hw).elim (fun e => e ▸ h5) (h w)
  have h3 : Cmp3.tab.before a s = true := unparts (wk q5 (.code Cmp3.yN Cmp3.yB 6 (some (.array .byte)))) (wks q5 (.initialized Cmp3.yN.cls :: Cmp3.site))
  have q3 : ∀ w ∈ Cmp3.tab :: CodL.tab :: words, w.before a s = true := fun w hw => (List.mem_cons.mp hw).elim (fun e => e ▸ h3) fun hw => (List.mem_cons.mp hw).elim (fun e => e ▸ hc) (h w)
  have h4 : New4.tab.before a s = true := unparts (wk q3 (.code New4.yN New4.yB 6 none)) (wks q3 (.initialized New4.yN.cls :: New4.site))
  have q4 : ∀ w ∈ New4.tab :: words, w.before a s = true := fun w hw => (List.mem_cons.mp hw).elim (fun e => e ▸ h4) (h w)
  exact unparts (wk q4 (.code New1.yN New1.yB 2 none)) (wks q4 (.initialized New1.yN.cls :: New1.site))
/-- the words ride from the start Z to the walk's own state -/
theorem moved {Z s : State} {a0 args : Array Value} (hZ : Z.Warmed39 s.vm) (hw : ∀ d ∈ words, d.before a0 Z = true) : ∀ d ∈ words, d.before args s = true := fun d hd => by
  have q := hw d hd
  have t : ∀ d ∈ words, d = .arrayClass .byte ∨ (d.onTables && d.keepsFace) = true := by decide +kernel
  rcases t d hd with rfl | t
  · exact RoadKit.mvA hZ q
  · exact RoadKit.mv hZ q t
/-- WHAT COMES BACK, over the tables of the start Z: h the heap at the call, h' behind it -/
def Q (Z : State) (x : Addr) (A : Cell) (h : Heap) (v : Option Value) (h' : Heap) (L : List Loc) : Prop := v = none ∧ (∀ y ∈ L, y.base = x) ∧ RoadKit.Keep h h' [x] ∧ h'.size = h.size + 1 ∧ RoadKit.Exa Z h' x ST ∧ RoadKit.Fld Z h' x ST "value" "[B" (.ref h.size) ∧ RoadKit.Fld Z h' x ST "coder" "B" (.int 0) ∧
  (∃ V : Cell, RoadKit.Arr Z h' h.size V .byte ∧ V.vm = .none ∧ Z.vm.findClass "[B" = some V.cls ∧ V.slots.size = A.slots.size ∧ ∀ j, j < A.slots.size → V.slots[j]? = some (.int (lo8 (cv A j)))) ∧
  ∀ (O n d : String) (w : Value), RoadKit.Fld Z h x O n d w → RoadKit.slotOf Z O n d ≠ RoadKit.slotOf Z ST "value" "[B" → RoadKit.slotOf Z O n d ≠ RoadKit.slotOf Z ST "coder" "B" → RoadKit.Fld Z h' x O n d w
/-- **new String(chars) AT A CALL, IN THE ROAD'S FORM**: for specialBack behind newO: x the fresh String, b the char[] with the cell A -/
theorem back {p : Program} {l : Launch} {e : Env} {R : Room} {s : State} {args : Array Value} {below : List Frame} {len W : Nat} {Z : State} {a0 : Array Value} {h : Heap} (hZ : Z.Warmed39 s.vm) (hw : ∀ d ∈ words, d.before a0 Z = true) {kI : Nat} (wi : (Jvm.Cond.instantiable ST kI).before a0 Z = true)
    {x b : Addr} {A : Cell} {z : Int32} {v0 c0 : Value} (E : RoadKit.Exa Z h x ST) (V : RoadKit.Fld Z h x ST "value" "[B" v0) (C : RoadKit.Fld Z h x ST "coder" "B" c0) (K : RoadKit.Arr Z h b A .char) (hty : Typed .char A) (S : RoadKit.Sta Z h ST "COMPACT_STRINGS" "Z" (.int z)) (hz : ¬ z = 0)
    (l0 : 0 < A.slots.size) (l2 : A.slots.size ≤ 536870912) (hp : ∀ i, i < A.slots.size → ¬ 255 < cv A i) (hfr : 4 ≤ R.frames) (hlo : W + 65 ≤ R.locals) :
    Back l R p e below s args New1.yN len W (fun P a => a = #[.ref x, .ref b] ∧ P.U.heap = h ∧ P.cells + 1 ≤ R.cells ∧ P.slots + A.slots.size ≤ R.slots)
      (fun P _ v B => ∃ L, Q Z x A h v B.U.heap L ∧ B.locs = P.locs ++ L ∧ B.cells = P.cells + 1 ∧ B.slots = P.slots + A.slots.size) := by
  intro m meth c P g ig mk a X hg hsize hdg hW hn hp'
  obtain ⟨rfl, rfl, r1, r2⟩ := hp'
  have al : Z.vm.Alike P.U.vm := hZ.alike.trans X.warmed.alike
  obtain ⟨D, cfV, kV, iV, fV, hD, gV, stV, knV, obV, asV, slV⟩ := id V
  obtain ⟨D', cfC, kC, iC, fC, hD', gC, stC, -, -, asC, slC⟩ := id C
  cases hD.symm.trans hD'
  obtain ⟨D2, kD, e1, e2, e3, e4, e5⟩ := id E
  cases hD.symm.trans e1
  obtain ⟨c2, k2, i1, i2, i3, -⟩ := Cond.instantiable_spec wi
  cases e2.symm.trans i1
  cases e3.symm.trans i2
  obtain ⟨kU, u1, u2⟩ := al.2.2 _ _ e3
  have hB : Blank ST x D P.U := ⟨hD, ⟨knV, fun q hq => by rw [hq] at obV; cases obV⟩, by rw [al.findClass]; exact e2, kU, u1, by rw [u2]; exact i3, by rw [u2]; exact e5 i3⟩
  have F1 : Found ST "value" "[B" fV P.U := ⟨SBG.found_only al ⟨cfV, kV, iV, gV⟩, stV⟩
  have F2 : Found ST "coder" "B" fC P.U := ⟨SBG.found_only al ⟨cfC, kC, iC, gC⟩, stC⟩
  have hA : Ch b A P.U := ⟨⟨K.1, State.isArrayOf_alike al K.2.1, K.2.2, by omega⟩, hty⟩
  have hS : StaticIs P.U ST "COMPACT_STRINGS" "Z" (.int z) := by
    obtain ⟨cfS, iS, kS, fS, st, cS, t1, t2, t3, t4, t5, t6, t7⟩ := S
    exact StaticIs.there (s := { Z with heap := P.U.heap }) ⟨cfS, iS, kS, fS, st, cS, t1, t2, t3, t4, t5, (fun q => by rw [q] at t6; cases t6), t7⟩ al rfl
  obtain ⟨v, B, X', ⟨⟨hv, E', V', q1, q2, q3, q4, q5, q6, q7, q8, q9, q10, q11⟩, hl, hc, hs⟩, st⟩ := New1.pays x D fV fC b A z (tab_of (moved hZ hw)) hfr hlo m meth c P g ig mk _ X hg hsize hdg hW hn ⟨r1, r2, rfl, hB, F1, F2, hA, hS, hz, l0, l2, hp⟩
  have al' : Z.vm.Alike B.U.vm := hZ.alike.trans X'.warmed.alike
  have hsz : E'.slots.size = D.slots.size := by
    obtain ⟨-, -, -, kB, w1, w2, w3⟩ := q1
    obtain ⟨kB', y1, y2⟩ := al'.2.2 _ _ e3
    rw [q2.2.1] at w1
    cases w1.symm.trans y1
    rw [w3, e5 i3, y2]
  refine ⟨v, B, X', ⟨_, ⟨hv, ?_, ⟨by omega, fun y cy hy hn' => q10 y cy (by simpa using hn') hy, fun y cy hy => ?_⟩, q11, ⟨E', _, q1.1, by rw [q2.2.1]; exact e2, by rw [q2.2.1]; exact e3, by rw [q2.1]; exact obV, fun _ => by rw [hsz]; exact e5 i3⟩,
    ⟨E', cfV, kV, iV, fV, q1.1, gV, stV, by rw [q2.1]; exact knV, by rw [q2.1]; exact obV, by rw [q2.2.1]; exact asV, q3⟩, ⟨E', cfC, kC, iC, fC, q1.1, gC, stC, by rw [q2.1]; exact knV, by rw [q2.1]; exact obV, by rw [q2.2.1]; exact asC, q4⟩,
    ⟨V', ⟨q5.1, State.isArrayOf_alike al'.symm q5.2.1, q5.2.2.1⟩, q6, by rw [← al'.findClass]; exact q7, q8, fun j hj => by have := q9 j hj; rwa [Nat.zero_add] at this⟩, fun O n d w F n1 n2 => ?_⟩, hl, hc, hs⟩, st⟩
  · intro y hy
    simp only [List.mem_cons, List.not_mem_nil, or_false] at hy
    rcases hy with rfl | rfl <;> rfl
  · by_cases q : y = x
    · subst q
      cases hD.symm.trans hy
      exact ⟨E', q1.1, q2.2.1, q2.1, hsz⟩
    · exact ⟨cy, q10 y cy q hy, rfl, rfl, rfl⟩
  · obtain ⟨D3, cf, k, i, f, g1, g2, g3, g4, g5, g6, g7⟩ := F
    cases hD.symm.trans g1
    simp only [RoadKit.slotOf, g2, gV, gC, Option.map_some, Option.getD_some] at n1 n2
    exact ⟨E', cf, k, i, f, q1.1, g2, g3, by rw [q2.1]; exact g4, by rw [q2.1]; exact g5, by rw [q2.2.1]; exact g6, by rw [q2.2.2 f.slot (by simp [n1, n2])]; exact g7⟩
end StrChars.Road
namespace StrChars.Road
open Jvm Sem ClassFile Op Lib Jvm.Stand Jvm.Free Jvm.Free.XT
/-- WHAT COMES BACK, the byte[] as a list of values -/
def QA (Z : State) (x : Addr) (zn : Int32) (cs : List Int32) (h : Heap) (v : Option Value) (h' : Heap) (L : List Loc) : Prop := v = none ∧ (∀ y ∈ L, y.base = x) ∧ RoadKit.Keep h h' [x] ∧ h'.size = h.size + 1 ∧ RoadKit.Exa Z h' x ST ∧ RoadKit.Fld Z h' x ST "value" "[B" (.ref h.size) ∧ RoadKit.Fld Z h' x ST "coder" "B" (.int 0) ∧
  (∃ kb, Z.vm.findClass "[B" = some kb ∧ RoadKit.Arv Z h' h.size kb .byte zn (cs.map fun c => .int (lo8 c)) (.int 0)) ∧
  ∀ (O n d : String) (w : Value), RoadKit.Fld Z h x O n d w → RoadKit.slotOf Z O n d ≠ RoadKit.slotOf Z ST "value" "[B" → RoadKit.slotOf Z O n d ≠ RoadKit.slotOf Z ST "coder" "B" → RoadKit.Fld Z h' x O n d w
/-- **new String(chars) AT A CALL, THE ARRAYS AS LISTS**: the char[] at b holds cs, not empty, no char above 255 -/
theorem backArv {p : Program} {l : Launch} {e : Env} {R : Room} {s : State} {args : Array Value} {below : List Frame} {len W : Nat} {Z : State} {a0 : Array Value} {h : Heap} (hZ : Z.Warmed39 s.vm) (hw : ∀ d ∈ words, d.before a0 Z = true) {kI : Nat} (wi : (Jvm.Cond.instantiable ST kI).before a0 Z = true)
    {x b : Addr} {k : ClassId} {zn z : Int32} {cs : List Int32} {dv v0 c0 : Value} (E : RoadKit.Exa Z h x ST) (V : RoadKit.Fld Z h x ST "value" "[B" v0) (C : RoadKit.Fld Z h x ST "coder" "B" c0) (K : RoadKit.Arv Z h b k .char zn (cs.map Value.int) dv) (S : RoadKit.Sta Z h ST "COMPACT_STRINGS" "Z" (.int z)) (hz : ¬ z = 0)
    (hlen : zn.toNatClampNeg = cs.length) (h0 : 0 < cs.length) (hbig : cs.length ≤ 536870912) (hall : ∀ c ∈ cs, ¬ 255 < c) (hfr : 4 ≤ R.frames) (hlo : W + 65 ≤ R.locals) :
    Back l R p e below s args New1.yN len W (fun P a => a = #[.ref x, .ref b] ∧ P.U.heap = h ∧ P.cells + 1 ≤ R.cells ∧ P.slots + cs.length ≤ R.slots)
      (fun P _ v B => ∃ L, QA Z x zn cs h v B.U.heap L ∧ B.locs = P.locs ++ L ∧ B.cells = P.cells + 1 ∧ B.slots = P.slots + cs.length) := by
  obtain ⟨A, K1, K2, K3, K4, K5, K6⟩ := K
  have e : A.slots.size = cs.length := K3.trans hlen
  have hat : ∀ (i : Nat) (hi : i < cs.length), A.slots[i]? = some (.int cs[i]) := fun i hi => by rw [K5 i (by omega)]; simp [List.getD_eq_getElem?_getD, hi]
  have hcv : ∀ (i : Nat) (hi : i < cs.length), cv A i = cs[i] := fun i hi => by unfold cv; rw [hat i hi]
  have hty : Typed .char A := fun i v hv => by
    have hi : i < A.slots.size := (Array.getElem?_eq_some_iff.mp hv).1
    have q := K5 i hi
    rw [hv] at q
    rw [Option.some.inj q]
    exact K6 i hi
  refine Back.mono (back hZ hw wi E V C K1 hty S hz (by omega) (by omega) (fun i hi => by rw [hcv i (by omega)]; exact hall _ (List.getElem_mem _)) hfr hlo) (fun P a hp => ⟨hp.1, hp.2.1, hp.2.2.1, by rw [e]; exact hp.2.2.2⟩) (fun P a v B hp hq => ?_)
  obtain ⟨L, ⟨q1, q2, q3, q4, q5, q6, q7, ⟨V', v1, v2, v3, v4, v5⟩, q9⟩, hl, hc, hs⟩ := hq
  refine ⟨L, ⟨q1, q2, q3, q4, q5, q6, q7, ⟨V'.cls, v3, V', v1, rfl, by rw [v4, e, hlen], K4, fun i hi => ?_, fun i hi => ?_⟩, q9⟩, hl, hc, by rw [hs, e]⟩
  · have hi' : i < cs.length := by omega
    rw [v5 i (by omega), hcv i hi']; simp [List.getD_eq_getElem?_getD, hi']
  · have hi' : i < cs.length := by omega
    simp only [List.getD_eq_getElem?_getD, List.getElem?_map, List.getElem?_eq_getElem hi', Option.map_some, Option.getD_some]
    exact fits_lo8 _
end StrChars.Road
namespace StrChars.Road
open Jvm Sem ClassFile Op Lib Jvm.Stand Jvm.Free Jvm.Free.XT
/-- WHAT COMES BACK, in the writer's own shape -/
def QV (Z : State) (x : Addr) (N : Int32) (bs : List Int32) (h : Heap) (n0 : Nat) (v : Option Value) (h' : Heap) (L : List Loc) : Prop := v = none ∧ RoadKit.Fr n0 L ∧ RoadKit.Keep h h' [x] ∧ RoadKit.Exa Z h' x ST ∧ RoadKit.Fld Z h' x ST "coder" "B" (.int 0) ∧
  ∃ (t : Addr) (kb : ClassId), n0 ≤ t ∧ h.size ≤ t ∧ ¬ t = x ∧ RoadKit.Fld Z h' x ST "value" "[B" (.ref t) ∧ RoadKit.Arv Z h' t kb .byte N (bs.map Value.int) (.int 0)
/-- **new String(chars) AT A CALL, FOR THE WRITER**: a char[] of n known ints, each 0 to 255 -/
theorem backV {p : Program} {l : Launch} {e : Env} {R : Room} {s : State} {args : Array Value} {below : List Frame} {len W : Nat} {Z : State} {a0 : Array Value} {h : Heap} (hZ : Z.Warmed39 s.vm) (hw : ∀ d ∈ words, d.before a0 Z = true) {kI : Nat} (wi : (Jvm.Cond.instantiable ST kI).before a0 Z = true)
    {x b : Addr} {kC : ClassId} {cs bs : List Int32} {d v0 c0 : Value} {z N : Int32} {n n0 : Nat} (hx0 : n0 ≤ x) (hh0 : n0 ≤ h.size) (E : RoadKit.Exa Z h x ST) (V : RoadKit.Fld Z h x ST "value" "[B" v0) (C : RoadKit.Fld Z h x ST "coder" "B" c0) (K : RoadKit.Arv Z h b kC .char N (cs.map Value.int) d) (S : RoadKit.Sta Z h ST "COMPACT_STRINGS" "Z" (.int z)) (hz : ¬ z = 0)
    (hn : cs.length = n) (hN : N = Int32.ofNat n) (l0 : 0 < n) (l2 : n ≤ 4000) (hp : ∀ c ∈ cs, ¬ c < 0 ∧ ¬ (255 : Int32) < c) (hb : bs = cs.map (fun c => c.toInt8.toInt32)) (hfr : 4 ≤ R.frames) (hlo : W + 65 ≤ R.locals) :
    Back l R p e below s args (⟨"java/lang/String", "<init>", "([C)V"⟩ : MethodName) len W (fun P a => a = #[.ref x, .ref b] ∧ P.U.heap = h ∧ P.cells + 1 ≤ R.cells ∧ P.slots + n ≤ R.slots)
      (fun P _ v B => ∃ L, QV Z x N bs h n0 v B.U.heap L ∧ B.locs = P.locs ++ L ∧ B.cells = P.cells + 1 ∧ B.slots = P.slots + n) := by
  subst hn hN hb
  refine Back.mono (backArv hZ hw wi E V C K S hz (n32 (by omega)) l0 (by omega) (fun c hc => (hp c hc).2) hfr hlo) (fun P a hp => hp) (fun P a v B hp hq => ?_)
  obtain ⟨L, ⟨q1, q2, q3, q4, q5, q6, q7, ⟨kb, v1, v2⟩, q9⟩, hl, hc, hs⟩ := hq
  exact ⟨L, ⟨q1, fun y hy => by rw [q2 y hy]; exact hx0, q3, q5, q7, h.size, kb, hh0, Nat.le_refl _, Nat.ne_of_gt E.lt, q6, by rw [List.map_map]; exact v2⟩, hl, hc, hs⟩
end StrChars.Road
namespace StrChars
open Jvm Sem ClassFile Op Lib Jvm.Stand Jvm.Free.XT Jvm.Free.ALB Jvm.Free.JM Jvm.Free
open Jvm.Lib.Cold (StaticIs)
def hi8 (x : Int32) : Int32 := lo8 (x >>> ((8 : Int32) &&& 31))
/-- what StringUTF16.getChar makes of two bytes -/
def pairCh (u v : Int32) : Int32 := (((u &&& 255) <<< ((0 : Int32) &&& 31)) ||| ((v &&& 255) <<< ((8 : Int32) &&& 31))).toUInt32.toUInt16.toUInt32.toInt32
theorem lo8_and (x : Int32) : (lo8 x &&& 255).toBitVec.toNat = x.toBitVec.toNat % 256 := by
  have h : (lo8 x).toBitVec = (x.toBitVec.signExtend 8).signExtend 32 := by rw [lo8, Int8.toBitVec_toInt32, Int32.toBitVec_toInt8]
  rw [Int32.toBitVec_and, BitVec.toNat_and, h]
  have e : ((x.toBitVec.signExtend 8).signExtend 32).toNat % 256 = x.toBitVec.toNat % 256 := by
    rw [BitVec.toNat_signExtend]
    have hlt := x.toBitVec.isLt
    simp only [BitVec.toNat_setWidth, BitVec.toNat_signExtend]
    split <;> split <;> omega
  rw [← e]
  exact Nat.and_two_pow_sub_one_eq_mod _ 8
theorem pair_says {c : Int32} (h0 : ¬ c < 0) (h1 : ¬ 65535 < c) : pairCh (lo8 c) (hi8 c) = c := by
  rw [Int32.lt_iff_toInt_lt] at h0 h1
  have e0 : (0 : Int32).toInt = 0 := rfl
  have e1 : (65535 : Int32).toInt = 65535 := rfl
  have hc : c.toInt = c.toBitVec.toNat := by
    have := c.toBitVec.isLt
    have e : c.toInt = c.toBitVec.toInt := rfl
    rw [e] at h0 h1
    rw [e]
    rw [BitVec.toInt_eq_toNat_cond] at h0 h1 ⊢
    split at h0 <;> split <;> omega
  have hn : c.toBitVec.toNat < 65536 := by omega
  have a1 := lo8_and c
  have a2 : (hi8 c &&& 255).toBitVec.toNat = c.toBitVec.toNat / 256 := by
    rw [hi8, lo8_and]
    have e : ((8 : Int32) &&& 31) = 8 := by decide
    rw [e, Int32.toBitVec_shiftRight]
    have e2 : ((8 : Int32).toBitVec.smod 32) = 8#32 := by decide
    rw [e2, BitVec.sshiftRight_eq', BitVec.toNat_sshiftRight_of_msb_false (by rw [BitVec.msb_eq_false_iff_two_mul_lt]; omega)]
    show c.toBitVec.toNat >>> 8 % 256 = _
    rw [Nat.shiftRight_eq_div_pow]
    omega
  unfold pairCh
  apply Int32.toBitVec_inj.mp
  apply BitVec.eq_of_toNat_eq
  have f0 : ((0 : Int32) &&& 31) = 0 := by decide
  have f8 : ((8 : Int32) &&& 31) = 8 := by decide
  rw [f0, f8]
  have g : (((lo8 c &&& 255) <<< (0 : Int32)) ||| ((hi8 c &&& 255) <<< (8 : Int32))).toBitVec.toNat = c.toBitVec.toNat := by
    rw [Int32.toBitVec_or, Int32.toBitVec_shiftLeft, Int32.toBitVec_shiftLeft]
    have s0 : ((0 : Int32).toBitVec.smod 32) = 0#32 := by decide
    have s8 : ((8 : Int32).toBitVec.smod 32) = 8#32 := by decide
    rw [s0, s8, BitVec.toNat_or]
    simp only [BitVec.shiftLeft_eq', BitVec.toNat_shiftLeft, a1, a2]
    show (c.toBitVec.toNat % 256) <<< 0 % 2 ^ 32 ||| (c.toBitVec.toNat / 256) <<< 8 % 2 ^ 32 = _
    rw [Nat.shiftLeft_zero, Nat.mod_eq_of_lt (show c.toBitVec.toNat % 256 < 2 ^ 32 by omega), Nat.mod_eq_of_lt (show (c.toBitVec.toNat / 256) <<< 8 < 2 ^ 32 by rw [Nat.shiftLeft_eq]; omega), Nat.or_comm, ← Nat.shiftLeft_add_eq_or_of_lt (by omega), Nat.shiftLeft_eq]
    omega
  show BitVec.toNat (((((lo8 c &&& 255) <<< (0 : Int32)) ||| ((hi8 c &&& 255) <<< (8 : Int32))).toBitVec.setWidth 16).setWidth 32) = _
  rw [BitVec.toNat_setWidth, BitVec.toNat_setWidth, g]
  omega
end StrChars
namespace StrChars
open Jvm Sem ClassFile Op Lib Jvm.Stand Jvm.Free.XT Jvm.Free.ALB Jvm.Free.JM Jvm.Free
open Jvm.Lib.Cold (StaticIs)
/-- the array's cell V codes the n chars f 0 .. f (n - 1) by the coder cd, as the JDK does: coder 1 just where some char is above 255 -/
def Cod (cd : Int32) (n : Nat) (f : Nat → Int32) (V : Cell) : Prop := (cd = 0 ∧ V.slots.size = n ∧ ∀ j, j < n → V.slots[j]? = some (.int (lo8 (f j))) ∧ ¬ 255 < f j) ∨ (cd = 1 ∧ V.slots.size = 2 * n ∧ (∀ j, j < n → V.slots[2 * j]? = some (.int (lo8 (f j))) ∧ V.slots[2 * j + 1]? = some (.int (hi8 (f j)))) ∧ ∃ j, j < n ∧ 255 < f j)
/-- **x is a String of the n chars f 0 .. f (n - 1)**, Latin-1 or UTF-16; its array at t has the cell V -/
def Txt (x t : Addr) (V : Cell) (cd : Int32) (n : Nat) (f : Nat → Int32) (U : State) : Prop := Exact "java/lang/String" x U ∧ Has x "java/lang/String" "value" "[B" (.ref t) U ∧ Has x "java/lang/String" "coder" "B" (.int cd) U ∧ XT.Arr .byte t V U ∧ Cod cd n f V ∧ ∀ j, j < n → ¬ f j < 0 ∧ ¬ 65535 < f j
theorem Txt.mv {x t : Addr} {V : Cell} {cd : Int32} {n : Nat} {f : Nat → Int32} {U U' : State} (h : Txt x t V cd n f U) (hal : U.vm.Alike U'.vm) (hh : U'.heap = U.heap) : Txt x t V cd n f U' := ⟨h.1.mv hal hh, h.2.1.mv hal hh, h.2.2.1.mv hal hh, h.2.2.2.1.mv hal hh, h.2.2.2.2⟩
end StrChars
namespace StrChars.Road
open Jvm Sem ClassFile Op Lib Jvm.Stand Jvm.Free Jvm.Free.XT
open Jvm.Lib.Cold (StaticIs)
theorem consq {a : Array Value} {s : State} {c : Jvm.Cond} {L : List Jvm.Cond} (h0 : c.before a s = true) (h : ∀ w ∈ L, w.before a s = true) : ∀ w ∈ c :: L, w.before a s = true := fun w hw => (List.mem_cons.mp hw).elim (fun e => e ▸ h0) (h w)
/-- the bytes of the chars cs, low before high -/
def wideBytes : List Int32 → List Value
  | [] => []
  | c :: cs => .int (lo8 c) :: .int (hi8 c) :: wideBytes cs
theorem wide_lo (d : Value) : ∀ (cs : List Int32) (j : Nat), j < cs.length → (wideBytes cs).getD (2 * j) d = .int (lo8 (cs.getD j 0))
  | [], j, h => absurd h (Nat.not_lt_zero j)
  | c :: cs, 0, _ => rfl
  | c :: cs, j + 1, h => by
    have q := wide_lo d cs j (by simpa using h)
    rw [show 2 * (j + 1) = 2 * j + 1 + 1 from by omega]
    simpa [wideBytes] using q
theorem wide_hi (d : Value) : ∀ (cs : List Int32) (j : Nat), j < cs.length → (wideBytes cs).getD (2 * j + 1) d = .int (hi8 (cs.getD j 0))
  | [], j, h => absurd h (Nat.not_lt_zero j)
  | c :: cs, 0, _ => rfl
  | c :: cs, j + 1, h => by
    have q := wide_hi d cs j (by simpa using h)
    rw [show 2 * (j + 1) + 1 = 2 * j + 1 + 1 + 1 from by omega]
    simpa [wideBytes] using q
theorem low_at (d : Value) (cs : List Int32) (j : Nat) (h : j < cs.length) : (cs.map fun c => Value.int (lo8 c)).getD j d = .int (lo8 (cs.getD j 0)) := by
  simp [List.getD_eq_getElem?_getD, h]
/-- an array of N2 bytes vs codes the chars cs by the coder cd -/
def CodA (cs : List Int32) (cd N2 : Int32) (vs : List Value) : Prop := (cd = 0 ∧ N2 = Int32.ofNat cs.length ∧ vs = (cs.map fun c => Value.int (lo8 c)) ∧ ∀ c ∈ cs, ¬ 255 < c) ∨ (cd = 1 ∧ N2 = Int32.ofNat (2 * cs.length) ∧ vs = wideBytes cs ∧ ∃ c ∈ cs, 255 < c)
theorem CodA.cod {cs : List Int32} {cd N2 : Int32} {vs : List Value} {V : Cell} (h : CodA cs cd N2 vs) (hn : 2 * cs.length < 2 ^ 31) (hs : V.slots.size = N2.toNatClampNeg) (hv : RoadKit.Has V vs (.int 0)) : Cod cd cs.length (fun j => cs.getD j 0) V := by
  rcases h with ⟨rfl, rfl, rfl, h⟩ | ⟨rfl, rfl, rfl, c, hc, hw⟩
  · rw [n32 (by omega)] at hs
    exact Or.inl ⟨rfl, hs, fun j hj => ⟨by rw [hv j (by omega), low_at _ _ _ hj], by
      have e : cs.getD j 0 = cs[j] := by simp [List.getD_eq_getElem?_getD, hj]
      show ¬ 255 < cs.getD j 0
      rw [e]; exact h _ (List.getElem_mem _)⟩⟩
  · rw [n32 (by omega)] at hs
    obtain ⟨j, hj, rfl⟩ := List.getElem_of_mem hc
    exact Or.inr ⟨rfl, hs, fun j hj => ⟨by rw [hv _ (by omega), wide_lo _ _ _ hj], by rw [hv _ (by omega), wide_hi _ _ _ hj]⟩, j, hj, by
      have e : cs.getD j 0 = cs[j] := by simp [List.getD_eq_getElem?_getD, hj]
      show 255 < cs.getD j 0
      rw [e]; exact hw⟩
/-- an object of exactly java/lang/String, its two fields found: as the laws ask it -/
theorem strObj {Z U : State} {a0 : Array Value} {kI : Nat} (wi : (Jvm.Cond.instantiable ST kI).before a0 Z = true) (al : Z.vm.Alike U.vm) {x : Addr} {v0 c0 : Value} (E : RoadKit.Exa Z U.heap x ST) (V : RoadKit.Fld Z U.heap x ST "value" "[B" v0) (C : RoadKit.Fld Z U.heap x ST "coder" "B" c0) :
    ∃ (D : Cell) (fV fC : Field), Blank ST x D U ∧ Found ST "value" "[B" fV U ∧ Found ST "coder" "B" fC U ∧ D.slots[fV.slot]? = some v0 ∧ D.slots[fC.slot]? = some c0 ∧ RoadKit.slotOf Z ST "value" "[B" = fV.slot ∧ RoadKit.slotOf Z ST "coder" "B" = fC.slot := by
  obtain ⟨D, cfV, kV, iV, fV, hD, gV, stV, knV, obV, asV, slV⟩ := V
  obtain ⟨D', cfC, kC, iC, fC, hD', gC, stC, -, -, asC, slC⟩ := C
  cases hD.symm.trans hD'
  obtain ⟨D2, kD, e1, e2, e3, e4, e5⟩ := E
  cases hD.symm.trans e1
  obtain ⟨c2, k2, i1, i2, i3, -⟩ := Cond.instantiable_spec wi
  cases e2.symm.trans i1
  cases e3.symm.trans i2
  obtain ⟨kU, u1, u2⟩ := al.2.2 _ _ e3
  exact ⟨D, fV, fC, ⟨hD, ⟨knV, fun q hq => by rw [hq] at obV; cases obV⟩, by rw [al.findClass]; exact e2, kU, u1, by rw [u2]; exact i3, by rw [u2]; exact e5 i3⟩, ⟨SBG.found_only al ⟨cfV, kV, iV, gV⟩, stV⟩, ⟨SBG.found_only al ⟨cfC, kC, iC, gC⟩, stC⟩, slV, slC, by simp [RoadKit.slotOf, gV], by simp [RoadKit.slotOf, gC]⟩
theorem sta_is {Z U : State} (al : Z.vm.Alike U.vm) {C n d : String} {v : Value} (S : RoadKit.Sta Z U.heap C n d v) : StaticIs U C n d v := by
  obtain ⟨cfS, iS, kS, fS, st, cS, t1, t2, t3, t4, t5, t6, t7⟩ := S
  exact StaticIs.there (s := { Z with heap := U.heap }) ⟨cfS, iS, kS, fS, st, cS, t1, t2, t3, t4, t5, (fun q => by rw [q] at t6; cases t6), t7⟩ al rfl
end StrChars.Road
namespace StrChars
open Jvm Sem ClassFile Op Lib Jvm.Stand Jvm.Free.XT Jvm.Free.ALB Jvm.Free.JM Jvm.Free
open Jvm.Lib.Cold (StaticIs)
/-- what place i of a byte[]'s cell holds -/
def yv (A : Cell) (i : Nat) : Int32 := match A.slots[i]? with | some (.int x) => x | _ => 0
theorem yv_get {a : Addr} {A : Cell} {U : State} (h : XT.Arr .byte a A U) (ht : Typed .byte A) {i : Nat} (hi : i < A.slots.size) : A.slots[i]? = some (.int (yv A i)) := by
  have e := Array.getElem?_eq_getElem hi
  have f := ht i _ e
  unfold yv; rw [e]
  generalize A.slots[i] = v at f
  cases v <;> simp [fits] at f ⊢
/-- the two arrays are equal, place for place -/
def EqC (A B : Cell) : Prop := A.slots.size = B.slots.size ∧ ∀ i, i < A.slots.size → yv A i = yv B i
/-- a boolean that says whether p -/
def Says01 (q : Prop) (r : Option Value) (s u : State) : Prop := ∃ v : Int32, r = some (.int v) ∧ u.heap = s.heap ∧ ((v = 1 ∧ q) ∨ (v = 0 ∧ ¬ q))
theorem Says01.mv {q : Prop} : ∀ r (U U' V V' : State), U'.heap = U.heap → V.vm.Alike V'.vm → V'.heap = V.heap → Says01 q r U V → Says01 q r U' V' :=
  fun r U U' V V' h1 _ h2 ⟨v, a, b, c⟩ => ⟨v, a, by rw [h1, h2]; exact b, c⟩
namespace LEq
def yN : MethodName := ⟨"java/lang/StringLatin1", "equals", "([B[B)Z"⟩
abbrev yB : ByteArray := jdk_43_method_13_code
theorem d0 : decode yB 0 = .ok (.aload_n 0, 1) := by decide +kernel
theorem d1 : decode yB 1 = .ok (.arraylength, 1) := by decide +kernel
theorem d2 : decode yB 2 = .ok (.aload_n 1, 1) := by decide +kernel
theorem d3 : decode yB 3 = .ok (.arraylength, 1) := by decide +kernel
theorem d4 : decode yB 4 = .ok (.if_icmp (.ne) 30, 3) := by decide +kernel
theorem d7 : decode yB 7 = .ok (.iconst 0, 1) := by decide +kernel
theorem d8 : decode yB 8 = .ok (.istore_n 2, 1) := by decide +kernel
theorem d9 : decode yB 9 = .ok (.iload_n 2, 1) := by decide +kernel
theorem d10 : decode yB 10 = .ok (.aload_n 0, 1) := by decide +kernel
theorem d11 : decode yB 11 = .ok (.arraylength, 1) := by decide +kernel
theorem d12 : decode yB 12 = .ok (.if_icmp (.ge) 20, 3) := by decide +kernel
theorem d15 : decode yB 15 = .ok (.aload_n 0, 1) := by decide +kernel
theorem d16 : decode yB 16 = .ok (.iload_n 2, 1) := by decide +kernel
theorem d17 : decode yB 17 = .ok (.baload, 1) := by decide +kernel
theorem d18 : decode yB 18 = .ok (.aload_n 1, 1) := by decide +kernel
theorem d19 : decode yB 19 = .ok (.iload_n 2, 1) := by decide +kernel
theorem d20 : decode yB 20 = .ok (.baload, 1) := by decide +kernel
theorem d21 : decode yB 21 = .ok (.if_icmp (.eq) 5, 3) := by decide +kernel
theorem d24 : decode yB 24 = .ok (.iconst 0, 1) := by decide +kernel
theorem d25 : decode yB 25 = .ok (.ireturn, 1) := by decide +kernel
theorem d26 : decode yB 26 = .ok (.iinc 2 1, 3) := by decide +kernel
theorem d29 : decode yB 29 = .ok (.goto (-20), 3) := by decide +kernel
theorem d32 : decode yB 32 = .ok (.iconst 1, 1) := by decide +kernel
theorem d33 : decode yB 33 = .ok (.ireturn, 1) := by decide +kernel
theorem d34 : decode yB 34 = .ok (.iconst 0, 1) := by decide +kernel
theorem d35 : decode yB 35 = .ok (.ireturn, 1) := by decide +kernel
def site : List Cond := []
def tab : Cond := tabOf yN yB 3 (some .boolean) site
def P (a : Addr) (A : Cell) (b : Addr) (B : Cell) (args : Array Value) (s : State) : Prop := args = #[.ref a, .ref b] ∧ XT.Arr .byte a A s ∧ Typed .byte A ∧ XT.Arr .byte b B s ∧ Typed .byte B
/-- whether two byte[] are equal, place for place -/
theorem law (l : Launch) (a : Addr) (A : Cell) (b : Addr) (B : Cell) : Law l yN 2 2 0 0 yB 3 (some .boolean) site (P a A b B) (Says01 (EqC A B)) [] 0 0 := by
  refine Law.of_walk (plainFor_of_name (by decide +kernel)) (by decide +kernel) (by decide +kernel) (by decide) (fun _ _ h => by rw [h.1]; rfl) (fun _ U U' hal hh h => ⟨h.1, h.2.1.mv hal hh, h.2.2.1, h.2.2.2.1.mv hal hh, h.2.2.2.2⟩) (fun r U U' V V' h1 hal h2 h => Says01.mv r U U' V V' h1 hal h2 h) ?_
  intro p e s m args below meth c s₁ X0 hexec hbytes hml hret hlk hnm hown hh0 W hP
  obtain ⟨rfl, hA, tA, hB, tB⟩ := hP
  have a31 := hA.2.2.2
  have b31 := hB.2.2.2
  have hA0 := hA.mv X0.warmed.alike hh0
  have hB0 := hB.mv X0.warmed.alike hh0
  have c1 : Steps p.tables e below (s₁.setTop (entryFrame m #[.ref a, .ref b] 3)) (s₁.setTop (mkF m 0 #[.val (.ref a), .val (.ref b), .unset] [])) := entry rfl
  have c2 : Steps p.tables e below (s₁.setTop (entryFrame m #[.ref a, .ref b] 3)) (s₁.setTop (mkF m 4 #[.val (.ref a), .val (.ref b), .unset] [.int (Int32.ofNat B.slots.size), .int (Int32.ofNat A.slots.size)])) := c1.trans (by
    refine XS.aloadN X0.here hexec rfl (hb hbytes d0) rfl rfl ?_
    refine X0.alen hexec hA0 rfl rfl (hb hbytes d1) ?_
    refine XS.aloadN X0.here hexec rfl (hb hbytes d2) rfl rfl ?_
    refine X0.alen hexec hB0 rfl rfl (hb hbytes d3) ?_
    exact Steps.refl _)
  by_cases hs : A.slots.size = B.slots.size
  · have c3 : Steps p.tables e below (s₁.setTop (entryFrame m #[.ref a, .ref b] 3)) (s₁.setTop (mkF m 9 #[.val (.ref a), .val (.ref b), .val (.int 0)] [])) := c2.trans (by
      refine XS.icmpNo X0.here hexec rfl (hb hbytes d4) rfl (ii_ne_f (by rw [hs])) ?_
      refine iconstV X0.here hexec rfl 0 (hb hbytes d7) (by decide) ?_
      refine XS.istoreN X0.here hexec rfl (hb hbytes d8) rfl rfl ?_
      exact Steps.refl _)
    have loop : ∀ (r i : Nat), i + r = A.slots.size → (∀ j, j < i → yv A j = yv B j) → Steps p.tables e below (s₁.setTop (entryFrame m #[.ref a, .ref b] 3)) (s₁.setTop (mkF m 9 #[.val (.ref a), .val (.ref b), .val (.int (Int32.ofNat i))] [])) → ∃ (pc : Nat) (Ls : Array Slot) (v : Int32), (pc = 25 ∨ pc = 33) ∧ ((v = 1 ∧ EqC A B) ∨ (v = 0 ∧ ¬ EqC A B)) ∧ Steps p.tables e below (s₁.setTop (entryFrame m #[.ref a, .ref b] 3)) (s₁.setTop (mkF m pc Ls [.int v])) := by
      intro r
      induction r with
      | zero =>
        intro i hi he cl
        exact ⟨33, _, 1, Or.inr rfl, Or.inl ⟨rfl, hs, fun j hj => he j (by omega)⟩, cl.trans (by
          refine XS.iloadN X0.here hexec rfl (hb hbytes d9) rfl ?_
          refine XS.aloadN X0.here hexec rfl (hb hbytes d10) rfl rfl ?_
          refine X0.alen hexec hA0 rfl rfl (hb hbytes d11) ?_
          refine XS.icmpYes X0.here hexec rfl (pc0 := 12) rfl (hb hbytes d12) rfl (ii_ge_t (nlt32 (by omega) (by omega))) (by decide) rfl ?_
          refine iconstV X0.here hexec rfl 1 (hb hbytes d32) (by decide) ?_
          exact Steps.refl _)⟩
      | succ r ih =>
        intro i hi he cl
        have c4 : Steps p.tables e below (s₁.setTop (entryFrame m #[.ref a, .ref b] 3)) (s₁.setTop (mkF m 21 #[.val (.ref a), .val (.ref b), .val (.int (Int32.ofNat i))] [.int (yv B i), .int (yv A i)])) := cl.trans (by
          refine XS.iloadN X0.here hexec rfl (hb hbytes d9) rfl ?_
          refine XS.aloadN X0.here hexec rfl (hb hbytes d10) rfl rfl ?_
          refine X0.alen hexec hA0 rfl rfl (hb hbytes d11) ?_
          refine XS.icmpNo X0.here hexec rfl (hb hbytes d12) rfl (ii_ge_f (lt32 (by omega) (by omega))) ?_
          refine XS.aloadN X0.here hexec rfl (hb hbytes d15) rfl rfl ?_
          refine XS.iloadN X0.here hexec rfl (hb hbytes d16) rfl ?_
          refine X0.aget hexec hA0 rfl (yv_get hA tA (i := i) (by omega)) rfl rfl (hb hbytes d17) ?_
          refine XS.aloadN X0.here hexec rfl (hb hbytes d18) rfl rfl ?_
          refine XS.iloadN X0.here hexec rfl (hb hbytes d19) rfl ?_
          refine X0.aget hexec hB0 rfl (yv_get hB tB (i := i) (by omega)) rfl rfl (hb hbytes d20) ?_
          exact Steps.refl _)
        by_cases hv : yv A i = yv B i
        · have c5 : Steps p.tables e below (s₁.setTop (entryFrame m #[.ref a, .ref b] 3)) (s₁.setTop (mkF m 9 #[.val (.ref a), .val (.ref b), .val (.int (Int32.ofNat i + 1))] [])) := c4.trans (by
            refine XS.icmpYes X0.here hexec rfl (pc0 := 21) rfl (hb hbytes d21) rfl (ii_eq_t hv) (by decide) rfl ?_
            refine iincV X0.here hexec rfl 1 (hb hbytes d26) (by decide) rfl rfl ?_
            refine XS.goto X0.here hexec rfl (pc0 := 29) rfl (hb hbytes d29) (by decide) rfl ?_
            exact Steps.refl _)
          rw [succ32] at c5
          exact ih (i + 1) (by omega) (fun j hj => by
            by_cases e : j = i
            · rw [e]; exact hv
            · exact he j (by omega)) c5
        · exact ⟨25, _, 0, Or.inl rfl, Or.inr ⟨rfl, fun q => hv (q.2 i (by omega))⟩, c4.trans (by
            refine XS.icmpNo X0.here hexec rfl (hb hbytes d21) rfl (ii_eq_f hv) ?_
            refine iconstV X0.here hexec rfl 0 (hb hbytes d24) (by decide) ?_
            exact Steps.refl _)⟩
    obtain ⟨pc, Ls, v, hpc, hv, cz⟩ := loop A.slots.size 0 (by omega) (fun j hj => absurd hj (Nat.not_lt_zero j)) c3
    have nv : narrow .boolean (.int v) = .int v := by rcases hv with ⟨rfl, -⟩ | ⟨rfl, -⟩ <;> rfl
    rcases hpc with rfl | rfl
    · exact ⟨s₁, some (.int v), _, _, _, X0, rfl, rfl, rfl, (fun h => by cases h), ⟨v, rfl, hh0, hv⟩, fun fs hl => cz.trans (X0.ireturnOut hexec hret nv (Or.inr (Or.inl rfl)) (hb hbytes d25) hl)⟩
    · exact ⟨s₁, some (.int v), _, _, _, X0, rfl, rfl, rfl, (fun h => by cases h), ⟨v, rfl, hh0, hv⟩, fun fs hl => cz.trans (X0.ireturnOut hexec hret nv (Or.inr (Or.inl rfl)) (hb hbytes d33) hl)⟩
  · have c3 : Steps p.tables e below (s₁.setTop (entryFrame m #[.ref a, .ref b] 3)) (s₁.setTop (mkF m 35 #[.val (.ref a), .val (.ref b), .unset] [.int 0])) := c2.trans (by
      refine XS.icmpYes X0.here hexec rfl (pc0 := 4) rfl (hb hbytes d4) rfl (ii_ne_t (ne32 a31 b31 hs)) (by decide) rfl ?_
      refine iconstV X0.here hexec rfl 0 (hb hbytes d34) (by decide) ?_
      exact Steps.refl _)
    exact ⟨s₁, some (.int 0), _, _, _, X0, rfl, rfl, rfl, (fun h => by cases h), ⟨0, rfl, hh0, Or.inr ⟨rfl, fun q => hs q.1⟩⟩, fun fs hl => c3.trans (X0.ireturnOut hexec hret rfl (Or.inr (Or.inl rfl)) (hb hbytes d35) hl)⟩
end LEq
theorem Cod.ty {cd : Int32} {n : Nat} {f : Nat → Int32} {V : Cell} (h : Cod cd n f V) : Typed .byte V := fun i v hv => by
  have hi : i < V.slots.size := (Array.getElem?_eq_some_iff.mp hv).1
  rcases h with ⟨-, k1, k2⟩ | ⟨-, k1, k2, -⟩
  · rw [(k2 i (by omega)).1] at hv; cases hv; exact fits_lo8 _
  · rcases Nat.mod_two_eq_zero_or_one i with e | e
    · obtain ⟨j, rfl⟩ : ∃ j, i = 2 * j := ⟨i / 2, by omega⟩
      rw [(k2 j (by omega)).1] at hv; cases hv; exact fits_lo8 _
    · obtain ⟨j, rfl⟩ : ∃ j, i = 2 * j + 1 := ⟨i / 2, by omega⟩
      rw [(k2 j (by omega)).2] at hv; cases hv; exact fits_lo8 _
/-- the same text -/
def SameT (n : Nat) (f : Nat → Int32) (k : Nat) (g : Nat → Int32) : Prop := n = k ∧ ∀ j, j < n → f j = g j
theorem lo8_inj {x y : Int32} (h0 : ¬ x < 0) (h1 : ¬ 255 < x) (k0 : ¬ y < 0) (k1 : ¬ 255 < y) (h : lo8 x = lo8 y) : x = y := by
  rw [← lo8_mask h0 h1, ← lo8_mask k0 k1, h]
/-- arrays coded by one coder are equal just where the texts are -/
theorem Cod.eqv {cd : Int32} {n k : Nat} {f g : Nat → Int32} {V V' : Cell} (h : Cod cd n f V) (h' : Cod cd k g V') (hf : ∀ j, j < n → ¬ f j < 0 ∧ ¬ 65535 < f j) (hg : ∀ j, j < k → ¬ g j < 0 ∧ ¬ 65535 < g j) : EqC V V' ↔ SameT n f k g := by
  have yvv : ∀ {W : Cell} {i : Nat} {x : Int32}, W.slots[i]? = some (.int x) → yv W i = x := fun q => by unfold yv; rw [q]
  rcases h with ⟨rfl, k1, k2⟩ | ⟨rfl, k1, k2, -⟩
  · rcases h' with ⟨-, m1, m2⟩ | ⟨e, -⟩
    · constructor
      · rintro ⟨e1, e2⟩
        refine ⟨by omega, fun j hj => ?_⟩
        have q := e2 j (by omega)
        rw [yvv (k2 j hj).1, yvv (m2 j (by omega)).1] at q
        exact lo8_inj (hf j hj).1 (k2 j hj).2 (hg j (by omega)).1 (m2 j (by omega)).2 q
      · rintro ⟨rfl, e2⟩
        refine ⟨by omega, fun j hj => ?_⟩
        rw [yvv (k2 j (by omega)).1, yvv (m2 j (by omega)).1, e2 j (by omega)]
    · exact absurd e (by decide)
  · rcases h' with ⟨e, -⟩ | ⟨-, m1, m2, -⟩
    · exact absurd e (by decide)
    · constructor
      · rintro ⟨e1, e2⟩
        refine ⟨by omega, fun j hj => ?_⟩
        have q1 := e2 (2 * j) (by omega)
        have q2 := e2 (2 * j + 1) (by omega)
        rw [yvv (k2 j hj).1, yvv (m2 j (by omega)).1] at q1
        rw [yvv (k2 j hj).2, yvv (m2 j (by omega)).2] at q2
        rw [← pair_says (hf j hj).1 (hf j hj).2, ← pair_says (hg j (by omega)).1 (hg j (by omega)).2, q1, q2]
      · rintro ⟨rfl, e2⟩
        refine ⟨by omega, fun i hi => ?_⟩
        rcases Nat.mod_two_eq_zero_or_one i with e | e
        · obtain ⟨j, rfl⟩ : ∃ j, i = 2 * j := ⟨i / 2, by omega⟩
          rw [yvv (k2 j (by omega)).1, yvv (m2 j (by omega)).1, e2 j (by omega)]
        · obtain ⟨j, rfl⟩ : ∃ j, i = 2 * j + 1 := ⟨i / 2, by omega⟩
          rw [yvv (k2 j (by omega)).2, yvv (m2 j (by omega)).2, e2 j (by omega)]
/-- two codings differ: so do the texts -/
theorem Cod.dif {cd cd' : Int32} {n k : Nat} {f g : Nat → Int32} {V V' : Cell} (h : Cod cd n f V) (h' : Cod cd' k g V') (hne : ¬ cd = cd') : ¬ SameT n f k g := by
  rintro ⟨rfl, e⟩
  rcases h with ⟨rfl, -, k2⟩ | ⟨rfl, -, -, j, hj, hw⟩
  · rcases h' with ⟨rfl, -⟩ | ⟨-, -, -, j, hj, hw⟩
    · exact hne rfl
    · exact (k2 j hj).2 (by rw [e j hj]; exact hw)
  · rcases h' with ⟨-, -, m2⟩ | ⟨rfl, -⟩
    · exact (m2 j hj).2 (by rw [← e j hj]; exact hw)
    · exact hne rfl
/-- an object of exactly C is an instance of C -/
theorem cinst {p : Program} {l : Launch} {e : Env} {R : Room} {s : State} {m : MethodId} {args : Array Value} {below : List Frame} {meth : Method} {c : Code} {T : State} {locs : List Loc} {cells slots : Nat} (X : Stand p l e R s m args below meth c T locs cells slots) (hexec : p.tables.exec = Jvm.exec) {own C : String} {index : Nat} (hown : s.vm.findClass own = some m.cls) (hlink : (Cond.classLink own index C).before args s = true) {a : Addr} (hE : Exact C a T)
    {g : JFrame} (hg : g.method = m) {rest : List Value} (hstack : g.stack = .ref a :: rest) (hdg : decode c.code g.pc = .ok (.instanceof index, 3)) :
    ∃ T', Stand p l e R s m args below meth c T' locs cells slots ∧ T'.heap = T.heap ∧ ∀ target, Steps p.tables e below (T'.setTop { g with pc := g.pc + 3, stack := .int 1 :: rest }) target → Steps p.tables e below (T.setTop g) target := by
  obtain ⟨cB, h1, D, h2, h3, h4⟩ := hE
  have h1' : s.vm.findClass C = some cB := by rw [← X.warmed.alike.findClass]; exact h1
  obtain ⟨vm', X', st⟩ := X.instanceofYes hexec hown hlink h2 h4 h1' (by rw [h3]; exact Jvm.Free.SB.assignable_self _ _) hg hstack hdg
  exact ⟨_, X', rfl, st⟩
theorem cself {p : Program} {l : Launch} {e : Env} {R : Room} {s : State} {m : MethodId} {args : Array Value} {below : List Frame} {meth : Method} {c : Code} {T : State} {locs : List Loc} {cells slots : Nat} (X : Stand p l e R s m args below meth c T locs cells slots) (hexec : p.tables.exec = Jvm.exec) {own C : String} {index : Nat} (hown : s.vm.findClass own = some m.cls) (hlink : (Cond.classLink own index C).before args s = true) {a : Addr} (hE : Exact C a T)
    {g : JFrame} (hg : g.method = m) {rest : List Value} (hstack : g.stack = .ref a :: rest) (hdg : decode c.code g.pc = .ok (.checkcast index, 3)) :
    ∃ T', Stand p l e R s m args below meth c T' locs cells slots ∧ T'.heap = T.heap ∧ ∀ target, Steps p.tables e below (T'.setTop { g with pc := g.pc + 3, stack := .ref a :: rest }) target → Steps p.tables e below (T.setTop g) target := by
  obtain ⟨cB, h1, D, h2, h3, h4⟩ := hE
  have h1' : s.vm.findClass C = some cB := by rw [← X.warmed.alike.findClass]; exact h1
  obtain ⟨vm', X', st⟩ := X.checkcastYes hexec hown hlink h2 h4 h1' (by rw [h3]; exact Jvm.Free.SB.assignable_self _ _) hg hstack hdg
  exact ⟨_, X', rfl, fun t h => st t (by rw [← hstack] at h; exact h)⟩
namespace SEq
def yN : MethodName := ⟨"java/lang/String", "equals", "(Ljava/lang/Object;)Z"⟩
abbrev yB : ByteArray := jdk_42_method_66_code
theorem d0 : decode yB 0 = .ok (.aload_n 0, 1) := by decide +kernel
theorem d1 : decode yB 1 = .ok (.aload_n 1, 1) := by decide +kernel
theorem d2 : decode yB 2 = .ok (.if_acmp (.ne) 5, 3) := by decide +kernel
theorem d5 : decode yB 5 = .ok (.iconst 1, 1) := by decide +kernel
theorem d6 : decode yB 6 = .ok (.ireturn, 1) := by decide +kernel
theorem d7 : decode yB 7 = .ok (.aload_n 1, 1) := by decide +kernel
theorem d8 : decode yB 8 = .ok (.instanceof 10, 3) := by decide +kernel
theorem d11 : decode yB 11 = .ok (.ifCond (.eq) 43, 3) := by decide +kernel
theorem d14 : decode yB 14 = .ok (.aload_n 1, 1) := by decide +kernel
theorem d15 : decode yB 15 = .ok (.checkcast 10, 3) := by decide +kernel
theorem d18 : decode yB 18 = .ok (.astore_n 2, 1) := by decide +kernel
theorem d19 : decode yB 19 = .ok (.getstatic 38, 3) := by decide +kernel
theorem d22 : decode yB 22 = .ok (.ifCond (.eq) 14, 3) := by decide +kernel
theorem d25 : decode yB 25 = .ok (.aload_n 0, 1) := by decide +kernel
theorem d26 : decode yB 26 = .ok (.getfield 15, 3) := by decide +kernel
theorem d29 : decode yB 29 = .ok (.aload_n 2, 1) := by decide +kernel
theorem d30 : decode yB 30 = .ok (.getfield 15, 3) := by decide +kernel
theorem d33 : decode yB 33 = .ok (.if_icmp (.ne) 21, 3) := by decide +kernel
theorem d36 : decode yB 36 = .ok (.aload_n 0, 1) := by decide +kernel
theorem d37 : decode yB 37 = .ok (.getfield 9, 3) := by decide +kernel
theorem d40 : decode yB 40 = .ok (.aload_n 2, 1) := by decide +kernel
theorem d41 : decode yB 41 = .ok (.getfield 9, 3) := by decide +kernel
theorem d44 : decode yB 44 = .ok (.invokestatic 541, 3) := by decide +kernel
theorem d47 : decode yB 47 = .ok (.ifCond (.eq) 7, 3) := by decide +kernel
theorem d50 : decode yB 50 = .ok (.iconst 1, 1) := by decide +kernel
theorem d51 : decode yB 51 = .ok (.goto 4, 3) := by decide +kernel
theorem d54 : decode yB 54 = .ok (.iconst 0, 1) := by decide +kernel
theorem d55 : decode yB 55 = .ok (.ireturn, 1) := by decide +kernel
def site : List Cond := [.classLink "java/lang/String" 10 "java/lang/String", .fieldLink "java/lang/String" 38 "java/lang/String" "COMPACT_STRINGS" "Z", .fieldLink "java/lang/String" 15 "java/lang/String" "coder" "B", .fieldLink "java/lang/String" 9 "java/lang/String" "value" "[B", LEq.tab] ++ staticW "java/lang/String" 541 LEq.yN
def tab : Cond := tabOf yN yB 3 (some .boolean) site
def P (x t : Addr) (V : Cell) (cd : Int32) (n : Nat) (f : Nat → Int32) (y t' : Addr) (V' : Cell) (cd' : Int32) (k : Nat) (g : Nat → Int32) (z : Int32) (args : Array Value) (s : State) : Prop := args = #[.ref x, .ref y] ∧ Txt x t V cd n f s ∧ Txt y t' V' cd' k g s ∧ StaticIs s "java/lang/String" "COMPACT_STRINGS" "Z" (.int z) ∧ ¬ z = 0
/-- equals(Object) of two Strings: whether the texts are the same -/
theorem law (l : Launch) (x t : Addr) (V : Cell) (cd : Int32) (n : Nat) (f : Nat → Int32) (y t' : Addr) (V' : Cell) (cd' : Int32) (k : Nat) (g : Nat → Int32) (z : Int32) : Law l yN 2 1 1 14 yB 3 (some .boolean) site (P x t V cd n f y t' V' cd' k g z) (Says01 (SameT n f k g)) [] 0 0 := by
  refine Law.of_walk (plainFor_of_name (by decide +kernel)) (by decide +kernel) (by decide +kernel) (by decide) (fun _ _ h => by rw [h.1]; rfl) (fun _ U U' hal hh h => ⟨h.1, h.2.1.mv hal hh, h.2.2.1.mv hal hh, h.2.2.2.1.there hal hh, h.2.2.2.2⟩) (fun r U U' V V' h1 hal h2 h => Says01.mv r U U' V V' h1 hal h2 h) ?_
  intro p e s m args below meth c s₁ X0 hexec hbytes hml hret hlk hnm hown hh0 W hP
  obtain ⟨rfl, hx, hy, s1, hz⟩ := hP
  have c1 : Steps p.tables e below (s₁.setTop (entryFrame m #[.ref x, .ref y] 3)) (s₁.setTop (mkF m 2 #[.val (.ref x), .val (.ref y), .unset] [.ref y, .ref x])) := Steps.trans (entry rfl) (by
    show Steps p.tables e below (s₁.setTop (mkF m 0 #[.val (.ref x), .val (.ref y), .unset] [])) _
    refine XS.aloadN X0.here hexec rfl (hb hbytes d0) rfl rfl ?_
    refine XS.aloadN X0.here hexec rfl (hb hbytes d1) rfl rfl ?_
    exact Steps.refl _)
  by_cases hxy : x = y
  · have c2 : Steps p.tables e below (s₁.setTop (entryFrame m #[.ref x, .ref y] 3)) (s₁.setTop (mkF m 6 #[.val (.ref x), .val (.ref y), .unset] [.int 1])) := c1.trans (by
      refine acmpNo X0.here hexec rfl (hb hbytes d2) rfl rfl rfl (by simp [acmp, hxy]) ?_
      refine iconstV X0.here hexec rfl 1 (hb hbytes d5) (by decide) ?_
      exact Steps.refl _)
    subst hxy
    have ec : cd = cd' := by
      obtain ⟨D, fd, a1, a2, a3⟩ := hx.2.2.1
      obtain ⟨D', fd', b1, b2, b3⟩ := hy.2.2.1
      cases a1.symm.trans b1
      obtain ⟨q1, q2, q3, q4⟩ := a2.1
      obtain ⟨r1, r2, r3, r4⟩ := b2.1
      cases q4.symm.trans r4
      cases a3.symm.trans b3; rfl
    have et : t = t' := by
      obtain ⟨D, fd, a1, a2, a3⟩ := hx.2.1
      obtain ⟨D', fd', b1, b2, b3⟩ := hy.2.1
      cases a1.symm.trans b1
      obtain ⟨q1, q2, q3, q4⟩ := a2.1
      obtain ⟨r1, r2, r3, r4⟩ := b2.1
      cases q4.symm.trans r4
      cases a3.symm.trans b3; rfl
    subst ec et
    have ev : V = V' := by cases hx.2.2.2.1.1.symm.trans hy.2.2.2.1.1; rfl
    subst ev
    have hs : SameT n f k g := (Cod.eqv hx.2.2.2.2.1 hy.2.2.2.2.1 hx.2.2.2.2.2 hy.2.2.2.2.2).mp ⟨rfl, fun _ _ => rfl⟩
    exact ⟨s₁, some (.int 1), _, _, _, X0, rfl, rfl, rfl, (fun h => by cases h), ⟨1, rfl, hh0, Or.inl ⟨rfl, hs⟩⟩, fun fs hl => c2.trans (X0.ireturnOut hexec hret rfl (Or.inr (Or.inl rfl)) (hb hbytes d6) hl)⟩
  · have c2 : Steps p.tables e below (s₁.setTop (entryFrame m #[.ref x, .ref y] 3)) (s₁.setTop (mkF m 8 #[.val (.ref x), .val (.ref y), .unset] [.ref y])) := c1.trans (by
      refine acmpYes X0.here hexec rfl (pc0 := 2) rfl (hb hbytes d2) rfl rfl rfl (by simp [acmp, hxy]) (by decide) rfl ?_
      refine XS.aloadN X0.here hexec rfl (hb hbytes d7) rfl rfl ?_
      exact Steps.refl _)
    obtain ⟨T3, X3, q3, st3⟩ := cinst X0 hexec hown (wk W (.classLink "java/lang/String" 10 "java/lang/String")) (hy.mv X0.warmed.alike hh0).1 (g := (mkF m 8 #[.val (.ref x), .val (.ref y), .unset] [.ref y])) rfl (rest := []) rfl (hb hbytes d8)
    have hh3 := q3.trans hh0
    have c4 : Steps p.tables e below (s₁.setTop (entryFrame m #[.ref x, .ref y] 3)) (T3.setTop (mkF m 15 #[.val (.ref x), .val (.ref y), .unset] [.ref y])) := (c2.trans (st3 _ (Steps.refl _))).trans (by
      refine XS.ifNo X3.here hexec rfl (hb hbytes d11) rfl (i0_eq_f (by decide)) ?_
      refine XS.aloadN X3.here hexec rfl (hb hbytes d14) rfl rfl ?_
      exact Steps.refl _)
    obtain ⟨T5, X5, q5, st5⟩ := cself X3 hexec hown (wk W (.classLink "java/lang/String" 10 "java/lang/String")) (hy.mv X3.warmed.alike hh3).1 (g := (mkF m 15 #[.val (.ref x), .val (.ref y), .unset] [.ref y])) rfl (rest := []) rfl (hb hbytes d15)
    have hh5 := q5.trans hh3
    have c6 : Steps p.tables e below (s₁.setTop (entryFrame m #[.ref x, .ref y] 3)) (T5.setTop (mkF m 19 #[.val (.ref x), .val (.ref y), .val (.ref y)] [])) := (c4.trans (st5 _ (Steps.refl _))).trans (by
      refine XS.astoreN X5.here hexec rfl (hb hbytes d18) rfl rfl rfl ?_
      exact Steps.refl _)
    obtain ⟨T7, X7, q7, st7⟩ := X5.sget hexec hown (wk W (.fieldLink "java/lang/String" 38 "java/lang/String" "COMPACT_STRINGS" "Z")) s1 (fun _ _ h => by rw [hh5]; exact h) (g := (mkF m 19 #[.val (.ref x), .val (.ref y), .val (.ref y)] [])) rfl (hb hbytes d19)
    have hh7 := q7.trans hh5
    have c8 : Steps p.tables e below (s₁.setTop (entryFrame m #[.ref x, .ref y] 3)) (T7.setTop (mkF m 26 #[.val (.ref x), .val (.ref y), .val (.ref y)] [.ref x])) := (c6.trans (st7 _ (Steps.refl _))).trans (by
      refine XS.ifNo X7.here hexec rfl (hb hbytes d22) rfl (i0_eq_f hz) ?_
      refine XS.aloadN X7.here hexec rfl (hb hbytes d25) rfl rfl ?_
      exact Steps.refl _)
    obtain ⟨T9, X9, q9, st9⟩ := X7.hget hexec hown (wk W (.fieldLink "java/lang/String" 15 "java/lang/String" "coder" "B")) (hx.mv X7.warmed.alike hh7).2.2.1 (g := (mkF m 26 #[.val (.ref x), .val (.ref y), .val (.ref y)] [.ref x])) rfl (rest := []) rfl (hb hbytes d26)
    have hh9 := q9.trans hh7
    have c10 : Steps p.tables e below (s₁.setTop (entryFrame m #[.ref x, .ref y] 3)) (T9.setTop (mkF m 30 #[.val (.ref x), .val (.ref y), .val (.ref y)] [.ref y, .int cd])) := (c8.trans (st9 _ (Steps.refl _))).trans (by
      refine XS.aloadN X9.here hexec rfl (hb hbytes d29) rfl rfl ?_
      exact Steps.refl _)
    obtain ⟨T11, X11, q11, st11⟩ := X9.hget hexec hown (wk W (.fieldLink "java/lang/String" 15 "java/lang/String" "coder" "B")) (hy.mv X9.warmed.alike hh9).2.2.1 (g := (mkF m 30 #[.val (.ref x), .val (.ref y), .val (.ref y)] [.ref y, .int cd])) rfl (rest := [.int cd]) rfl (hb hbytes d30)
    have hh11 := q11.trans hh9
    have c12 : Steps p.tables e below (s₁.setTop (entryFrame m #[.ref x, .ref y] 3)) (T11.setTop (mkF m 33 #[.val (.ref x), .val (.ref y), .val (.ref y)] [.int cd', .int cd])) := c10.trans (st11 _ (Steps.refl _))
    by_cases hcd : cd = cd'
    · subst hcd
      have c13 : Steps p.tables e below (s₁.setTop (entryFrame m #[.ref x, .ref y] 3)) (T11.setTop (mkF m 37 #[.val (.ref x), .val (.ref y), .val (.ref y)] [.ref x])) := c12.trans (by
        refine XS.icmpNo X11.here hexec rfl (hb hbytes d33) rfl (ii_ne_f rfl) ?_
        refine XS.aloadN X11.here hexec rfl (hb hbytes d36) rfl rfl ?_
        exact Steps.refl _)
      obtain ⟨T14, X14, q14, st14⟩ := X11.hget hexec hown (wk W (.fieldLink "java/lang/String" 9 "java/lang/String" "value" "[B")) (hx.mv X11.warmed.alike hh11).2.1 (g := (mkF m 37 #[.val (.ref x), .val (.ref y), .val (.ref y)] [.ref x])) rfl (rest := []) rfl (hb hbytes d37)
      have hh14 := q14.trans hh11
      have c15 : Steps p.tables e below (s₁.setTop (entryFrame m #[.ref x, .ref y] 3)) (T14.setTop (mkF m 41 #[.val (.ref x), .val (.ref y), .val (.ref y)] [.ref y, .ref t])) := (c13.trans (st14 _ (Steps.refl _))).trans (by
        refine XS.aloadN X14.here hexec rfl (hb hbytes d40) rfl rfl ?_
        exact Steps.refl _)
      obtain ⟨T16, X16, q16, st16⟩ := X14.hget hexec hown (wk W (.fieldLink "java/lang/String" 9 "java/lang/String" "value" "[B")) (hy.mv X14.warmed.alike hh14).2.1 (g := (mkF m 41 #[.val (.ref x), .val (.ref y), .val (.ref y)] [.ref y, .ref t])) rfl (rest := [.ref t]) rfl (hb hbytes d41)
      have hh16 := q16.trans hh14
      have c17 : Steps p.tables e below (s₁.setTop (entryFrame m #[.ref x, .ref y] 3)) (T16.setTop (mkF m 44 #[.val (.ref x), .val (.ref y), .val (.ref y)] [.ref t', .ref t])) := c15.trans (st16 _ (Steps.refl _))
      obtain ⟨v18, T18, X18, E18, g18⟩ := X16.callS hexec (LEq.law l t V t' V') hown (wks W (staticW "java/lang/String" 541 LEq.yN)) (wk W LEq.tab) (W := 0) (Nat.le_of_ble_eq_true rfl) (Nat.le_of_ble_eq_true rfl) (Nat.le_refl _) (Nat.le_refl _) (g := (mkF m 44 #[.val (.ref x), .val (.ref y), .val (.ref y)] [.ref t', .ref t])) rfl (by rw [hml]; rfl) c17 (argsL := [.ref t, .ref t']) (rest := []) rfl rfl (by show 2 * 0 + 0 ≤ _; decide) (hb hbytes d44) (⟨rfl, hx.2.2.2.1.mv X16.warmed.alike hh16, hx.2.2.2.2.1.ty, hy.2.2.2.1.mv X16.warmed.alike hh16, hy.2.2.2.2.1.ty⟩)
      obtain ⟨v, rfl, q18, hv⟩ := E18
      have iff := Cod.eqv hx.2.2.2.2.1 hy.2.2.2.2.1 hx.2.2.2.2.2 hy.2.2.2.2.2
      rcases hv with ⟨rfl, he⟩ | ⟨rfl, he⟩
      · have c19 : Steps p.tables e below (s₁.setTop (entryFrame m #[.ref x, .ref y] 3)) (T18.setTop (mkF m 55 #[.val (.ref x), .val (.ref y), .val (.ref y)] [.int 1])) := Steps.trans g18 (by
          refine XS.ifNo X18.here hexec rfl (hb hbytes d47) rfl (i0_eq_f (by decide)) ?_
          refine iconstV X18.here hexec rfl 1 (hb hbytes d50) (by decide) ?_
          refine XS.goto X18.here hexec rfl (pc0 := 51) rfl (hb hbytes d51) (by decide) rfl ?_
          exact Steps.refl _)
        exact ⟨T18, some (.int 1), _, _, _, X18, rfl, rfl, rfl, (fun h => by cases h), ⟨1, rfl, q18.trans hh16, Or.inl ⟨rfl, iff.mp he⟩⟩, fun fs hl => c19.trans (X18.ireturnOut hexec hret rfl (Or.inr (Or.inl rfl)) (hb hbytes d55) hl)⟩
      · have c19 : Steps p.tables e below (s₁.setTop (entryFrame m #[.ref x, .ref y] 3)) (T18.setTop (mkF m 55 #[.val (.ref x), .val (.ref y), .val (.ref y)] [.int 0])) := Steps.trans g18 (by
          refine XS.ifYes X18.here hexec rfl (pc0 := 47) rfl (hb hbytes d47) rfl (i0_eq_t rfl) (by decide) rfl ?_
          refine iconstV X18.here hexec rfl 0 (hb hbytes d54) (by decide) ?_
          exact Steps.refl _)
        exact ⟨T18, some (.int 0), _, _, _, X18, rfl, rfl, rfl, (fun h => by cases h), ⟨0, rfl, q18.trans hh16, Or.inr ⟨rfl, fun q => he (iff.mpr q)⟩⟩, fun fs hl => c19.trans (X18.ireturnOut hexec hret rfl (Or.inr (Or.inl rfl)) (hb hbytes d55) hl)⟩
    · have c13 : Steps p.tables e below (s₁.setTop (entryFrame m #[.ref x, .ref y] 3)) (T11.setTop (mkF m 55 #[.val (.ref x), .val (.ref y), .val (.ref y)] [.int 0])) := c12.trans (by
        refine XS.icmpYes X11.here hexec rfl (pc0 := 33) rfl (hb hbytes d33) rfl (ii_ne_t hcd) (by decide) rfl ?_
        refine iconstV X11.here hexec rfl 0 (hb hbytes d54) (by decide) ?_
        exact Steps.refl _)
      exact ⟨T11, some (.int 0), _, _, _, X11, rfl, rfl, rfl, (fun h => by cases h), ⟨0, rfl, hh11, Or.inr ⟨rfl, Cod.dif hx.2.2.2.2.1 hy.2.2.2.2.1 hcd⟩⟩, fun fs hl => c13.trans (X11.ireturnOut hexec hret rfl (Or.inr (Or.inl rfl)) (hb hbytes d55) hl)⟩
theorem pays {l : Launch} {R : Room} {p : Program} {e : Env} {below : List Frame} {s : State} {sargs : Array Value} {len W : Nat} (x t : Addr) (V : Cell) (cd : Int32) (n : Nat) (f : Nat → Int32) (y t' : Addr) (V' : Cell) (cd' : Int32) (k : Nat) (g : Nat → Int32) (z : Int32) (htab : tab.before sargs s = true) (hfr : 2 ≤ R.frames) (hlo : W + 28 ≤ R.locals) :
    Back l R p e below s sargs yN len W (fun A₁ a₁ => A₁.cells + 0 ≤ R.cells ∧ A₁.slots + 0 ≤ R.slots ∧ P x t V cd n f y t' V' cd' k g z a₁ A₁.U) (fun A₁ _ v₁ B₁ => Says01 (SameT n f k g) v₁ A₁.U B₁.U ∧ B₁.locs = A₁.locs ++ [] ∧ B₁.cells = A₁.cells + 0 ∧ B₁.slots = A₁.slots + 0) :=
  (law l x t V cd n f y t' V' cd' k g z).pays htab hfr (by omega)
end SEq
end StrChars
namespace StrChars.Road
open Jvm Sem ClassFile Op Lib Jvm.Stand Jvm.Free Jvm.Free.XT
open Jvm.Lib.Cold (StaticIs)
/-- the words of String.equals(Object) -/
abbrev wordsEq : List Jvm.Cond := [.code SEq.yN SEq.yB 3 (some .boolean), .initialized ST, .classLink ST 10 ST, .fieldLink ST 38 ST "COMPACT_STRINGS" "Z", .fieldLink ST 15 ST "coder" "B", .fieldLink ST 9 ST "value" "[B", .methodLink ST 541 LEq.yN, .static LEq.yN, .code LEq.yN LEq.yB 3 (some .boolean), .initialized "java/lang/StringLatin1"]
theorem tabEq_of {a : Array Value} {s : State} (h : ∀ w ∈ wordsEq, w.before a s = true) : SEq.tab.before a s = true := by
  have hl : LEq.tab.before a s = true := unparts (wk h (.code LEq.yN LEq.yB 3 (some .boolean))) (wks h (.initialized LEq.yN.cls :: LEq.site))
  have q := consq hl h
  exact unparts (wk q (.code SEq.yN SEq.yB 3 (some .boolean))) (wks q (.initialized SEq.yN.cls :: SEq.site))
theorem movedEq {Z s : State} {a0 args : Array Value} (hZ : Z.Warmed39 s.vm) (hw : ∀ d ∈ wordsEq, d.before a0 Z = true) : ∀ d ∈ wordsEq, d.before args s = true := fun d hd => by
  have t : ∀ d ∈ wordsEq, (d.onTables && d.keepsFace) = true := by decide +kernel
  exact RoadKit.mv hZ (hw d hd) (t d hd)
/-- the road's facts of a String, as the laws ask it -/
theorem txt_of {Z U : State} {a0 : Array Value} {kI : Nat} (wi : (Jvm.Cond.instantiable ST kI).before a0 Z = true) (al : Z.vm.Alike U.vm) {x t : Addr} {kb : ClassId} {cs : List Int32} {cd N2 : Int32} {vs : List Value} (E : RoadKit.Exa Z U.heap x ST) (V : RoadKit.Fld Z U.heap x ST "value" "[B" (.ref t)) (C : RoadKit.Fld Z U.heap x ST "coder" "B" (.int cd)) (K : RoadKit.Arv Z U.heap t kb .byte N2 vs (.int 0)) (hc : CodA cs cd N2 vs) (hb : ∀ c ∈ cs, ¬ c < 0 ∧ ¬ (65535 : Int32) < c) (l2 : cs.length ≤ 4000) :
    ∃ A, Txt x t A cd cs.length (fun j => cs.getD j 0) U := by
  obtain ⟨A, K1, K2, K3, K4, K5, K6⟩ := K
  have hcod := hc.cod (by omega) K3 K5
  obtain ⟨D, fV, fC, hB, F1, F2, g1, g2, -, -⟩ := strObj wi al E V C
  exact ⟨A, ⟨_, hB.2.2.1, D, hB.1, rfl, by cases q : D.vm <;> first | rfl | exact absurd q (hB.2.1.2 _)⟩, Has.of hB F1 g1, Has.of hB F2 g2, ⟨K1.1, State.isArrayOf_alike al K1.2.1, K1.2.2, by rcases hcod with ⟨-, q, -⟩ | ⟨-, q, -⟩ <;> omega⟩, hcod, fun j hj => by
    have e : cs.getD j 0 = cs[j] := by simp [List.getD_eq_getElem?_getD, hj]
    show ¬ cs.getD j 0 < 0 ∧ ¬ 65535 < cs.getD j 0
    rw [e]; exact hb _ (List.getElem_mem _)⟩
theorem same_list (cs ds : List Int32) : SameT cs.length (fun j => cs.getD j 0) ds.length (fun j => ds.getD j 0) ↔ cs = ds := by
  constructor
  · rintro ⟨e, q⟩
    refine List.ext_getElem e fun j h1 h2 => ?_
    have := q j h1
    simpa [List.getD_eq_getElem?_getD, h1, h2] using this
  · rintro rfl
    exact ⟨rfl, fun _ _ => rfl⟩
/-- **equals(Object) OF TWO SUCH STRINGS**: 1 just where the chars are the same -/
theorem eqW {p : Program} {l : Launch} {e : Env} {R : Room} {s : State} {args : Array Value} {below : List Frame} {len W : Nat} {Z : State} {a0 : Array Value} {h : Heap} (hZ : Z.Warmed39 s.vm) (hw : ∀ d ∈ wordsEq, d.before a0 Z = true) {kI : Nat} (wi : (Jvm.Cond.instantiable ST kI).before a0 Z = true)
    {x t : Addr} {kb : ClassId} {cs : List Int32} {cd N2 : Int32} {vs : List Value} (E : RoadKit.Exa Z h x ST) (V : RoadKit.Fld Z h x ST "value" "[B" (.ref t)) (C : RoadKit.Fld Z h x ST "coder" "B" (.int cd)) (K : RoadKit.Arv Z h t kb .byte N2 vs (.int 0)) (hc : CodA cs cd N2 vs) (hb : ∀ c ∈ cs, ¬ c < 0 ∧ ¬ (65535 : Int32) < c) (l2 : cs.length ≤ 4000)
    {y t' : Addr} {kb' : ClassId} {ds : List Int32} {cd' N2' : Int32} {vs' : List Value} (E' : RoadKit.Exa Z h y ST) (V' : RoadKit.Fld Z h y ST "value" "[B" (.ref t')) (C' : RoadKit.Fld Z h y ST "coder" "B" (.int cd')) (K' : RoadKit.Arv Z h t' kb' .byte N2' vs' (.int 0)) (hc' : CodA ds cd' N2' vs') (hb' : ∀ c ∈ ds, ¬ c < 0 ∧ ¬ (65535 : Int32) < c) (l2' : ds.length ≤ 4000)
    {z : Int32} (S : RoadKit.Sta Z h ST "COMPACT_STRINGS" "Z" (.int z)) (hz : ¬ z = 0) (hfr : 2 ≤ R.frames) (hlo : W + 28 ≤ R.locals) :
    Back l R p e below s args (⟨"java/lang/String", "equals", "(Ljava/lang/Object;)Z"⟩ : MethodName) len W (fun P a => a = #[.ref x, .ref y] ∧ P.U.heap = h ∧ P.cells + 0 ≤ R.cells ∧ P.slots + 0 ≤ R.slots)
      (fun P _ v B => ∃ L, (((v = some (.int 1) ∧ cs = ds) ∨ (v = some (.int 0) ∧ ¬ cs = ds)) ∧ L = [] ∧ B.U.heap = h) ∧ B.locs = P.locs ++ L ∧ B.cells = P.cells + 0 ∧ B.slots = P.slots + 0) := by
  intro m meth c P g ig mk a X hg hsize hdg hW hn hp'
  obtain ⟨rfl, rfl, r1, r2⟩ := hp'
  have al : Z.vm.Alike P.U.vm := hZ.alike.trans X.warmed.alike
  obtain ⟨A, hx⟩ := txt_of wi al E V C K hc hb l2
  obtain ⟨A', hy⟩ := txt_of wi al E' V' C' K' hc' hb' l2'
  obtain ⟨v, B, X', ⟨⟨w, hv, hh, hq⟩, hl, hk, hs⟩, st⟩ := SEq.pays x t A cd cs.length (fun j => cs.getD j 0) y t' A' cd' ds.length (fun j => ds.getD j 0) z (tabEq_of (movedEq hZ hw)) hfr hlo m meth c P g ig mk _ X hg hsize hdg hW hn ⟨r1, r2, rfl, hx, hy, sta_is al S, hz⟩
  refine ⟨v, B, X', ⟨[], ⟨?_, rfl, hh⟩, hl, hk, hs⟩, st⟩
  rcases hq with ⟨rfl, q⟩ | ⟨rfl, q⟩
  · exact Or.inl ⟨hv, (same_list cs ds).mp q⟩
  · exact Or.inr ⟨hv, fun e => q ((same_list cs ds).mpr e)⟩
end StrChars.Road
namespace StrChars.Road
open Jvm Sem ClassFile Op Lib Jvm.Stand Jvm.Free Jvm.Free.XT
open Jvm.Lib.Cold (StaticIs)
/-- what backV says of its String, as the contracts of this text ask it: cs's low bytes, coder 0 -/
theorem codOf {cs : List Int32} {n : Nat} (hn : cs.length = n) (hb : ∀ c ∈ cs, ¬ 255 < c) : CodA cs 0 (Int32.ofNat n) ((cs.map lo8).map Value.int) := Or.inl ⟨rfl, by rw [hn], by simp [List.map_map, Function.comp_def], hb⟩
end StrChars.Road
end Jvm.Pilot.@@N@@

namespace Jvm.Pilot.@@N@@
open Jvm Jvm.ClassFile Sem Op Lib Jvm.Free Jvm.Stand Jvm.LawKit Jvm.RoadKit Bundle Jvm.Pilot.@@N@@.Jvm.D
/-- what a body that writes nothing leaves -/
def Qp (r : Option Value) (h0 : Heap) (n0 : Nat) (v : Option Value) (h : Heap) (L : List Loc) : Prop := v = r ∧ Fr n0 L ∧ h = h0
theorem own_fld {args : Array Value} {s : State} {t : Term} {C n d : String} {x : Addr} {k : Int32} (ht : t.eval args s none [] s = some (.ref x)) (h : (Cond.eq (.field t C n d) (.int k)).value args s none s [] = some true) : Fld s s.heap x C n d (.int k) := by
  obtain ⟨u, v, a1, a2, k1, -⟩ := cmp_v (Or.inl h)
  have a3 : (Term.int k).eval args s none [] s = some (.int k) := rfl
  cases a3.symm.trans a2
  have a4 : u = .int k := by
    cases u <;> simp [Cond.value, a1, a3] at h ⊢
    exact h
  subst a4
  rw [fld_at ht] at a1
  exact Fld.start a1
theorem own_fld_inj {Z : State} {h : Heap} {a : Addr} {C n d : String} {v w : Value} (F : Fld Z h a C n d v) (G : Fld Z h a C n d w) : v = w := by
  obtain ⟨c1, cf1, k1, i1, f1, h1, h2, -, -, -, -, h7⟩ := F
  obtain ⟨c2, cf2, k2, i2, f2, g1, g2, -, -, -, -, g7⟩ := G
  cases h1.symm.trans g1
  cases h2.symm.trans g2
  exact Option.some.inj (h7.symm.trans g7)
theorem own_fld_ne {Z : State} {h : Heap} {a b : Addr} {C n d : String} {v w : Int32} (F : Fld Z h a C n d (.int v)) (G : Fld Z h b C n d (.int w)) (hn : ¬ v = w) : a ≠ b := fun q => by
  subst q
  exact hn (Value.int.inj (own_fld_inj F G))
theorem nar_ref (t : FieldType) (w : Value) (h : w.isRef = true) : narrow t w = w := by
  rcases ref_cases h with rfl | ⟨a, rfl⟩ <;> cases t <;> rfl
theorem own_cat {v : Value} (h : v.isRef = true) : v.category = 1 := by
  rcases ref_cases h with rfl | ⟨a, rfl⟩ <;> rfl
theorem own_ite_ref {c : Prop} [Decidable c] {a b : Value} (ha : a.isRef = true) (hb : b.isRef = true) : (if c then a else b).isRef = true := by
  split <;> assumption

def Fx (Z : State) (h : Heap) (i_COMPACT_STRINGS : Int32) : Prop := (Sta Z h "java/lang/String" "COMPACT_STRINGS" "Z" (.int i_COMPACT_STRINGS)) ∧ (¬ (i_COMPACT_STRINGS = (0 : Int32)))

theorem own_old_le {Z : State} {n0 : Nat} {h : Heap} (O : Old Z n0 h) : n0 ≤ h.size := O.1 ▸ O.2.1
theorem ne_exa_arv {Z : State} {h : Heap} {a b : Addr} {C : String} {kk : Nat} {a0 : Array Value} {k : ClassId} {ty : FieldType} {z : Int32} {vs : List Value} {dv : Value} (E : Exa Z h a C) (w : (Cond.instantiable C kk).before a0 Z = true) (G : Arv Z h b k ty z vs dv) : a ≠ b := by
  obtain ⟨c, A, -⟩ := G
  exact ne_arr E w A

def EL : List (String × Nat) := [("com/example/grotti/grotti/OperationEqualsPinLaw", 7)]
theorem own_EW {Z : State} {ar0 : Array Value} (hw : ∀ d ∈ tables_1, d.before ar0 Z = true) : EW Z ar0 EL := (EW.cons (hw _ (List.mem_of_getElem? (i := 4) rfl)) (by decide) EW.nil)
theorem own_wS {Z : State} {ar0 : Array Value} (hw : ∀ d ∈ tables_1, d.before ar0 Z = true) : ∀ a ∈ Bundle.stringAtoms, a.before ar0 Z = true := fun d hd => hw d ((by decide +kernel : ∀ d ∈ Bundle.stringAtoms, d ∈ tables_1) d hd)
theorem own_rw_mono {s t : State} {o : Outcome} {L : List Loc} {k n k' n' : Nat} (h : ReturnedEndW s o t L k n) (hk : k ≤ k') (hn : n ≤ n') : ReturnedEndW s o t L k' n' := ⟨h.1, h.2.1, h.2.2.1, h.2.2.2.mono hk hn⟩
theorem own_safe_arv {Z : State} {vm : Vm} {h : Heap} {x : Addr} {k : ClassId} {ty : FieldType} {z : Int32} {vs : List Value} {dv : Value} (hal : Z.vm.Alike vm) (F : Arv Z h x k ty z vs dv) (ht : ty ≠ .byte) : Safe Z EL vm h x := by
  obtain ⟨c, A, -⟩ := F
  exact Safe.arr hal A ht
theorem own_up (cs : List Int32) (h : ∀ c ∈ cs, ¬ c < 0 ∧ ¬ (255 : Int32) < c) : ∀ c ∈ cs, ¬ c < 0 ∧ ¬ (65535 : Int32) < c := fun c hc => ⟨(h c hc).1, fun q => (h c hc).2 (by rw [Int32.lt_iff_toInt_lt] at q ⊢; have e1 : (65535 : Int32).toInt = 65535 := rfl; have e2 : (255 : Int32).toInt = 255 := rfl; omega)⟩
def csOf (n c0 c1 : Int32) : List Int32 := if n = (0 : Int32) then [] else if n = (1 : Int32) then [c0] else [c0, c1]
def B8 (x : Int32) : Prop := 0 ≤ x.toInt ∧ x.toInt ≤ 255
theorem own_fin (x : Int32) (h : B8 x) : ∃ k : Fin 256, x = Int32.ofNat k.val := by
  obtain ⟨a, b⟩ := h
  refine ⟨⟨x.toInt.toNat, by omega⟩, Int32.toInt_inj.mp ?_⟩
  rw [Int32.toInt_ofNat_small (by show x.toInt.toNat < 2 ^ 31; omega)]
  show x.toInt = (x.toInt.toNat : Int)
  omega
theorem own_chr {x : Int32} (h : B8 x) : nar .char (x.toUInt32.toUInt16.toUInt32.toInt32) = x := by
  obtain ⟨k, rfl⟩ := own_fin x h
  exact (by decide +kernel : ∀ k : Fin 256, nar .char ((Int32.ofNat k.val).toUInt32.toUInt16.toUInt32.toInt32) = Int32.ofNat k.val) k
theorem own_chr0 {x : Int32} (h : B8 x) : x.toUInt32.toUInt16.toUInt32.toInt32 = x := by
  obtain ⟨k, rfl⟩ := own_fin x h
  exact (by decide +kernel : ∀ k : Fin 256, (Int32.ofNat k.val).toUInt32.toUInt16.toUInt32.toInt32 = Int32.ofNat k.val) k
theorem own_bt {x : Int32} (h : B8 x) : nar .byte (x.toUInt32.toUInt16.toUInt32.toInt32.toInt8.toInt32) = x.toInt8.toInt32 := by
  obtain ⟨k, rfl⟩ := own_fin x h
  exact (by decide +kernel : ∀ k : Fin 256, nar .byte ((Int32.ofNat k.val).toUInt32.toUInt16.toUInt32.toInt32.toInt8.toInt32) = (Int32.ofNat k.val).toInt8.toInt32) k
theorem own_b0 : nar .byte (0 : Int32) = (0 : Int32) := by decide
theorem own_255 {x : Int32} (h : B8 x) : ¬ x < 0 ∧ ¬ (255 : Int32) < x := by
  obtain ⟨a, b⟩ := h
  rw [Int32.lt_iff_toInt_lt, Int32.lt_iff_toInt_lt]
  have e1 : (255 : Int32).toInt = 255 := rfl
  have e2 : (0 : Int32).toInt = 0 := rfl
  omega
theorem own_cs255 {n c0 c1 : Int32} (h0 : B8 c0) (h1 : B8 c1) : ∀ c ∈ csOf n c0 c1, ¬ c < 0 ∧ ¬ (255 : Int32) < c := by
  intro c hc
  unfold csOf at hc
  split at hc
  · cases hc
  · split at hc
    · obtain rfl := List.mem_singleton.mp hc; exact own_255 h0
    · rcases List.mem_cons.mp hc with rfl | hc
      · exact own_255 h0
      · obtain rfl := List.mem_singleton.mp hc; exact own_255 h1
theorem own_cslen (n c0 c1 : Int32) : (csOf n c0 c1).length ≤ 4000 := by
  unfold csOf
  split
  · exact Nat.le_of_ble_eq_true rfl
  · split
    · exact Nat.le_of_ble_eq_true rfl
    · exact Nat.le_of_ble_eq_true rfl
theorem own_inst_no {Z : State} {a0 : Array Value} {C S K : String} {n : Nat} (w : (Cond.superclass C S).before a0 Z = true) (w0 : (Cond.noSuperclass S).before a0 Z = true) (wk : (Cond.instantiable K n).before a0 Z = true) (h1 : C ≠ K) (h2 : S ≠ K) : ∃ c t, Z.vm.findClass C = some c ∧ Z.vm.findClass K = some t ∧ Z.vm.assignable c t = false := by
  obtain ⟨t, kt, t1, t2, t3, t4, -⟩ := Cond.instantiable_spec wk
  obtain ⟨o, ko, o1, o2, o3, -⟩ := Cond.noSuperclass_spec w0
  obtain ⟨c, c1⟩ := found_sup w
  obtain ⟨p, k, kp, p1, p2, p3, p4, p5, p6, p7⟩ := Cond.superclass_spec c1 w
  cases o1.symm.trans p1
  have ne1 := ids_ne c1 t1 h1
  have ne2 := ids_ne o1 t1 h2
  have t5 : kt.isInterface = false := by
    cases hi : kt.isInterface
    · rfl
    · rw [hi] at t4; cases t4
  have n2 : ∀ fuel, Z.vm.isSubclassAux fuel o t = false := fun fuel => by
    cases fuel with
    | zero => rfl
    | succ f => simp [Vm.isSubclassAux, ne2, o2, o3]
  have n3 : ∀ fuel, Z.vm.isSubclassAux fuel c t = false := fun fuel => by
    cases fuel with
    | zero => rfl
    | succ f => simp [Vm.isSubclassAux, ne1, p2, p4, n2]
  refine ⟨c, t, c1, t1, ?_⟩
  show Z.vm.assignableAux (255 + 1) c t = false
  simp [Vm.assignableAux, ne1, p2, t2, p5, t3, t5, Vm.isSubclass, n3]
def eqR (a b c d : List Int32) : Int32 := if a = b then (if c = d then (1 : Int32) else (0 : Int32)) else (0 : Int32)

theorem d14_0 : decode jdk_43_method_3_code 0 = .ok (.iload_n 0, 1) := by decide +kernel
theorem d14_1 : decode jdk_43_method_3_code 1 = .ok (.sipush 255, 3) := by decide +kernel
theorem d14_4 : decode jdk_43_method_3_code 4 = .ok (.if_icmp .gt 7, 3) := by decide +kernel
theorem d14_7 : decode jdk_43_method_3_code 7 = .ok (.iconst 1, 1) := by decide +kernel
theorem d14_8 : decode jdk_43_method_3_code 8 = .ok (.goto 4, 3) := by decide +kernel
theorem d14_12 : decode jdk_43_method_3_code 12 = .ok (.ireturn, 1) := by decide +kernel
theorem pn_14 : plainName "java/lang/StringLatin1" = true := by first | (simp [plainName, overriddenIn]; done) | decide +kernel
theorem ef_14 (m : MethodId) (p0 : Int32) : entryFrame m #[(.int p0)] 1 = mkF m 0 #[.val (.int p0)] [] := by first | (simp [entryFrame, mkF, argsToLocals, Value.category]; done) | rfl
def Q14 (Z : State) (p0 : Int32) (i_COMPACT_STRINGS : Int32)  (h0 : Heap) (n0 : Nat) (v : Option Value) (h : Heap) (L : List Loc) : Prop := v = some (.int (1 : Int32)) ∧ Fr n0 L ∧ Old Z n0 h ∧ Keep h0 h []
set_option maxRecDepth 65536 in
set_option maxHeartbeats 40000000 in
theorem rm14 (l : Launch) (Z : State) (ar0 : Array Value) (hw : ∀ d ∈ tables_1, d.before ar0 Z = true) (ws : List Jvm.Cond) (p0 : Int32) (i_COMPACT_STRINGS : Int32)  (h0 : Heap) (n0 : Nat) (O0 : Old Z n0 h0) (F : Fx Z Z.heap i_COMPACT_STRINGS) (hc_4 : ¬ ((255 : Int32) < p0)) :
    MetFree l (⟨"java/lang/StringLatin1", "canEncode", "(C)Z"⟩ : MethodName) (head1 ((Jvm.Cond.code (⟨"java/lang/StringLatin1", "canEncode", "(C)Z"⟩ : MethodName) jdk_43_method_3_code 1 (some .boolean)) :: ws) ({ frames := 0, cells := 0, slots := 0, locals := 0 } : Room)) (fun a U => a = #[(.int p0)] ∧ Z.Warmed39 U.vm ∧ U.heap = h0) (fun _ _ _ _ _ => True) (fun _ U o U' => ∃ v L, o = .returned v ∧ Q14 Z p0 i_COMPACT_STRINGS  h0 n0 v U'.heap L ∧ FrameEnd U o U' L ({ frames := 0, cells := 0, slots := 0, locals := 0 } : Room).cells ({ frames := 0, cells := 0, slots := 0, locals := 0 } : Room).slots) := by
  obtain ⟨S_COMPACT_STRINGS, P_COMPACT_STRINGS⟩ := id F
  refine MetFree.of_bodySF (plainFor_of_name pn_14) hisR ?_
  intro p e s m args below meth c s₁ Bd hml0 hP hK
  obtain ⟨rfl, hZ, hh⟩ := hP
  have hx := Bd.exec
  have hby := Bd.bytes
  have hml : c.maxLocals = 1 := hml0
  have hown : s.vm.findClass "java/lang/StringLatin1" = some m.cls := findClass_of_methodNamed Bd.named
  have hnm := (name_of_methodNamed Bd.named Bd.method).1
  have X0 : Stand p l e ({ frames := 0, cells := 0, slots := 0, locals := 0 } : Room) s m #[(.int p0)] below meth c s₁ [] 0 0 := Stand.of_body Bd
  have e0 : s₁.heap = h0 := by rw [← hh, Bd.state]; rfl
  have N0 := Fr.nil n0
  have K0 : Keep h0 h0 [] := Keep.refl _ _
  have pre0 : ∀ t, Steps p.tables e below (s₁.setTop (mkF m 0 #[.val (.int p0)] [])) t → Steps p.tables e below (s₁.setTop (entryFrame m #[(.int p0)] 1)) t := fun t k => castTop (ef_14 m p0) k
  obtain ⟨fs, hr, hrun, hended, hW, hsame⟩ := X0.leave (v := some (.int (1 : Int32))) (fun h => by rw [Bd.returns] at h; cases h)
  refine ⟨_, _, pre0 _ ?_, hrun, hended, _, _, rfl, ?_, ⟨_, rfl⟩, hW, hsame.mono (by decide) (by decide)⟩
  · show Steps p.tables e below (s₁.setTop (mkF m 0 #[.val (.int p0)] [])) _
    refine XS.iloadN X0.here hx rfl (hb hby d14_0) rfl ?_
    show Steps p.tables e below (s₁.setTop (mkF m 1 #[.val (.int p0)] [(.int p0)])) _
    refine XS.sipush X0.here hx rfl (hb hby d14_1) ?_
    show Steps p.tables e below (s₁.setTop (mkF m 4 #[.val (.int p0)] [(.int (255 : Int32)), (.int p0)])) _
    refine XS.icmpNo X0.here hx rfl (hb hby d14_4) rfl (flt hc_4).2.2.1 ?_
    show Steps p.tables e below (s₁.setTop (mkF m 7 #[.val (.int p0)] [])) _
    refine XS.iconst X0.here hx rfl (hb hby d14_7) ?_
    show Steps p.tables e below (s₁.setTop (mkF m 8 #[.val (.int p0)] [(.int (1 : Int32))])) _
    refine XS.goto X0.here hx rfl (pc0 := 8) (pc' := 12) rfl (hb hby d14_8) (by decide) (by decide) ?_
    show Steps p.tables e below (s₁.setTop (mkF m 12 #[.val (.int p0)] [(.int (1 : Int32))])) _
    exact retN X0 hx (t := .boolean) Bd.returns (by simp) (hb hby d14_12) hr
  · show Q14 Z p0 i_COMPACT_STRINGS  h0 n0 _ s₁.heap _
    rw [e0]
    exact ⟨rfl, N0, O0, K0⟩

theorem d15_0 : decode jdk_43_method_46_code 0 = .ok (.iconst 1, 1) := by decide +kernel
theorem d15_1 : decode jdk_43_method_46_code 1 = .ok (.newarray .byte, 2) := by decide +kernel
theorem d15_3 : decode jdk_43_method_46_code 3 = .ok (.dup, 1) := by decide +kernel
theorem d15_4 : decode jdk_43_method_46_code 4 = .ok (.iconst 0, 1) := by decide +kernel
theorem d15_5 : decode jdk_43_method_46_code 5 = .ok (.iload_n 0, 1) := by decide +kernel
theorem d15_6 : decode jdk_43_method_46_code 6 = .ok (.i2b, 1) := by decide +kernel
theorem d15_7 : decode jdk_43_method_46_code 7 = .ok (.bastore, 1) := by decide +kernel
theorem d15_8 : decode jdk_43_method_46_code 8 = .ok (.areturn, 1) := by decide +kernel
theorem pn_15 : plainName "java/lang/StringLatin1" = true := by first | (simp [plainName, overriddenIn]; done) | decide +kernel
theorem ef_15 (m : MethodId) (p0 : Int32) : entryFrame m #[(.int p0)] 1 = mkF m 0 #[.val (.int p0)] [] := by first | (simp [entryFrame, mkF, argsToLocals, Value.category]; done) | rfl
def Q15 (Z : State) (p0 : Int32) (i_COMPACT_STRINGS : Int32)  (h0 : Heap) (n0 : Nat) (v : Option Value) (h : Heap) (L : List Loc) : Prop := ∃ (b1 : Addr) (k1 : ClassId), v = some (.ref b1) ∧ Fr n0 L ∧ Old Z n0 h ∧ Keep h0 h [] ∧ h0.size ≤ b1 ∧ (Arv Z h b1 k1 .byte (1 : Int32) [(.int (nar .byte (p0.toInt8.toInt32)))] (.int (0 : Int32)))
set_option maxRecDepth 65536 in
set_option maxHeartbeats 40000000 in
theorem rm15 (l : Launch) (Z : State) (ar0 : Array Value) (hw : ∀ d ∈ tables_1, d.before ar0 Z = true) (ws : List Jvm.Cond) (p0 : Int32) (i_COMPACT_STRINGS : Int32)  (h0 : Heap) (n0 : Nat) (O0 : Old Z n0 h0) (F : Fx Z Z.heap i_COMPACT_STRINGS)  :
    MetFree l (⟨"java/lang/StringLatin1", "toBytes", "(C)[B"⟩ : MethodName) (head1 ((Jvm.Cond.code (⟨"java/lang/StringLatin1", "toBytes", "(C)[B"⟩ : MethodName) jdk_43_method_46_code 1 (some (.array .byte))) :: ws) ({ frames := 0, cells := 1, slots := 1, locals := 0 } : Room)) (fun a U => a = #[(.int p0)] ∧ Z.Warmed39 U.vm ∧ U.heap = h0) (fun _ _ _ _ _ => True) (fun _ U o U' => ∃ v L, o = .returned v ∧ Q15 Z p0 i_COMPACT_STRINGS  h0 n0 v U'.heap L ∧ FrameEnd U o U' L ({ frames := 0, cells := 1, slots := 1, locals := 0 } : Room).cells ({ frames := 0, cells := 1, slots := 1, locals := 0 } : Room).slots) := by
  obtain ⟨S_COMPACT_STRINGS, P_COMPACT_STRINGS⟩ := id F
  refine MetFree.of_bodySF (plainFor_of_name pn_15) hisR ?_
  intro p e s m args below meth c s₁ Bd hml0 hP hK
  obtain ⟨rfl, hZ, hh⟩ := hP
  have hx := Bd.exec
  have hby := Bd.bytes
  have hml : c.maxLocals = 1 := hml0
  have hown : s.vm.findClass "java/lang/StringLatin1" = some m.cls := findClass_of_methodNamed Bd.named
  have hnm := (name_of_methodNamed Bd.named Bd.method).1
  have X0 : Stand p l e ({ frames := 0, cells := 1, slots := 1, locals := 0 } : Room) s m #[(.int p0)] below meth c s₁ [] 0 0 := Stand.of_body Bd
  have e0 : s₁.heap = h0 := by rw [← hh, Bd.state]; rfl
  have N0 := Fr.nil n0
  have K0 : Keep h0 h0 [] := Keep.refl _ _
  have pre0 : ∀ t, Steps p.tables e below (s₁.setTop (mkF m 0 #[.val (.int p0)] [])) t → Steps p.tables e below (s₁.setTop (entryFrame m #[(.int p0)] 1)) t := fun t k => castTop (ef_15 m p0) k
  obtain ⟨T1, h1, k1, X1, e1, E1, A1, st1⟩ := newP X0 hx hZ (hw _ (List.mem_of_getElem? (i := 7) rfl)) e0 (g := (mkF m 1 #[.val (.int p0)] [(.int (1 : Int32))])) rfl (hb hby d15_1) rfl (by decide) (cap := 1) (by decide) (by decide) (by decide) (by decide)
  obtain ⟨b1, g1⟩ : ∃ z, z = h0.size := ⟨_, rfl⟩
  rw [← g1] at A1 st1
  have g_b1 : n0 ≤ b1 := Nat.le_trans (own_old_le O0) (Nat.le_of_eq g1.symm)
  have sz_b1 : h0.size ≤ b1 := Nat.le_trans K0.1 (Nat.le_of_eq g1.symm)
  have O1 : Old Z n0 h1 := O0.ext E1
  have K1 : Keep h0 h1 [] := K0.ext E1
  have V_b1 : Arv Z h1 b1 k1 .byte (1 : Int32) [(.int (0 : Int32))] (.int (0 : Int32)) := (Arv.new A1 (by decide)).pad (pad_rep [] (.int (0 : Int32)) 1)
  obtain ⟨c2, Ar2, q2, S2, M2, Ha2, G2⟩ := id V_b1
  obtain ⟨T3, h3, X3, e3, W3, st3⟩ := stB X1 hx hZ e1 Ar2 (j := (0 : Int32)) (inb_of S2 ⟨by decide, by decide⟩) (g := (mkF m 7 #[.val (.int p0)] [(.int (p0.toInt8.toInt32)), (.int (0 : Int32)), (.ref b1), (.ref b1)])) rfl rfl (hb hby d15_7)
  have N3 := Fr.snoc X3 N0 g_b1
  have O3 : Old Z n0 h3 := O1.wr W3 g_b1
  have K3 : Keep h0 h3 [] := K1.wr W3 (Or.inr sz_b1)
  have V_b1 : Arv Z h3 b1 k1 .byte (1 : Int32) [(.int (nar .byte (p0.toInt8.toInt32)))] (.int (0 : Int32)) := Arv.set Ar2 q2 S2 M2 Ha2 G2 (fits_nar_byte _) W3 0 rfl (Nat.le_of_ble_eq_true rfl)
  obtain ⟨fs, hr, hrun, hended, hW, hsame⟩ := X3.leave (v := some (.ref b1)) (fun h => by rw [Bd.returns] at h; cases h)
  refine ⟨_, _, pre0 _ ?_, hrun, hended, _, _, rfl, ?_, ⟨_, rfl⟩, hW, hsame.mono (by decide) (by decide)⟩
  · show Steps p.tables e below (s₁.setTop (mkF m 0 #[.val (.int p0)] [])) _
    refine XS.iconst X0.here hx rfl (hb hby d15_0) ?_
    show Steps p.tables e below (s₁.setTop (mkF m 1 #[.val (.int p0)] [(.int (1 : Int32))])) _
    refine st1 _ ?_
    show Steps p.tables e below (T1.setTop (mkF m 3 #[.val (.int p0)] [(.ref b1)])) _
    refine XS.dup X1.here hx rfl (hb hby d15_3) rfl rfl ?_
    show Steps p.tables e below (T1.setTop (mkF m 4 #[.val (.int p0)] [(.ref b1), (.ref b1)])) _
    refine XS.iconst X1.here hx rfl (hb hby d15_4) ?_
    show Steps p.tables e below (T1.setTop (mkF m 5 #[.val (.int p0)] [(.int (0 : Int32)), (.ref b1), (.ref b1)])) _
    refine XS.iloadN X1.here hx rfl (hb hby d15_5) rfl ?_
    show Steps p.tables e below (T1.setTop (mkF m 6 #[.val (.int p0)] [(.int p0), (.int (0 : Int32)), (.ref b1), (.ref b1)])) _
    refine XS.i2b X1.here hx rfl (hb hby d15_6) rfl ?_
    show Steps p.tables e below (T1.setTop (mkF m 7 #[.val (.int p0)] [(.int (p0.toInt8.toInt32)), (.int (0 : Int32)), (.ref b1), (.ref b1)])) _
    refine st3 _ ?_
    show Steps p.tables e below (T3.setTop (mkF m 8 #[.val (.int p0)] [(.ref b1)])) _
    exact retOut X3 hx Bd.returns rfl (Or.inr (Or.inr (Or.inr (Or.inr ⟨rfl, rfl, rfl⟩)))) (hb hby d15_8) hr
  · show Q15 Z p0 i_COMPACT_STRINGS  h0 n0 _ T3.heap _
    rw [e3]
    exact ⟨b1, k1, rfl, N3, O3, K3, sz_b1, V_b1⟩

theorem d16_0 : decode jdk_42_method_151_code 0 = .ok (.aload_n 0, 1) := by decide +kernel
theorem d16_1 : decode jdk_42_method_151_code 1 = .ok (.invokespecial 1, 3) := by decide +kernel
theorem d16_4 : decode jdk_42_method_151_code 4 = .ok (.aload_n 0, 1) := by decide +kernel
theorem d16_5 : decode jdk_42_method_151_code 5 = .ok (.aload_n 1, 1) := by decide +kernel
theorem d16_6 : decode jdk_42_method_151_code 6 = .ok (.putfield 9, 3) := by decide +kernel
theorem d16_9 : decode jdk_42_method_151_code 9 = .ok (.aload_n 0, 1) := by decide +kernel
theorem d16_10 : decode jdk_42_method_151_code 10 = .ok (.iload_n 2, 1) := by decide +kernel
theorem d16_11 : decode jdk_42_method_151_code 11 = .ok (.putfield 15, 3) := by decide +kernel
theorem d16_14 : decode jdk_42_method_151_code 14 = .ok (.return_, 1) := by decide +kernel
theorem pn_16 : plainName "java/lang/String" = true := by first | (simp [plainName, overriddenIn]; done) | decide +kernel
theorem ef_16 (m : MethodId) (a0 : Addr) (a1 : Addr) (p2 : Int32) : entryFrame m #[(.ref a0), (.ref a1), (.int p2)] 3 = mkF m 0 #[.val (.ref a0), .val (.ref a1), .val (.int p2)] [] := by first | (simp [entryFrame, mkF, argsToLocals, Value.category]; done) | rfl
def Q16 (Z : State) (a0 : Addr) (a1 : Addr) (p2 : Int32) (i_COMPACT_STRINGS : Int32) (u_value_a0 : Value) (u_coder_a0 : Value) (h0 : Heap) (n0 : Nat) (v : Option Value) (h : Heap) (L : List Loc) : Prop := v = none ∧ Fr n0 L ∧ Old Z n0 h ∧ Keep h0 h [a0] ∧ (Fld Z h a0 "java/lang/String" "value" "[B" (.ref a1)) ∧ (Fld Z h a0 "java/lang/String" "coder" "B" (.int (nar .byte p2)))
set_option maxRecDepth 65536 in
set_option maxHeartbeats 40000000 in
theorem rm16 (l : Launch) (Z : State) (ar0 : Array Value) (hw : ∀ d ∈ tables_1, d.before ar0 Z = true) (ws : List Jvm.Cond) (a0 : Addr) (a1 : Addr) (p2 : Int32) (i_COMPACT_STRINGS : Int32) (u_value_a0 : Value) (u_coder_a0 : Value) (h0 : Heap) (n0 : Nat) (O0 : Old Z n0 h0) (F : Fx Z Z.heap i_COMPACT_STRINGS) (E_a00 : Exa Z h0 a0 "java/lang/String") (F_value_a00 : Fld Z h0 a0 "java/lang/String" "value" "[B" u_value_a0) (g_a0 : n0 ≤ a0) (F_coder_a00 : Fld Z h0 a0 "java/lang/String" "coder" "B" u_coder_a0) :
    MetFree l (⟨"java/lang/String", "<init>", "([BB)V"⟩ : MethodName) (head1 ((Jvm.Cond.code (⟨"java/lang/String", "<init>", "([BB)V"⟩ : MethodName) jdk_42_method_151_code 3 none) :: ws) ({ frames := 1, cells := 0, slots := 0, locals := 12 } : Room)) (fun a U => a = #[(.ref a0), (.ref a1), (.int p2)] ∧ Z.Warmed39 U.vm ∧ U.heap = h0) (fun _ _ _ _ _ => True) (fun _ U o U' => ∃ v L, o = .returned v ∧ Q16 Z a0 a1 p2 i_COMPACT_STRINGS u_value_a0 u_coder_a0 h0 n0 v U'.heap L ∧ FrameEnd U o U' L ({ frames := 1, cells := 0, slots := 0, locals := 12 } : Room).cells ({ frames := 1, cells := 0, slots := 0, locals := 12 } : Room).slots) := by
  obtain ⟨S_COMPACT_STRINGS, P_COMPACT_STRINGS⟩ := id F
  refine MetFree.of_bodySF (plainFor_of_name pn_16) hisR ?_
  intro p e s m args below meth c s₁ Bd hml0 hP hK
  obtain ⟨rfl, hZ, hh⟩ := hP
  have hx := Bd.exec
  have hby := Bd.bytes
  have hml : c.maxLocals = 3 := hml0
  have hown : s.vm.findClass "java/lang/String" = some m.cls := findClass_of_methodNamed Bd.named
  have hnm := (name_of_methodNamed Bd.named Bd.method).1
  have X0 : Stand p l e ({ frames := 1, cells := 0, slots := 0, locals := 12 } : Room) s m #[(.ref a0), (.ref a1), (.int p2)] below meth c s₁ [] 0 0 := Stand.of_body Bd
  have e0 : s₁.heap = h0 := by rw [← hh, Bd.state]; rfl
  have N0 := Fr.nil n0
  have K0 : Keep h0 h0 [a0] := Keep.refl _ _
  have pre0 : ∀ t, Steps p.tables e below (s₁.setTop (mkF m 0 #[.val (.ref a0), .val (.ref a1), .val (.int p2)] [])) t → Steps p.tables e below (s₁.setTop (entryFrame m #[(.ref a0), (.ref a1), (.int p2)] 3)) t := fun t k => castTop (ef_16 m a0 a1 p2) k
  obtain ⟨T1, X1, e1, st1⟩ := initO X0 hx hZ hown (hw _ (List.mem_of_getElem? (i := 24) rfl)) (hw _ (List.mem_of_getElem? (i := 25) rfl)) (hw _ (List.mem_of_getElem? (i := 26) rfl)) e0 (g := (mkF m 1 #[.val (.ref a0), .val (.ref a1), .val (.int p2)] [(.ref a0)])) rfl (by rw [hml]; rfl) rfl (hb hby d16_1) (by decide) (W := 0) (by show 2 * 0 + _ ≤ _; exact Nat.le_of_eq rfl) (by decide)
  have E_a0 := E_a00
  have F_value_a0 := F_value_a00
  obtain ⟨T2, h2, X2, e2, W2, st2⟩ := putF X1 hx hZ hown (host := "") (Or.inl (hw _ (List.mem_of_getElem? (i := 39) rfl))) Via.refl e1 F_value_a0 E_a0 (Or.inr ⟨(hw _ (List.mem_of_getElem? (i := 8) rfl)), rfl, hnm⟩) (hw _ (List.mem_of_getElem? (i := 6) rfl)) (ty := (.array .byte)) (by decide) rfl rfl (g := (mkF m 6 #[.val (.ref a0), .val (.ref a1), .val (.int p2)] [(.ref a1), (.ref a0)])) rfl rfl (hb hby d16_6)
  have N2 := Fr.snoc X2 N0 g_a0
  have O2 : Old Z n0 h2 := O0.wr W2 g_a0
  have K2 : Keep h0 h2 [a0] := K0.wr W2 (Or.inl (List.mem_of_getElem? (i := 0) rfl))
  have E_a0 := (E_a0.wr W2)
  have F_value_a0 := F_value_a0.same W2
  have F_coder_a0 := (F_coder_a00.other W2 (Or.inr (slot_ne (Or.inr (hw _ (List.mem_of_getElem? (i := 9) rfl))) (Or.inr (hw _ (List.mem_of_getElem? (i := 8) rfl))) (by decide) (t := .byte) (t' := (.array .byte)) (by decide) (by decide))))
  obtain ⟨T3, h3, X3, e3, W3, st3⟩ := putFN X2 hx hZ hown (hw _ (List.mem_of_getElem? (i := 38) rfl)) Via.refl e2 F_coder_a0 E_a0 (Or.inr ⟨(hw _ (List.mem_of_getElem? (i := 9) rfl)), rfl, hnm⟩) (hw _ (List.mem_of_getElem? (i := 6) rfl)) (ty := .byte) (v' := (.int (nar .byte p2))) (by decide) rfl (fits_nar_byte _) (g := (mkF m 11 #[.val (.ref a0), .val (.ref a1), .val (.int p2)] [(.int p2), (.ref a0)])) rfl rfl (hb hby d16_11)
  have N3 := Fr.snoc X3 N2 g_a0
  have O3 : Old Z n0 h3 := O2.wr W3 g_a0
  have K3 : Keep h0 h3 [a0] := K2.wr W3 (Or.inl (List.mem_of_getElem? (i := 0) rfl))
  have E_a0 := (E_a0.wr W3)
  have F_value_a0 := (F_value_a0.other W3 (Or.inr (slot_ne (Or.inr (hw _ (List.mem_of_getElem? (i := 8) rfl))) (Or.inr (hw _ (List.mem_of_getElem? (i := 9) rfl))) (by decide) (t := (.array .byte)) (t' := .byte) (by decide) (by decide))))
  have F_coder_a0 := F_coder_a0.same W3
  obtain ⟨fs, hr, hrun, hended, hW, hsame⟩ := X3.leave (v := none) (fun h => rfl)
  refine ⟨_, _, pre0 _ ?_, hrun, hended, _, _, rfl, ?_, ⟨_, rfl⟩, hW, hsame.mono (by decide) (by decide)⟩
  · show Steps p.tables e below (s₁.setTop (mkF m 0 #[.val (.ref a0), .val (.ref a1), .val (.int p2)] [])) _
    refine XS.aloadN X0.here hx rfl (hb hby d16_0) rfl rfl ?_
    show Steps p.tables e below (s₁.setTop (mkF m 1 #[.val (.ref a0), .val (.ref a1), .val (.int p2)] [(.ref a0)])) _
    refine st1 _ ?_
    show Steps p.tables e below (T1.setTop (mkF m 4 #[.val (.ref a0), .val (.ref a1), .val (.int p2)] [])) _
    refine XS.aloadN X1.here hx rfl (hb hby d16_4) rfl rfl ?_
    show Steps p.tables e below (T1.setTop (mkF m 5 #[.val (.ref a0), .val (.ref a1), .val (.int p2)] [(.ref a0)])) _
    refine XS.aloadN X1.here hx rfl (hb hby d16_5) rfl rfl ?_
    show Steps p.tables e below (T1.setTop (mkF m 6 #[.val (.ref a0), .val (.ref a1), .val (.int p2)] [(.ref a1), (.ref a0)])) _
    refine st2 _ ?_
    show Steps p.tables e below (T2.setTop (mkF m 9 #[.val (.ref a0), .val (.ref a1), .val (.int p2)] [])) _
    refine XS.aloadN X2.here hx rfl (hb hby d16_9) rfl rfl ?_
    show Steps p.tables e below (T2.setTop (mkF m 10 #[.val (.ref a0), .val (.ref a1), .val (.int p2)] [(.ref a0)])) _
    refine XS.iloadN X2.here hx rfl (hb hby d16_10) rfl ?_
    show Steps p.tables e below (T2.setTop (mkF m 11 #[.val (.ref a0), .val (.ref a1), .val (.int p2)] [(.int p2), (.ref a0)])) _
    refine st3 _ ?_
    show Steps p.tables e below (T3.setTop (mkF m 14 #[.val (.ref a0), .val (.ref a1), .val (.int p2)] [])) _
    exact X3.returnOut hx Bd.returns (hb hby d16_14) hr
  · show Q16 Z a0 a1 p2 i_COMPACT_STRINGS u_value_a0 u_coder_a0 h0 n0 _ T3.heap _
    rw [e3]
    exact ⟨rfl, N3, O3, K3, F_value_a0, F_coder_a0⟩

theorem d13_0 : decode jdk_42_method_139_code 0 = .ok (.getstatic 38, 3) := by decide +kernel
theorem d13_3 : decode jdk_42_method_139_code 3 = .ok (.ifCond .eq 23, 3) := by decide +kernel
theorem d13_6 : decode jdk_42_method_139_code 6 = .ok (.iload_n 0, 1) := by decide +kernel
theorem d13_7 : decode jdk_42_method_139_code 7 = .ok (.invokestatic 1015, 3) := by decide +kernel
theorem d13_10 : decode jdk_42_method_139_code 10 = .ok (.ifCond .eq 16, 3) := by decide +kernel
theorem d13_13 : decode jdk_42_method_139_code 13 = .ok (.new 10, 3) := by decide +kernel
theorem d13_16 : decode jdk_42_method_139_code 16 = .ok (.dup, 1) := by decide +kernel
theorem d13_17 : decode jdk_42_method_139_code 17 = .ok (.iload_n 0, 1) := by decide +kernel
theorem d13_18 : decode jdk_42_method_139_code 18 = .ok (.invokestatic 1018, 3) := by decide +kernel
theorem d13_21 : decode jdk_42_method_139_code 21 = .ok (.iconst 0, 1) := by decide +kernel
theorem d13_22 : decode jdk_42_method_139_code 22 = .ok (.invokespecial 209, 3) := by decide +kernel
theorem d13_25 : decode jdk_42_method_139_code 25 = .ok (.areturn, 1) := by decide +kernel
theorem pn_13 : plainName "java/lang/String" = true := by first | (simp [plainName, overriddenIn]; done) | decide +kernel
theorem pd_13_18 : parseMethodDescriptor "(C)[B" = some ⟨[.char], some (.array .byte)⟩ := by decide +kernel
theorem pd_13_22 : parseMethodDescriptor "([BB)V" = some ⟨[(.array .byte), .byte], none⟩ := by decide +kernel
theorem pd_13_7 : parseMethodDescriptor "(C)Z" = some ⟨[.char], some .boolean⟩ := by decide +kernel
theorem ef_13 (m : MethodId) (p0 : Int32) : entryFrame m #[(.int p0)] 1 = mkF m 0 #[.val (.int p0)] [] := by first | (simp [entryFrame, mkF, argsToLocals, Value.category]; done) | rfl
def Q13 (Z : State) (p0 : Int32) (i_COMPACT_STRINGS : Int32)  (h0 : Heap) (n0 : Nat) (v : Option Value) (h : Heap) (L : List Loc) : Prop := ∃ (b4 : Addr) (b5_1 : Addr) (k1_5 : ClassId), v = some (.ref b4) ∧ Fr n0 L ∧ Old Z n0 h ∧ Keep h0 h [] ∧ h0.size ≤ b4 ∧ h0.size ≤ b5_1 ∧ b4 ≠ b5_1 ∧ (Exa Z h b4 "java/lang/String") ∧ (Arv Z h b5_1 k1_5 .byte (1 : Int32) [(.int (nar .byte (p0.toInt8.toInt32)))] (.int (0 : Int32))) ∧ (Fld Z h b4 "java/lang/String" "value" "[B" (.ref b5_1)) ∧ (Fld Z h b4 "java/lang/String" "coder" "B" (.int (nar .byte (0 : Int32))))
set_option maxRecDepth 65536 in
set_option maxHeartbeats 40000000 in
theorem rm13 (l : Launch) (Z : State) (ar0 : Array Value) (hw : ∀ d ∈ tables_1, d.before ar0 Z = true) (ws : List Jvm.Cond) (p0 : Int32) (i_COMPACT_STRINGS : Int32)  (h0 : Heap) (n0 : Nat) (O0 : Old Z n0 h0) (F : Fx Z Z.heap i_COMPACT_STRINGS) (hc : ¬ ((255 : Int32) < p0)) :
    MetFree l (⟨"java/lang/String", "valueOf", "(C)Ljava/lang/String;"⟩ : MethodName) (head1 ((Jvm.Cond.code (⟨"java/lang/String", "valueOf", "(C)Ljava/lang/String;"⟩ : MethodName) jdk_42_method_139_code 1 (some (.object "java/lang/String"))) :: ws) ({ frames := 2, cells := 2, slots := 5, locals := 27 } : Room)) (fun a U => a = #[(.int p0)] ∧ Z.Warmed39 U.vm ∧ U.heap = h0) (fun _ _ _ _ _ => True) (fun _ U o U' => ∃ v L, o = .returned v ∧ Q13 Z p0 i_COMPACT_STRINGS  h0 n0 v U'.heap L ∧ FrameEnd U o U' L ({ frames := 2, cells := 2, slots := 5, locals := 27 } : Room).cells ({ frames := 2, cells := 2, slots := 5, locals := 27 } : Room).slots) := by
  obtain ⟨S_COMPACT_STRINGS, P_COMPACT_STRINGS⟩ := id F
  refine MetFree.of_bodySF (plainFor_of_name pn_13) hisR ?_
  intro p e s m args below meth c s₁ Bd hml0 hP hK
  obtain ⟨rfl, hZ, hh⟩ := hP
  have hx := Bd.exec
  have hby := Bd.bytes
  have hml : c.maxLocals = 1 := hml0
  have hown : s.vm.findClass "java/lang/String" = some m.cls := findClass_of_methodNamed Bd.named
  have hnm := (name_of_methodNamed Bd.named Bd.method).1
  have X0 : Stand p l e ({ frames := 2, cells := 2, slots := 5, locals := 27 } : Room) s m #[(.int p0)] below meth c s₁ [] 0 0 := Stand.of_body Bd
  have e0 : s₁.heap = h0 := by rw [← hh, Bd.state]; rfl
  have N0 := Fr.nil n0
  have K0 : Keep h0 h0 [] := Keep.refl _ _
  have pre0 : ∀ t, Steps p.tables e below (s₁.setTop (mkF m 0 #[.val (.int p0)] [])) t → Steps p.tables e below (s₁.setTop (entryFrame m #[(.int p0)] 1)) t := fun t k => castTop (ef_13 m p0) k
  obtain ⟨T1, X1, e1, st1⟩ := getS2 X0 hx hZ hown (host := "") (Or.inl (hw _ (List.mem_of_getElem? (i := 27) rfl))) Via.refl e0 (S_COMPACT_STRINGS.ext O0.2) (g := (mkF m 0 #[.val (.int p0)] [])) rfl (hb hby d13_0)
  have hk2 : ¬ (i_COMPACT_STRINGS = (0 : Int32)) := P_COMPACT_STRINGS
  obtain ⟨_, _, ⟨T3, L3, k3, n3⟩, -, X3, ⟨Lc3, hQ3, l3, y3, z3⟩, st3⟩ := Jvm.LawKit.callS X1 hx (y := (⟨"java/lang/StringLatin1", "canEncode", "(C)Z"⟩ : MethodName)) hown (mvT hZ (hw _ (List.mem_of_getElem? (i := 71) rfl))) (mvT hZ (hw _ (List.mem_of_getElem? (i := 72) rfl))) (mvT hZ (hw _ (List.mem_of_getElem? (i := 66) rfl))) (mvT hZ (hw _ (List.mem_of_getElem? (i := 73) rfl))) (by decide) (backOf (W := 0) (rm14 l Z ar0 hw [] p0 i_COMPACT_STRINGS  h0 n0 O0 F (by first | decide | assumption)) hZ (hw _ (List.mem_of_getElem? (i := 73) rfl)) (hw _ (List.mem_of_getElem? (i := 66) rfl)) (by decide) (by decide)) (g := (mkF m 7 #[.val (.int p0)] [(.int p0)])) rfl (by rw [hml]; rfl) (argsL := [(.int p0)]) (rest := []) (lenOf pd_13_7 rfl) rfl (by show 2 * 0 + _ ≤ _; exact Nat.le_of_eq rfl) (hb hby d13_7) (fun _ _ => ⟨rfl, e1, (by decide : 0 + 0 ≤ _), (by decide : 0 + 0 ≤ _)⟩)
  dsimp only [Pt.U, Pt.locs, Pt.cells, Pt.slots] at X3 l3 y3 z3 st3 hQ3
  subst l3 y3 z3
  obtain ⟨rfl, N3q, O3, Kc3⟩ := hQ3
  have N3 := Fr.app N0 N3q
  have K3 : Keep h0 T3.heap [] := K0.trans Kc3 all0
  obtain ⟨T4, h4, X4, e4, E4, A4, D4, -, st4⟩ := newO X3 hx hZ hown (hw _ (List.mem_of_getElem? (i := 63) rfl)) (hw _ (List.mem_of_getElem? (i := 6) rfl)) (hw _ (List.mem_of_getElem? (i := 5) rfl)) rfl (g := (mkF m 13 #[.val (.int p0)] [])) rfl (hb hby d13_13) (by decide) (by decide)
  obtain ⟨b4, g4⟩ : ∃ z, z = T3.heap.size := ⟨_, rfl⟩
  rw [← g4] at A4 D4 st4
  have g_b4 : n0 ≤ b4 := Nat.le_trans (own_old_le O3) (Nat.le_of_eq g4.symm)
  have sz_b4 : h0.size ≤ b4 := Nat.le_trans K3.1 (Nat.le_of_eq g4.symm)
  have O4 : Old Z n0 h4 := O3.ext E4
  have K4 : Keep h0 h4 [] := K3.ext E4
  have E_b4 := A4
  have F_value_b4 : Fld Z h4 b4 "java/lang/String" "value" "[B" .null := D4 (Or.inr (hw _ (List.mem_of_getElem? (i := 8) rfl))) (ty := (.array .byte)) (by decide)
  have F_coder_b4 : Fld Z h4 b4 "java/lang/String" "coder" "B" (.int (0 : Int32)) := D4 (Or.inr (hw _ (List.mem_of_getElem? (i := 9) rfl))) (ty := .byte) (by decide)
  obtain ⟨_, _, ⟨T5, L5, k5, n5⟩, -, X5, ⟨Lc5, hQ5, l5, y5, z5⟩, st5⟩ := Jvm.LawKit.callS X4 hx (y := (⟨"java/lang/StringLatin1", "toBytes", "(C)[B"⟩ : MethodName)) hown (mvT hZ (hw _ (List.mem_of_getElem? (i := 74) rfl))) (mvT hZ (hw _ (List.mem_of_getElem? (i := 75) rfl))) (mvT hZ (hw _ (List.mem_of_getElem? (i := 66) rfl))) (mvT hZ (hw _ (List.mem_of_getElem? (i := 76) rfl))) (by decide) (backOf (W := 2) (rm15 l Z ar0 hw [] p0 i_COMPACT_STRINGS  h4 n0 O4 F ) hZ (hw _ (List.mem_of_getElem? (i := 76) rfl)) (hw _ (List.mem_of_getElem? (i := 66) rfl)) (by decide) (by decide)) (g := (mkF m 18 #[.val (.int p0)] [(.int p0), (.ref b4), (.ref b4)])) rfl (by rw [hml]; rfl) (argsL := [(.int p0)]) (rest := [(.ref b4), (.ref b4)]) (lenOf pd_13_18 rfl) rfl (by show 2 * 0 + _ ≤ _; exact Nat.le_of_eq rfl) (hb hby d13_18) (fun _ _ => ⟨rfl, e4, (by decide : 1 + 1 ≤ _), (by decide : 4 + 1 ≤ _)⟩)
  dsimp only [Pt.U, Pt.locs, Pt.cells, Pt.slots] at X5 l5 y5 z5 st5 hQ5
  subst l5 y5 z5
  obtain ⟨b5_1, k1_5, rfl, N5q, O5, Kc5, sz5_0, fq5_0⟩ := hQ5
  have N5 := Fr.app N3 N5q
  have ne_b4_b5_1 : b4 ≠ b5_1 := Nat.ne_of_lt (Nat.lt_of_lt_of_le E_b4.lt sz5_0)
  have g_b5_1 : n0 ≤ b5_1 := Nat.le_trans (own_old_le O4) sz5_0
  have sz_b5_1 : h0.size ≤ b5_1 := Nat.le_trans K4.1 sz5_0
  have K5 : Keep h0 T5.heap [] := K4.trans Kc5 all0
  have E_b4 := (E_b4.keep Kc5)
  have F_value_b4 := (F_value_b4.keep Kc5 nin0)
  have F_coder_b4 := (F_coder_b4.keep Kc5 nin0)
  have V_b5_1 := fq5_0
  obtain ⟨_, _, ⟨T6, L6, k6, n6⟩, -, X6, ⟨Lc6, hQ6, l6, y6, z6⟩, st6⟩ := X5.specialBack hx (y := (⟨"java/lang/String", "<init>", "([BB)V"⟩ : MethodName)) rfl hown (mvT hZ (hw _ (List.mem_of_getElem? (i := 77) rfl))) (mvT hZ (hw _ (List.mem_of_getElem? (i := 78) rfl))) (mvT hZ (hw _ (List.mem_of_getElem? (i := 79) rfl))) (by decide) (backOf (W := 1) (rm16 l Z ar0 hw [] b4 b5_1 (0 : Int32) i_COMPACT_STRINGS .null (.int (0 : Int32)) T5.heap n0 O5 F E_b4 F_value_b4 g_b4 F_coder_b4) hZ (hw _ (List.mem_of_getElem? (i := 79) rfl)) (hw _ (List.mem_of_getElem? (i := 5) rfl)) (by decide) (by decide)) (g := (mkF m 22 #[.val (.int p0)] [(.int (0 : Int32)), (.ref b5_1), (.ref b4), (.ref b4)])) rfl (by rw [hml]; rfl) (Steps.refl _) (a := b4) (argsL := [(.ref b5_1), (.int (0 : Int32))]) (rest := [(.ref b4)]) (lenOf pd_13_22 rfl) rfl (by show 2 * 0 + _ ≤ _; exact Nat.le_of_eq rfl) (hb hby d13_22) (fun _ _ => ⟨rfl, rfl, (by decide : 2 + 0 ≤ _), (by decide : 5 + 0 ≤ _)⟩)
  dsimp only [Pt.U, Pt.locs, Pt.cells, Pt.slots] at X6 l6 y6 z6 st6 hQ6
  subst l6 y6 z6
  obtain ⟨rfl, N6q, O6, Kc6, fq6_0, fq6_1⟩ := hQ6
  have N6 := Fr.app N5 N6q
  have K6 : Keep h0 T6.heap [] := K5.trans Kc6 (allS (Or.inr sz_b4) all0)
  have E_b4 := (E_b4.keep Kc6)
  have V_b5_1 := (V_b5_1.keep Kc6 (ninS (Ne.symm ne_b4_b5_1) nin0))
  have F_value_b4 := fq6_0
  have F_coder_b4 := fq6_1
  obtain ⟨fs, hr, hrun, hended, hW, hsame⟩ := X6.leave (v := some (.ref b4)) (fun h => by rw [Bd.returns] at h; cases h)
  refine ⟨_, _, pre0 _ ?_, hrun, hended, _, _, rfl, ?_, ⟨_, rfl⟩, hW, hsame.mono (by decide) (by decide)⟩
  · show Steps p.tables e below (s₁.setTop (mkF m 0 #[.val (.int p0)] [])) _
    refine st1 _ ?_
    show Steps p.tables e below (T1.setTop (mkF m 3 #[.val (.int p0)] [(.int i_COMPACT_STRINGS)])) _
    refine XS.ifNo X1.here hx rfl (hb hby d13_3) rfl ((if0 _ _).trans (feq hk2).1) ?_
    show Steps p.tables e below (T1.setTop (mkF m 6 #[.val (.int p0)] [])) _
    refine XS.iloadN X1.here hx rfl (hb hby d13_6) rfl ?_
    show Steps p.tables e below (T1.setTop (mkF m 7 #[.val (.int p0)] [(.int p0)])) _
    refine st3 _ ?_
    show Steps p.tables e below (T3.setTop (mkF m 10 #[.val (.int p0)] [(.int (1 : Int32))])) _
    refine XS.ifNo X3.here hx rfl (hb hby d13_10) rfl ((if0 _ _).trans (feq (by decide : ¬ ((1 : Int32) = (0 : Int32)))).1) ?_
    show Steps p.tables e below (T3.setTop (mkF m 13 #[.val (.int p0)] [])) _
    refine st4 _ ?_
    show Steps p.tables e below (T4.setTop (mkF m 16 #[.val (.int p0)] [(.ref b4)])) _
    refine XS.dup X4.here hx rfl (hb hby d13_16) rfl rfl ?_
    show Steps p.tables e below (T4.setTop (mkF m 17 #[.val (.int p0)] [(.ref b4), (.ref b4)])) _
    refine XS.iloadN X4.here hx rfl (hb hby d13_17) rfl ?_
    show Steps p.tables e below (T4.setTop (mkF m 18 #[.val (.int p0)] [(.int p0), (.ref b4), (.ref b4)])) _
    refine st5 _ ?_
    show Steps p.tables e below (T5.setTop (mkF m 21 #[.val (.int p0)] [(.ref b5_1), (.ref b4), (.ref b4)])) _
    refine XS.iconst X5.here hx rfl (hb hby d13_21) ?_
    show Steps p.tables e below (T5.setTop (mkF m 22 #[.val (.int p0)] [(.int (0 : Int32)), (.ref b5_1), (.ref b4), (.ref b4)])) _
    refine st6.trans ?_
    show Steps p.tables e below (T6.setTop (mkF m 25 #[.val (.int p0)] [(.ref b4)])) _
    exact retOut X6 hx Bd.returns rfl (Or.inr (Or.inr (Or.inr (Or.inr ⟨rfl, rfl, rfl⟩)))) (hb hby d13_25) hr
  · show Q13 Z p0 i_COMPACT_STRINGS  h0 n0 _ T6.heap _
    skip
    exact ⟨b4, b5_1, k1_5, rfl, N6, O6, K6, sz_b4, sz_b5_1, ne_b4_b5_1, E_b4, V_b5_1, F_value_b4, F_coder_b4⟩

theorem d1_0 : decode method_2_code 0 = .ok (.iload_n 0, 1) := by decide +kernel
theorem d1_1 : decode method_2_code 1 = .ok (.ifCond .ne 6, 3) := by decide +kernel
theorem d1_4 : decode method_2_code 4 = .ok (.ldc 7, 2) := by decide +kernel
theorem d1_6 : decode method_2_code 6 = .ok (.areturn, 1) := by decide +kernel
theorem d1_7 : decode method_2_code 7 = .ok (.iload_n 0, 1) := by decide +kernel
theorem d1_8 : decode method_2_code 8 = .ok (.iconst 1, 1) := by decide +kernel
theorem d1_9 : decode method_2_code 9 = .ok (.if_icmp .ne 9, 3) := by decide +kernel
theorem d1_12 : decode method_2_code 12 = .ok (.iload_n 1, 1) := by decide +kernel
theorem d1_13 : decode method_2_code 13 = .ok (.i2c, 1) := by decide +kernel
theorem d1_14 : decode method_2_code 14 = .ok (.invokestatic 9, 3) := by decide +kernel
theorem d1_17 : decode method_2_code 17 = .ok (.areturn, 1) := by decide +kernel
theorem d1_18 : decode method_2_code 18 = .ok (.iconst 2, 1) := by decide +kernel
theorem d1_19 : decode method_2_code 19 = .ok (.newarray .char, 2) := by decide +kernel
theorem d1_21 : decode method_2_code 21 = .ok (.astore_n 3, 1) := by decide +kernel
theorem d1_22 : decode method_2_code 22 = .ok (.aload_n 3, 1) := by decide +kernel
theorem d1_23 : decode method_2_code 23 = .ok (.iconst 0, 1) := by decide +kernel
theorem d1_24 : decode method_2_code 24 = .ok (.iload_n 1, 1) := by decide +kernel
theorem d1_25 : decode method_2_code 25 = .ok (.i2c, 1) := by decide +kernel
theorem d1_26 : decode method_2_code 26 = .ok (.castore, 1) := by decide +kernel
theorem d1_27 : decode method_2_code 27 = .ok (.aload_n 3, 1) := by decide +kernel
theorem d1_28 : decode method_2_code 28 = .ok (.iconst 1, 1) := by decide +kernel
theorem d1_29 : decode method_2_code 29 = .ok (.iload_n 2, 1) := by decide +kernel
theorem d1_30 : decode method_2_code 30 = .ok (.i2c, 1) := by decide +kernel
theorem d1_31 : decode method_2_code 31 = .ok (.castore, 1) := by decide +kernel
theorem d1_32 : decode method_2_code 32 = .ok (.new 10, 3) := by decide +kernel
theorem d1_35 : decode method_2_code 35 = .ok (.dup, 1) := by decide +kernel
theorem d1_36 : decode method_2_code 36 = .ok (.aload_n 3, 1) := by decide +kernel
theorem d1_37 : decode method_2_code 37 = .ok (.invokespecial 15, 3) := by decide +kernel
theorem d1_40 : decode method_2_code 40 = .ok (.areturn, 1) := by decide +kernel
theorem pn_1 : plainName "com/example/grotti/grotti/OperationEqualsPinLaw" = true := by first | (simp [plainName, overriddenIn]; done) | decide +kernel
theorem pd_1_14 : parseMethodDescriptor "(C)Ljava/lang/String;" = some ⟨[.char], some (.object "java/lang/String")⟩ := by decide +kernel
theorem pd_1_37 : parseMethodDescriptor "([C)V" = some ⟨[(.array .char)], none⟩ := by decide +kernel
theorem ef_1 (m : MethodId) (p0 : Int32) (p1 : Int32) (p2 : Int32) : entryFrame m #[(.int p0), (.int p1), (.int p2)] 4 = mkF m 0 #[.val (.int p0), .val (.int p1), .val (.int p2), .unset] [] := by first | (simp [entryFrame, mkF, argsToLocals, Value.category]; done) | rfl
def Q1 (Z : State) (p0 : Int32) (p1 : Int32) (p2 : Int32) (i_COMPACT_STRINGS : Int32)  (h0 : Heap) (n0 : Nat) (v : Option Value) (h : Heap) (L : List Loc) : Prop := ∃ (r t : Addr) (k : ClassId), v = some (.ref r) ∧ Fr n0 L ∧ Old Z n0 h ∧ Keep h0 h [] ∧ Exa Z h r "java/lang/String" ∧ Fld Z h r "java/lang/String" "coder" "B" (.int (0 : Int32)) ∧ Fld Z h r "java/lang/String" "value" "[B" (.ref t) ∧ Arv Z h t k .byte (Int32.ofNat (csOf p0 p1 p2).length) (((csOf p0 p1 p2).map (fun c => c.toInt8.toInt32)).map Value.int) (.int 0)
set_option maxRecDepth 65536 in
set_option maxHeartbeats 40000000 in
theorem rm1 (l : Launch) (Z : State) (ar0 : Array Value) (hw : ∀ d ∈ tables_1, d.before ar0 Z = true) (ws : List Jvm.Cond) (p0 : Int32) (p1 : Int32) (p2 : Int32) (i_COMPACT_STRINGS : Int32)  (h0 : Heap) (n0 : Nat) (O0 : Old Z n0 h0) (F : Fx Z Z.heap i_COMPACT_STRINGS) (hp1 : B8 p1) (hp2 : B8 p2) :
    MetFree l (⟨"com/example/grotti/grotti/OperationEqualsPinLaw", "mk", "(III)Ljava/lang/String;"⟩ : MethodName) (head1 ((Jvm.Cond.code (⟨"com/example/grotti/grotti/OperationEqualsPinLaw", "mk", "(III)Ljava/lang/String;"⟩ : MethodName) method_2_code 4 (some (.object "java/lang/String"))) :: ws) ({ frames := 4, cells := 3, slots := 8, locals := 66 } : Room)) (fun a U => a = #[(.int p0), (.int p1), (.int p2)] ∧ Z.Warmed39 U.vm ∧ U.heap = h0 ∧ CHv Z EL U.vm h0) (fun _ _ _ _ _ => True) (fun _ U o U' => ∃ v L, o = .returned v ∧ Q1 Z p0 p1 p2 i_COMPACT_STRINGS  h0 n0 v U'.heap L ∧ CHr Z EL U.vm U.heap U'.vm U'.heap ∧ ReturnedEndW U o U' L ({ frames := 4, cells := 3, slots := 8, locals := 66 } : Room).cells ({ frames := 4, cells := 3, slots := 8, locals := 66 } : Room).slots) := by
  obtain ⟨S_COMPACT_STRINGS, P_COMPACT_STRINGS⟩ := id F
  refine MetFree.of_bodySF (plainFor_of_name pn_1) hisR ?_
  intro p e s m args below meth c s₁ Bd hml0 hP hK
  obtain ⟨rfl, hZ, hh, hCH⟩ := hP
  have hx := Bd.exec
  have hby := Bd.bytes
  have hml : c.maxLocals = 4 := hml0
  have hown : s.vm.findClass "com/example/grotti/grotti/OperationEqualsPinLaw" = some m.cls := findClass_of_methodNamed Bd.named
  have hS : s.Since s.vm h0.size := (State.WarmedH.refl s).since _
  have hk : h0.size ≤ h0.size := Nat.le_refl _
  have CR0 : CHr Z EL s.vm h0 s.vm h0 := CHr.refl hCH
  have hEL := own_EW hw
  have wS := own_wS hw
  have hnm := (name_of_methodNamed Bd.named Bd.method).1
  have X0 : Stand p l e ({ frames := 4, cells := 3, slots := 8, locals := 66 } : Room) (s.setVm s.vm) m #[(.int p0), (.int p1), (.int p2)] below meth c s₁ [] 0 0 := Stand.of_body Bd
  have e0 : s₁.heap = h0 := by rw [← hh, Bd.state]; rfl
  have N0 := Fr.nil n0
  have K0 : Keep h0 h0 [] := Keep.refl _ _
  have pre0 : ∀ t, Steps p.tables e below (s₁.setTop (mkF m 0 #[.val (.int p0), .val (.int p1), .val (.int p2), .unset] [])) t → Steps p.tables e below (s₁.setTop (entryFrame m #[(.int p0), (.int p1), (.int p2)] 4)) t := fun t k => castTop (ef_1 m p0 p1 p2) k
  have pre1 : ∀ t, Steps p.tables e below (s₁.setTop (mkF m 1 #[.val (.int p0), .val (.int p1), .val (.int p2), .unset] [(.int p0)])) t → Steps p.tables e below (s₁.setTop (entryFrame m #[(.int p0), (.int p1), (.int p2)] 4)) t := by
    intro t k
    refine pre0 _ ?_
    show Steps p.tables e below (s₁.setTop (mkF m 0 #[.val (.int p0), .val (.int p1), .val (.int p2), .unset] [])) _
    refine XS.iloadN X0.here hx rfl (hb hby d1_0) rfl ?_
    exact k
  by_cases hc2 : p0 = (0 : Int32)
  ·
    obtain ⟨r3, T3, h3, k03, t3, kb3, X3, e3, E3, hS, hk, hZ, hown, Eq3, Cq3, Vq3, Aq3, lt3, lu3, C3, Lt3, hne3, st3⟩ := ldcCH X0 hx hZ hown (hw _ (List.mem_of_getElem? (i := 4) rfl)) wS e0 hS hk hEL (by decide) hCH (vs := []) (z := 0) ⟨by decide, by decide⟩ (by decide) rfl (g := (mkF m 4 #[.val (.int p0), .val (.int p1), .val (.int p2), .unset] [])) rfl (hb hby d1_4) (n := 0) (by decide) (by decide) (by decide) (by decide)
    have O3 : Old Z n0 h3 := O0.ext E3
    have K3 : Keep h0 h3 [] := K0.ext E3
    have CR3 := CR0.trans C3
    have E_r3 := Eq3
    have F_coder_r3 := Cq3
    have F_value_r3 := Vq3
    have V_t3 := Aq3
    obtain ⟨fs, hr, hrun, hended, hRW⟩ := X3.leaveW hS (by rw [e3]; exact hk) (v := some (.ref r3)) (fun h => by rw [Bd.returns] at h; cases h)
    have CRx : CHr Z EL s.vm s.heap T3.vm T3.heap := by rw [hh, e3]; exact CR3.trans (CHv.at X3 hZ hEL C3.1)
    refine ⟨_, _, pre1 _ ?_, hrun, hended, _, _, rfl, ?_, CRx, own_rw_mono hRW (by decide) (by decide)⟩
    · show Steps p.tables e below (s₁.setTop (mkF m 1 #[.val (.int p0), .val (.int p1), .val (.int p2), .unset] [(.int p0)])) _
      refine XS.ifNo X0.here hx rfl (hb hby d1_1) rfl ((if0 _ _).trans (teq hc2).2) ?_
      show Steps p.tables e below (s₁.setTop (mkF m 4 #[.val (.int p0), .val (.int p1), .val (.int p2), .unset] [])) _
      refine st3 _ ?_
      show Steps p.tables e below (T3.setTop (mkF m 6 #[.val (.int p0), .val (.int p1), .val (.int p2), .unset] [(.ref r3)])) _
      exact retOut X3 hx Bd.returns rfl (Or.inr (Or.inr (Or.inr (Or.inr ⟨rfl, rfl, rfl⟩)))) (hb hby d1_6) hr
    · show Q1 Z p0 p1 p2 i_COMPACT_STRINGS  h0 n0 _ T3.heap _
      rw [e3]
      have hcs : csOf p0 p1 p2 = [] := by unfold csOf; rw [if_pos hc2]
      unfold Q1
      rw [hcs]
      exact ⟨r3, t3, kb3, rfl, N0, O3, K3, E_r3, F_coder_r3, F_value_r3, V_t3⟩
  ·
    have pre5 : ∀ t, Steps p.tables e below (s₁.setTop (mkF m 9 #[.val (.int p0), .val (.int p1), .val (.int p2), .unset] [(.int (1 : Int32)), (.int p0)])) t → Steps p.tables e below (s₁.setTop (entryFrame m #[(.int p0), (.int p1), (.int p2)] 4)) t := by
      intro t k
      refine pre1 _ ?_
      show Steps p.tables e below (s₁.setTop (mkF m 1 #[.val (.int p0), .val (.int p1), .val (.int p2), .unset] [(.int p0)])) _
      refine XS.ifYes X0.here hx rfl (pc0 := 1) (pc' := 7) rfl (hb hby d1_1) rfl ((if0 _ _).trans (feq hc2).2) (by decide) (by decide) ?_
      show Steps p.tables e below (s₁.setTop (mkF m 7 #[.val (.int p0), .val (.int p1), .val (.int p2), .unset] [])) _
      refine XS.iloadN X0.here hx rfl (hb hby d1_7) rfl ?_
      show Steps p.tables e below (s₁.setTop (mkF m 8 #[.val (.int p0), .val (.int p1), .val (.int p2), .unset] [(.int p0)])) _
      refine XS.iconst X0.here hx rfl (hb hby d1_8) ?_
      exact k
    by_cases hc6 : p0 = (1 : Int32)
    ·
      obtain ⟨_, _, ⟨T7, L7, k7, n7⟩, -, X7, ⟨Lc7, hQ7, l7, y7, z7⟩, st7⟩ := Jvm.LawKit.callS X0 hx (y := (⟨"java/lang/String", "valueOf", "(C)Ljava/lang/String;"⟩ : MethodName)) hown (mvT hZ (hw _ (List.mem_of_getElem? (i := 68) rfl))) (mvT hZ (hw _ (List.mem_of_getElem? (i := 69) rfl))) (mvT hZ (hw _ (List.mem_of_getElem? (i := 5) rfl))) (mvT hZ (hw _ (List.mem_of_getElem? (i := 70) rfl))) (by decide) (backOf (W := 0) (rm13 l Z ar0 hw [] (p1.toUInt32.toUInt16.toUInt32.toInt32) i_COMPACT_STRINGS  h0 n0 O0 F (by rw [own_chr0 hp1]; exact (own_255 hp1).2)) hZ (hw _ (List.mem_of_getElem? (i := 70) rfl)) (hw _ (List.mem_of_getElem? (i := 5) rfl)) (by decide) (by decide)) (g := (mkF m 14 #[.val (.int p0), .val (.int p1), .val (.int p2), .unset] [(.int (p1.toUInt32.toUInt16.toUInt32.toInt32))])) rfl (by rw [hml]; rfl) (argsL := [(.int (p1.toUInt32.toUInt16.toUInt32.toInt32))]) (rest := []) (lenOf pd_1_14 rfl) rfl (by show 2 * 0 + _ ≤ _; exact Nat.le_of_eq rfl) (hb hby d1_14) (fun _ _ => ⟨rfl, e0, (by decide : 0 + 2 ≤ _), (by decide : 0 + 5 ≤ _)⟩)
      dsimp only [Pt.U, Pt.locs, Pt.cells, Pt.slots] at X7 l7 y7 z7 st7 hQ7
      subst l7 y7 z7
      obtain ⟨b7_4, b7_5_1, k1_5_7, rfl, N7q, O7, Kc7, sz7_0, sz7_1, np7_0, fq7_0, fq7_1, fq7_2, fq7_3⟩ := hQ7
      have N7 := Fr.app N0 N7q
      have g_b7_4 : n0 ≤ b7_4 := Nat.le_trans (own_old_le O0) sz7_0
      have sz_b7_4 : h0.size ≤ b7_4 := Nat.le_trans K0.1 sz7_0
      have g_b7_5_1 : n0 ≤ b7_5_1 := Nat.le_trans (own_old_le O0) sz7_1
      have sz_b7_5_1 : h0.size ≤ b7_5_1 := Nat.le_trans K0.1 sz7_1
      have K7 : Keep h0 T7.heap [] := K0.trans Kc7 all0
      have CH8 := CHv.keep Kc7 all0 hCH
      have CR8 := CR0.trans (CHr.keep Kc7 all0 hCH)
      have hk := Nat.le_trans hk Kc7.1
      have E_b7_4 := fq7_0
      have V_b7_5_1 := fq7_1
      have F_value_b7_4 := fq7_2
      have F_coder_b7_4 := fq7_3
      obtain ⟨fs, hr, hrun, hended, hRW⟩ := X7.leaveW hS (hk) (v := some (.ref b7_4)) (fun h => by rw [Bd.returns] at h; cases h)
      have CRx : CHr Z EL s.vm s.heap T7.vm T7.heap := by rw [hh]; exact CR8.trans (CHv.at X7 hZ hEL CH8)
      refine ⟨_, _, pre5 _ ?_, hrun, hended, _, _, rfl, ?_, CRx, own_rw_mono hRW (by decide) (by decide)⟩
      · show Steps p.tables e below (s₁.setTop (mkF m 9 #[.val (.int p0), .val (.int p1), .val (.int p2), .unset] [(.int (1 : Int32)), (.int p0)])) _
        refine XS.icmpNo X0.here hx rfl (hb hby d1_9) rfl (teq hc6).2 ?_
        show Steps p.tables e below (s₁.setTop (mkF m 12 #[.val (.int p0), .val (.int p1), .val (.int p2), .unset] [])) _
        refine XS.iloadN X0.here hx rfl (hb hby d1_12) rfl ?_
        show Steps p.tables e below (s₁.setTop (mkF m 13 #[.val (.int p0), .val (.int p1), .val (.int p2), .unset] [(.int p1)])) _
        refine XS.i2c X0.here hx rfl (hb hby d1_13) rfl ?_
        show Steps p.tables e below (s₁.setTop (mkF m 14 #[.val (.int p0), .val (.int p1), .val (.int p2), .unset] [(.int (p1.toUInt32.toUInt16.toUInt32.toInt32))])) _
        refine st7 _ ?_
        show Steps p.tables e below (T7.setTop (mkF m 17 #[.val (.int p0), .val (.int p1), .val (.int p2), .unset] [(.ref b7_4)])) _
        exact retOut X7 hx Bd.returns rfl (Or.inr (Or.inr (Or.inr (Or.inr ⟨rfl, rfl, rfl⟩)))) (hb hby d1_17) hr
      · show Q1 Z p0 p1 p2 i_COMPACT_STRINGS  h0 n0 _ T7.heap _
        skip
        have hcs : csOf p0 p1 p2 = [p1] := by unfold csOf; rw [if_neg hc2, if_pos hc6]
        rw [own_bt hp1] at V_b7_5_1
        rw [own_b0] at F_coder_b7_4
        unfold Q1
        rw [hcs]
        exact ⟨b7_4, b7_5_1, k1_5_7, rfl, N7, O7, K7, E_b7_4, F_coder_b7_4, F_value_b7_4, V_b7_5_1⟩
    ·
      obtain ⟨T9, h9, k9, X9, e9, E9, A9, st9⟩ := newP X0 hx hZ (hw _ (List.mem_of_getElem? (i := 15) rfl)) e0 (g := (mkF m 19 #[.val (.int p0), .val (.int p1), .val (.int p2), .unset] [(.int (2 : Int32))])) rfl (hb hby d1_19) rfl (by decide) (cap := 2) (by decide) (by decide) (by decide) (by decide)
      obtain ⟨b9, g9⟩ : ∃ z, z = h0.size := ⟨_, rfl⟩
      rw [← g9] at A9 st9
      have g_b9 : n0 ≤ b9 := Nat.le_trans (own_old_le O0) (Nat.le_of_eq g9.symm)
      have sz_b9 : h0.size ≤ b9 := Nat.le_trans K0.1 (Nat.le_of_eq g9.symm)
      have O9 : Old Z n0 h9 := O0.ext E9
      have K9 : Keep h0 h9 [] := K0.ext E9
      have CH10 := CHv.ext E9 hCH
      have CR10 := CR0.trans (CHr.ext E9 hCH)
      have hk := Nat.le_trans hk E9.1
      have V_b9 : Arv Z h9 b9 k9 .char (2 : Int32) [(.int (0 : Int32)), (.int (0 : Int32))] (.int (0 : Int32)) := (Arv.new A9 (by decide)).pad (pad_rep [] (.int (0 : Int32)) 2)
      obtain ⟨c11, Ar11, q11, S11, M11, Ha11, G11⟩ := id V_b9
      obtain ⟨T12, h12, X12, e12, W12, st12⟩ := stC X9 hx hZ e9 Ar11 (j := (0 : Int32)) (inb_of S11 ⟨by decide, by decide⟩) (g := (mkF m 26 #[.val (.int p0), .val (.int p1), .val (.int p2), .val (.ref b9)] [(.int (p1.toUInt32.toUInt16.toUInt32.toInt32)), (.int (0 : Int32)), (.ref b9)])) rfl rfl (hb hby d1_26)
      have N12 := Fr.snoc X12 N0 g_b9
      have O12 : Old Z n0 h12 := O9.wr W12 g_b9
      have K12 : Keep h0 h12 [] := K9.wr W12 (Or.inr sz_b9)
      have sfw13 : Safe Z EL s.vm _ b9 := (own_safe_arv (hZ.alike : Z.vm.Alike s.vm) V_b9 (by decide))
      have CH14 := CHv.wr W12 sfw13 CH10
      have CR14 := CR10.trans (CHr.wr W12 sfw13 CH10)
      have hk := Nat.le_trans hk (Keep.of_wr W12).1
      have V_b9 : Arv Z h12 b9 k9 .char (2 : Int32) [(.int (nar .char (p1.toUInt32.toUInt16.toUInt32.toInt32))), (.int (0 : Int32))] (.int (0 : Int32)) := Arv.set Ar11 q11 S11 M11 Ha11 G11 (fits_nar_char _) W12 0 rfl (Nat.le_of_ble_eq_true rfl)
      obtain ⟨c15, Ar15, q15, S15, M15, Ha15, G15⟩ := id V_b9
      obtain ⟨T16, h16, X16, e16, W16, st16⟩ := stC X12 hx hZ e12 Ar15 (j := (1 : Int32)) (inb_of S15 ⟨by decide, by decide⟩) (g := (mkF m 31 #[.val (.int p0), .val (.int p1), .val (.int p2), .val (.ref b9)] [(.int (p2.toUInt32.toUInt16.toUInt32.toInt32)), (.int (1 : Int32)), (.ref b9)])) rfl rfl (hb hby d1_31)
      have N16 := Fr.snoc X16 N12 g_b9
      have O16 : Old Z n0 h16 := O12.wr W16 g_b9
      have K16 : Keep h0 h16 [] := K12.wr W16 (Or.inr sz_b9)
      have sfw17 : Safe Z EL s.vm _ b9 := (own_safe_arv (hZ.alike : Z.vm.Alike s.vm) V_b9 (by decide))
      have CH18 := CHv.wr W16 sfw17 CH14
      have CR18 := CR14.trans (CHr.wr W16 sfw17 CH14)
      have hk := Nat.le_trans hk (Keep.of_wr W16).1
      have V_b9 : Arv Z h16 b9 k9 .char (2 : Int32) [(.int (nar .char (p1.toUInt32.toUInt16.toUInt32.toInt32))), (.int (nar .char (p2.toUInt32.toUInt16.toUInt32.toInt32)))] (.int (0 : Int32)) := Arv.set Ar15 q15 S15 M15 Ha15 G15 (fits_nar_char _) W16 1 rfl (Nat.le_of_ble_eq_true rfl)
      rw [own_chr hp1, own_chr hp2] at V_b9
      obtain ⟨T19, h19, X19, e19, E19, A19, D19, -, st19⟩ := newO X16 hx hZ hown (hw _ (List.mem_of_getElem? (i := 16) rfl)) (hw _ (List.mem_of_getElem? (i := 6) rfl)) (hw _ (List.mem_of_getElem? (i := 5) rfl)) e16 (g := (mkF m 32 #[.val (.int p0), .val (.int p1), .val (.int p2), .val (.ref b9)] [])) rfl (hb hby d1_32) (by decide) (by decide)
      obtain ⟨b19, g19⟩ : ∃ z, z = h16.size := ⟨_, rfl⟩
      rw [← g19] at A19 D19 st19
      have ne_b9_b19 : b9 ≠ b19 := Nat.ne_of_lt (Nat.lt_of_lt_of_le V_b9.lt (Nat.le_of_eq g19.symm))
      have g_b19 : n0 ≤ b19 := Nat.le_trans (own_old_le O16) (Nat.le_of_eq g19.symm)
      have sz_b19 : h0.size ≤ b19 := Nat.le_trans K16.1 (Nat.le_of_eq g19.symm)
      have sf_b19 : Safe Z EL s.vm h19 b19 := Safe.ext E19 CH18 (Safe.new (Nat.le_of_eq g19.symm))
      have O19 : Old Z n0 h19 := O16.ext E19
      have K19 : Keep h0 h19 [] := K16.ext E19
      have CH20 := CHv.ext E19 CH18
      have CR20 := CR18.trans (CHr.ext E19 CH18)
      have hk := Nat.le_trans hk E19.1
      have V_b9 := (V_b9.ext E19)
      have E_b19 := A19
      have F_value_b19 : Fld Z h19 b19 "java/lang/String" "value" "[B" .null := D19 (Or.inr (hw _ (List.mem_of_getElem? (i := 8) rfl))) (ty := (.array .byte)) (by decide)
      have F_coder_b19 : Fld Z h19 b19 "java/lang/String" "coder" "B" (.int (0 : Int32)) := D19 (Or.inr (hw _ (List.mem_of_getElem? (i := 9) rfl))) (ty := .byte) (by decide)
      have hws21 : ∀ d ∈ StrChars.Road.words, d.before ar0 Z = true := fun d hd => hw d ((by decide +kernel : ∀ d ∈ StrChars.Road.words, d ∈ tables_1) d hd)
      have hp21 : ∀ c ∈ ([p1, p2] : List Int32), ¬ c < 0 ∧ ¬ (255 : Int32) < c := fun c hc => by rcases List.mem_cons.mp hc with rfl | hc; exact own_255 hp1; obtain rfl := List.mem_singleton.mp hc; exact own_255 hp2
      obtain ⟨_, _, ⟨T21, L21, k21, n21⟩, -, X21, ⟨Lc21, hQ21, l21, y21, z21⟩, st21⟩ := X19.specialBack hx (y := (⟨"java/lang/String", "<init>", "([C)V"⟩ : MethodName)) rfl hown (mvT hZ (hw _ (List.mem_of_getElem? (i := 17) rfl))) (mvT hZ (hw _ (List.mem_of_getElem? (i := 18) rfl))) (mvT hZ (hw _ (List.mem_of_getElem? (i := 19) rfl))) (by decide) (StrChars.Road.backV (W := 1) hZ hws21 (kI := 4) (hw _ (List.mem_of_getElem? (i := 6) rfl)) (cs := ([p1, p2] : List Int32)) (bs := (([p1, p2] : List Int32)).map (fun c => c.toInt8.toInt32)) (n := 2) g_b19 (own_old_le O19) E_b19 F_value_b19 F_coder_b19 V_b9 (S_COMPACT_STRINGS.ext O19.2) P_COMPACT_STRINGS rfl rfl (by decide) (by decide) hp21 rfl (by decide) (by decide)) (g := (mkF m 37 #[.val (.int p0), .val (.int p1), .val (.int p2), .val (.ref b9)] [(.ref b9), (.ref b19), (.ref b19)])) rfl (by rw [hml]; rfl) (Steps.refl _) (a := b19) (argsL := [(.ref b9)]) (rest := [(.ref b19)]) (lenOf pd_1_37 rfl) rfl (by show 2 * 0 + _ ≤ _; exact Nat.le_of_eq rfl) (hb hby d1_37) (fun _ _ => ⟨rfl, e19, (by decide : 2 + 1 ≤ _), (by decide : 6 + 2 ≤ _)⟩)
      dsimp only [Pt.U, Pt.locs, Pt.cells, Pt.slots] at X21 l21 y21 z21 st21 hQ21
      subst l21 y21 z21
      obtain ⟨rfl, N21q, Kc21, Eq21, Cq21, t21, kb21, gt21, st_21, nt21, Vq21, Aq21⟩ := hQ21
      have N21 := Fr.app N16 N21q
      have ne_b9_t21 : b9 ≠ t21 := Nat.ne_of_lt (Nat.lt_of_lt_of_le V_b9.lt st_21)
      have ne_b19_t21 : b19 ≠ t21 := Nat.ne_of_lt (Nat.lt_of_lt_of_le E_b19.lt st_21)
      have g_t21 : n0 ≤ t21 := Nat.le_trans (own_old_le O19) st_21
      have sz_t21 : h0.size ≤ t21 := Nat.le_trans K19.1 st_21
      have O21 : Old Z n0 T21.heap := O19.keep Kc21 (allS g_b19 all0)
      have K21 : Keep h0 T21.heap [] := K19.trans Kc21 (allS (Or.inr sz_b19) all0)
      have sfw22 : Safe Z EL s.vm _ b19 := sf_b19
      have CH23 := CHv.keep Kc21 (allS sfw22 all0) CH20
      have CR23 := CR20.trans (CHr.keep Kc21 (allS sfw22 all0) CH20)
      have hk := Nat.le_trans hk Kc21.1
      have V_b9 := (V_b9.keep Kc21 (ninS ne_b9_b19 nin0))
      have E_b19 := (E_b19.keep Kc21)
      have sf_b19 := (Safe.keep Kc21 (allS sfw22 all0) CH20 sf_b19)
      have F_coder_b19 := Cq21
      have F_value_b19 := Vq21
      have V_t21 := Aq21
      obtain ⟨fs, hr, hrun, hended, hRW⟩ := X21.leaveW hS (hk) (v := some (.ref b19)) (fun h => by rw [Bd.returns] at h; cases h)
      have CRx : CHr Z EL s.vm s.heap T21.vm T21.heap := by rw [hh]; exact CR23.trans (CHv.at X21 hZ hEL CH23)
      refine ⟨_, _, pre5 _ ?_, hrun, hended, _, _, rfl, ?_, CRx, own_rw_mono hRW (by decide) (by decide)⟩
      · show Steps p.tables e below (s₁.setTop (mkF m 9 #[.val (.int p0), .val (.int p1), .val (.int p2), .unset] [(.int (1 : Int32)), (.int p0)])) _
        refine XS.icmpYes X0.here hx rfl (pc0 := 9) (pc' := 18) rfl (hb hby d1_9) rfl (feq hc6).2 (by decide) (by decide) ?_
        show Steps p.tables e below (s₁.setTop (mkF m 18 #[.val (.int p0), .val (.int p1), .val (.int p2), .unset] [])) _
        refine XS.iconst X0.here hx rfl (hb hby d1_18) ?_
        show Steps p.tables e below (s₁.setTop (mkF m 19 #[.val (.int p0), .val (.int p1), .val (.int p2), .unset] [(.int (2 : Int32))])) _
        refine st9 _ ?_
        show Steps p.tables e below (T9.setTop (mkF m 21 #[.val (.int p0), .val (.int p1), .val (.int p2), .unset] [(.ref b9)])) _
        refine XS.astoreN X9.here hx rfl (hb hby d1_21) rfl rfl (l' := #[.val (.int p0), .val (.int p1), .val (.int p2), .val (.ref b9)]) rfl ?_
        show Steps p.tables e below (T9.setTop (mkF m 22 #[.val (.int p0), .val (.int p1), .val (.int p2), .val (.ref b9)] [])) _
        refine XS.aloadN X9.here hx rfl (hb hby d1_22) rfl rfl ?_
        show Steps p.tables e below (T9.setTop (mkF m 23 #[.val (.int p0), .val (.int p1), .val (.int p2), .val (.ref b9)] [(.ref b9)])) _
        refine XS.iconst X9.here hx rfl (hb hby d1_23) ?_
        show Steps p.tables e below (T9.setTop (mkF m 24 #[.val (.int p0), .val (.int p1), .val (.int p2), .val (.ref b9)] [(.int (0 : Int32)), (.ref b9)])) _
        refine XS.iloadN X9.here hx rfl (hb hby d1_24) rfl ?_
        show Steps p.tables e below (T9.setTop (mkF m 25 #[.val (.int p0), .val (.int p1), .val (.int p2), .val (.ref b9)] [(.int p1), (.int (0 : Int32)), (.ref b9)])) _
        refine XS.i2c X9.here hx rfl (hb hby d1_25) rfl ?_
        show Steps p.tables e below (T9.setTop (mkF m 26 #[.val (.int p0), .val (.int p1), .val (.int p2), .val (.ref b9)] [(.int (p1.toUInt32.toUInt16.toUInt32.toInt32)), (.int (0 : Int32)), (.ref b9)])) _
        refine st12 _ ?_
        show Steps p.tables e below (T12.setTop (mkF m 27 #[.val (.int p0), .val (.int p1), .val (.int p2), .val (.ref b9)] [])) _
        refine XS.aloadN X12.here hx rfl (hb hby d1_27) rfl rfl ?_
        show Steps p.tables e below (T12.setTop (mkF m 28 #[.val (.int p0), .val (.int p1), .val (.int p2), .val (.ref b9)] [(.ref b9)])) _
        refine XS.iconst X12.here hx rfl (hb hby d1_28) ?_
        show Steps p.tables e below (T12.setTop (mkF m 29 #[.val (.int p0), .val (.int p1), .val (.int p2), .val (.ref b9)] [(.int (1 : Int32)), (.ref b9)])) _
        refine XS.iloadN X12.here hx rfl (hb hby d1_29) rfl ?_
        show Steps p.tables e below (T12.setTop (mkF m 30 #[.val (.int p0), .val (.int p1), .val (.int p2), .val (.ref b9)] [(.int p2), (.int (1 : Int32)), (.ref b9)])) _
        refine XS.i2c X12.here hx rfl (hb hby d1_30) rfl ?_
        show Steps p.tables e below (T12.setTop (mkF m 31 #[.val (.int p0), .val (.int p1), .val (.int p2), .val (.ref b9)] [(.int (p2.toUInt32.toUInt16.toUInt32.toInt32)), (.int (1 : Int32)), (.ref b9)])) _
        refine st16 _ ?_
        show Steps p.tables e below (T16.setTop (mkF m 32 #[.val (.int p0), .val (.int p1), .val (.int p2), .val (.ref b9)] [])) _
        refine st19 _ ?_
        show Steps p.tables e below (T19.setTop (mkF m 35 #[.val (.int p0), .val (.int p1), .val (.int p2), .val (.ref b9)] [(.ref b19)])) _
        refine XS.dup X19.here hx rfl (hb hby d1_35) rfl rfl ?_
        show Steps p.tables e below (T19.setTop (mkF m 36 #[.val (.int p0), .val (.int p1), .val (.int p2), .val (.ref b9)] [(.ref b19), (.ref b19)])) _
        refine XS.aloadN X19.here hx rfl (hb hby d1_36) rfl rfl ?_
        show Steps p.tables e below (T19.setTop (mkF m 37 #[.val (.int p0), .val (.int p1), .val (.int p2), .val (.ref b9)] [(.ref b9), (.ref b19), (.ref b19)])) _
        refine st21.trans ?_
        show Steps p.tables e below (T21.setTop (mkF m 40 #[.val (.int p0), .val (.int p1), .val (.int p2), .val (.ref b9)] [(.ref b19)])) _
        exact retOut X21 hx Bd.returns rfl (Or.inr (Or.inr (Or.inr (Or.inr ⟨rfl, rfl, rfl⟩)))) (hb hby d1_40) hr
      · show Q1 Z p0 p1 p2 i_COMPACT_STRINGS  h0 n0 _ T21.heap _
        skip
        have hcs : csOf p0 p1 p2 = [p1, p2] := by unfold csOf; rw [if_neg hc2, if_neg hc6]
        unfold Q1
        rw [hcs]
        exact ⟨b19, t21, kb21, rfl, N21, O21, K21, E_b19, F_coder_b19, F_value_b19, V_t21⟩

theorem d8_0 : decode prog_20_method_1_code 0 = .ok (.aload_n 0, 1) := by decide +kernel
theorem d8_1 : decode prog_20_method_1_code 1 = .ok (.invokespecial 1, 3) := by decide +kernel
theorem d8_4 : decode prog_20_method_1_code 4 = .ok (.aload_n 0, 1) := by decide +kernel
theorem d8_5 : decode prog_20_method_1_code 5 = .ok (.aload_n 1, 1) := by decide +kernel
theorem d8_6 : decode prog_20_method_1_code 6 = .ok (.putfield 7, 3) := by decide +kernel
theorem d8_9 : decode prog_20_method_1_code 9 = .ok (.aload_n 0, 1) := by decide +kernel
theorem d8_10 : decode prog_20_method_1_code 10 = .ok (.aload_n 2, 1) := by decide +kernel
theorem d8_11 : decode prog_20_method_1_code 11 = .ok (.putfield 13, 3) := by decide +kernel
theorem d8_14 : decode prog_20_method_1_code 14 = .ok (.return_, 1) := by decide +kernel
theorem pn_8 : plainName "com/example/grotti/grotti/Operation" = true := by first | (simp [plainName, overriddenIn]; done) | decide +kernel
theorem ef_8 (m : MethodId) (a0 : Addr) (a1 : Addr) (a2 : Addr) : entryFrame m #[(.ref a0), (.ref a1), (.ref a2)] 3 = mkF m 0 #[.val (.ref a0), .val (.ref a1), .val (.ref a2)] [] := by first | (simp [entryFrame, mkF, argsToLocals, Value.category]; done) | rfl
def Q8 (Z : State) (a0 : Addr) (a1 : Addr) (a2 : Addr) (i_COMPACT_STRINGS : Int32) (u_app_a0 : Value) (u_op_a0 : Value) (h0 : Heap) (n0 : Nat) (v : Option Value) (h : Heap) (L : List Loc) : Prop := v = none ∧ Fr n0 L ∧ Old Z n0 h ∧ Keep h0 h [a0] ∧ (Fld Z h a0 "com/example/grotti/grotti/Operation" "app" "Ljava/lang/String;" (.ref a1)) ∧ (Fld Z h a0 "com/example/grotti/grotti/Operation" "op" "Ljava/lang/String;" (.ref a2))
set_option maxRecDepth 65536 in
set_option maxHeartbeats 40000000 in
theorem rm8 (l : Launch) (Z : State) (ar0 : Array Value) (hw : ∀ d ∈ tables_1, d.before ar0 Z = true) (ws : List Jvm.Cond) (a0 : Addr) (a1 : Addr) (a2 : Addr) (i_COMPACT_STRINGS : Int32) (u_app_a0 : Value) (u_op_a0 : Value) (h0 : Heap) (n0 : Nat) (O0 : Old Z n0 h0) (F : Fx Z Z.heap i_COMPACT_STRINGS) (E_a00 : Exa Z h0 a0 "com/example/grotti/grotti/Operation") (F_app_a00 : Fld Z h0 a0 "com/example/grotti/grotti/Operation" "app" "Ljava/lang/String;" u_app_a0) (g_a0 : n0 ≤ a0) (F_op_a00 : Fld Z h0 a0 "com/example/grotti/grotti/Operation" "op" "Ljava/lang/String;" u_op_a0) :
    MetFree l (⟨"com/example/grotti/grotti/Operation", "<init>", "(Ljava/lang/String;Ljava/lang/String;)V"⟩ : MethodName) (head1 ((Jvm.Cond.code (⟨"com/example/grotti/grotti/Operation", "<init>", "(Ljava/lang/String;Ljava/lang/String;)V"⟩ : MethodName) prog_20_method_1_code 3 none) :: ws) ({ frames := 1, cells := 0, slots := 0, locals := 12 } : Room)) (fun a U => a = #[(.ref a0), (.ref a1), (.ref a2)] ∧ Z.Warmed39 U.vm ∧ U.heap = h0) (fun _ _ _ _ _ => True) (fun _ U o U' => ∃ v L, o = .returned v ∧ Q8 Z a0 a1 a2 i_COMPACT_STRINGS u_app_a0 u_op_a0 h0 n0 v U'.heap L ∧ FrameEnd U o U' L ({ frames := 1, cells := 0, slots := 0, locals := 12 } : Room).cells ({ frames := 1, cells := 0, slots := 0, locals := 12 } : Room).slots) := by
  obtain ⟨S_COMPACT_STRINGS, P_COMPACT_STRINGS⟩ := id F
  refine MetFree.of_bodySF (plainFor_of_name pn_8) hisR ?_
  intro p e s m args below meth c s₁ Bd hml0 hP hK
  obtain ⟨rfl, hZ, hh⟩ := hP
  have hx := Bd.exec
  have hby := Bd.bytes
  have hml : c.maxLocals = 3 := hml0
  have hown : s.vm.findClass "com/example/grotti/grotti/Operation" = some m.cls := findClass_of_methodNamed Bd.named
  have hnm := (name_of_methodNamed Bd.named Bd.method).1
  have X0 : Stand p l e ({ frames := 1, cells := 0, slots := 0, locals := 12 } : Room) s m #[(.ref a0), (.ref a1), (.ref a2)] below meth c s₁ [] 0 0 := Stand.of_body Bd
  have e0 : s₁.heap = h0 := by rw [← hh, Bd.state]; rfl
  have N0 := Fr.nil n0
  have K0 : Keep h0 h0 [a0] := Keep.refl _ _
  have pre0 : ∀ t, Steps p.tables e below (s₁.setTop (mkF m 0 #[.val (.ref a0), .val (.ref a1), .val (.ref a2)] [])) t → Steps p.tables e below (s₁.setTop (entryFrame m #[(.ref a0), (.ref a1), (.ref a2)] 3)) t := fun t k => castTop (ef_8 m a0 a1 a2) k
  obtain ⟨T1, X1, e1, st1⟩ := initO X0 hx hZ hown (hw _ (List.mem_of_getElem? (i := 43) rfl)) (hw _ (List.mem_of_getElem? (i := 25) rfl)) (hw _ (List.mem_of_getElem? (i := 26) rfl)) e0 (g := (mkF m 1 #[.val (.ref a0), .val (.ref a1), .val (.ref a2)] [(.ref a0)])) rfl (by rw [hml]; rfl) rfl (hb hby d8_1) (by decide) (W := 0) (by show 2 * 0 + _ ≤ _; exact Nat.le_of_eq rfl) (by decide)
  have E_a0 := E_a00
  have F_app_a0 := F_app_a00
  obtain ⟨T2, h2, X2, e2, W2, st2⟩ := putF X1 hx hZ hown (host := "") (Or.inl (hw _ (List.mem_of_getElem? (i := 44) rfl))) Via.refl e1 F_app_a0 E_a0 (Or.inr ⟨(hw _ (List.mem_of_getElem? (i := 45) rfl)), rfl, hnm⟩) (hw _ (List.mem_of_getElem? (i := 13) rfl)) (ty := (.object "java/lang/String")) (by decide) rfl rfl (g := (mkF m 6 #[.val (.ref a0), .val (.ref a1), .val (.ref a2)] [(.ref a1), (.ref a0)])) rfl rfl (hb hby d8_6)
  have N2 := Fr.snoc X2 N0 g_a0
  have O2 : Old Z n0 h2 := O0.wr W2 g_a0
  have K2 : Keep h0 h2 [a0] := K0.wr W2 (Or.inl (List.mem_of_getElem? (i := 0) rfl))
  have E_a0 := (E_a0.wr W2)
  have F_app_a0 := F_app_a0.same W2
  have F_op_a0 := (F_op_a00.other W2 (Or.inr (slot_ne (Or.inr (hw _ (List.mem_of_getElem? (i := 47) rfl))) (Or.inr (hw _ (List.mem_of_getElem? (i := 45) rfl))) (by decide) (t := (.object "java/lang/String")) (t' := (.object "java/lang/String")) (by decide) (by decide))))
  obtain ⟨T3, h3, X3, e3, W3, st3⟩ := putF X2 hx hZ hown (host := "") (Or.inl (hw _ (List.mem_of_getElem? (i := 46) rfl))) Via.refl e2 F_op_a0 E_a0 (Or.inr ⟨(hw _ (List.mem_of_getElem? (i := 47) rfl)), rfl, hnm⟩) (hw _ (List.mem_of_getElem? (i := 13) rfl)) (ty := (.object "java/lang/String")) (by decide) rfl rfl (g := (mkF m 11 #[.val (.ref a0), .val (.ref a1), .val (.ref a2)] [(.ref a2), (.ref a0)])) rfl rfl (hb hby d8_11)
  have N3 := Fr.snoc X3 N2 g_a0
  have O3 : Old Z n0 h3 := O2.wr W3 g_a0
  have K3 : Keep h0 h3 [a0] := K2.wr W3 (Or.inl (List.mem_of_getElem? (i := 0) rfl))
  have E_a0 := (E_a0.wr W3)
  have F_app_a0 := (F_app_a0.other W3 (Or.inr (slot_ne (Or.inr (hw _ (List.mem_of_getElem? (i := 45) rfl))) (Or.inr (hw _ (List.mem_of_getElem? (i := 47) rfl))) (by decide) (t := (.object "java/lang/String")) (t' := (.object "java/lang/String")) (by decide) (by decide))))
  have F_op_a0 := F_op_a0.same W3
  obtain ⟨fs, hr, hrun, hended, hW, hsame⟩ := X3.leave (v := none) (fun h => rfl)
  refine ⟨_, _, pre0 _ ?_, hrun, hended, _, _, rfl, ?_, ⟨_, rfl⟩, hW, hsame.mono (by decide) (by decide)⟩
  · show Steps p.tables e below (s₁.setTop (mkF m 0 #[.val (.ref a0), .val (.ref a1), .val (.ref a2)] [])) _
    refine XS.aloadN X0.here hx rfl (hb hby d8_0) rfl rfl ?_
    show Steps p.tables e below (s₁.setTop (mkF m 1 #[.val (.ref a0), .val (.ref a1), .val (.ref a2)] [(.ref a0)])) _
    refine st1 _ ?_
    show Steps p.tables e below (T1.setTop (mkF m 4 #[.val (.ref a0), .val (.ref a1), .val (.ref a2)] [])) _
    refine XS.aloadN X1.here hx rfl (hb hby d8_4) rfl rfl ?_
    show Steps p.tables e below (T1.setTop (mkF m 5 #[.val (.ref a0), .val (.ref a1), .val (.ref a2)] [(.ref a0)])) _
    refine XS.aloadN X1.here hx rfl (hb hby d8_5) rfl rfl ?_
    show Steps p.tables e below (T1.setTop (mkF m 6 #[.val (.ref a0), .val (.ref a1), .val (.ref a2)] [(.ref a1), (.ref a0)])) _
    refine st2 _ ?_
    show Steps p.tables e below (T2.setTop (mkF m 9 #[.val (.ref a0), .val (.ref a1), .val (.ref a2)] [])) _
    refine XS.aloadN X2.here hx rfl (hb hby d8_9) rfl rfl ?_
    show Steps p.tables e below (T2.setTop (mkF m 10 #[.val (.ref a0), .val (.ref a1), .val (.ref a2)] [(.ref a0)])) _
    refine XS.aloadN X2.here hx rfl (hb hby d8_10) rfl rfl ?_
    show Steps p.tables e below (T2.setTop (mkF m 11 #[.val (.ref a0), .val (.ref a1), .val (.ref a2)] [(.ref a2), (.ref a0)])) _
    refine st3 _ ?_
    show Steps p.tables e below (T3.setTop (mkF m 14 #[.val (.ref a0), .val (.ref a1), .val (.ref a2)] [])) _
    exact X3.returnOut hx Bd.returns (hb hby d8_14) hr
  · show Q8 Z a0 a1 a2 i_COMPACT_STRINGS u_app_a0 u_op_a0 h0 n0 _ T3.heap _
    rw [e3]
    exact ⟨rfl, N3, O3, K3, F_app_a0, F_op_a0⟩

theorem d9_0 : decode method_3_code 0 = .ok (.iload_n 0, 1) := by decide +kernel
theorem d9_1 : decode method_3_code 1 = .ok (.iload_n 3, 1) := by decide +kernel
theorem d9_2 : decode method_3_code 2 = .ok (.if_icmp .eq 5, 3) := by decide +kernel
theorem d9_5 : decode method_3_code 5 = .ok (.iconst 0, 1) := by decide +kernel
theorem d9_6 : decode method_3_code 6 = .ok (.ireturn, 1) := by decide +kernel
theorem d9_7 : decode method_3_code 7 = .ok (.iload_n 0, 1) := by decide +kernel
theorem d9_8 : decode method_3_code 8 = .ok (.iconst 1, 1) := by decide +kernel
theorem d9_9 : decode method_3_code 9 = .ok (.if_icmp .lt 11, 3) := by decide +kernel
theorem d9_12 : decode method_3_code 12 = .ok (.iload_n 1, 1) := by decide +kernel
theorem d9_13 : decode method_3_code 13 = .ok (.iload 4, 2) := by decide +kernel
theorem d9_15 : decode method_3_code 15 = .ok (.if_icmp .eq 5, 3) := by decide +kernel
theorem d9_18 : decode method_3_code 18 = .ok (.iconst 0, 1) := by decide +kernel
theorem d9_19 : decode method_3_code 19 = .ok (.ireturn, 1) := by decide +kernel
theorem d9_20 : decode method_3_code 20 = .ok (.iload_n 0, 1) := by decide +kernel
theorem d9_21 : decode method_3_code 21 = .ok (.iconst 2, 1) := by decide +kernel
theorem d9_22 : decode method_3_code 22 = .ok (.if_icmp .lt 11, 3) := by decide +kernel
theorem d9_25 : decode method_3_code 25 = .ok (.iload_n 2, 1) := by decide +kernel
theorem d9_26 : decode method_3_code 26 = .ok (.iload 5, 2) := by decide +kernel
theorem d9_28 : decode method_3_code 28 = .ok (.if_icmp .eq 5, 3) := by decide +kernel
theorem d9_31 : decode method_3_code 31 = .ok (.iconst 0, 1) := by decide +kernel
theorem d9_32 : decode method_3_code 32 = .ok (.ireturn, 1) := by decide +kernel
theorem d9_33 : decode method_3_code 33 = .ok (.iconst 1, 1) := by decide +kernel
theorem d9_34 : decode method_3_code 34 = .ok (.ireturn, 1) := by decide +kernel
theorem pn_9 : plainName "com/example/grotti/grotti/OperationEqualsPinLaw" = true := by first | (simp [plainName, overriddenIn]; done) | decide +kernel
theorem ef_9 (m : MethodId) (p0 : Int32) (p1 : Int32) (p2 : Int32) (p3 : Int32) (p4 : Int32) (p5 : Int32) : entryFrame m #[(.int p0), (.int p1), (.int p2), (.int p3), (.int p4), (.int p5)] 6 = mkF m 0 #[.val (.int p0), .val (.int p1), .val (.int p2), .val (.int p3), .val (.int p4), .val (.int p5)] [] := by first | (simp [entryFrame, mkF, argsToLocals, Value.category]; done) | rfl
def v9 (p0 : Int32) (p1 : Int32) (p2 : Int32) (p3 : Int32) (p4 : Int32) (p5 : Int32) : Int32 := if p0 = p3 then if p0 < (1 : Int32) then if p0 < (2 : Int32) then (1 : Int32) else if p2 = p5 then (1 : Int32) else (0 : Int32) else if p1 = p4 then if p0 < (2 : Int32) then (1 : Int32) else if p2 = p5 then (1 : Int32) else (0 : Int32) else (0 : Int32) else (0 : Int32)
def Q9 (Z : State) (p0 : Int32) (p1 : Int32) (p2 : Int32) (p3 : Int32) (p4 : Int32) (p5 : Int32) (i_COMPACT_STRINGS : Int32)  (h0 : Heap) (n0 : Nat) (v : Option Value) (h : Heap) (L : List Loc) : Prop := v = some (.int (v9 p0 p1 p2 p3 p4 p5)) ∧ Fr n0 L ∧ Old Z n0 h ∧ Keep h0 h []
set_option maxRecDepth 65536 in
set_option maxHeartbeats 40000000 in
theorem rm9 (l : Launch) (Z : State) (ar0 : Array Value) (hw : ∀ d ∈ tables_1, d.before ar0 Z = true) (ws : List Jvm.Cond) (p0 : Int32) (p1 : Int32) (p2 : Int32) (p3 : Int32) (p4 : Int32) (p5 : Int32) (i_COMPACT_STRINGS : Int32)  (h0 : Heap) (n0 : Nat) (O0 : Old Z n0 h0) (F : Fx Z Z.heap i_COMPACT_STRINGS)  :
    MetFree l (⟨"com/example/grotti/grotti/OperationEqualsPinLaw", "same", "(IIIIII)Z"⟩ : MethodName) (head1 ((Jvm.Cond.code (⟨"com/example/grotti/grotti/OperationEqualsPinLaw", "same", "(IIIIII)Z"⟩ : MethodName) method_3_code 6 (some .boolean)) :: ws) ({ frames := 0, cells := 0, slots := 0, locals := 0 } : Room)) (fun a U => a = #[(.int p0), (.int p1), (.int p2), (.int p3), (.int p4), (.int p5)] ∧ Z.Warmed39 U.vm ∧ U.heap = h0) (fun _ _ _ _ _ => True) (fun _ U o U' => ∃ v L, o = .returned v ∧ Q9 Z p0 p1 p2 p3 p4 p5 i_COMPACT_STRINGS  h0 n0 v U'.heap L ∧ FrameEnd U o U' L ({ frames := 0, cells := 0, slots := 0, locals := 0 } : Room).cells ({ frames := 0, cells := 0, slots := 0, locals := 0 } : Room).slots) := by
  obtain ⟨S_COMPACT_STRINGS, P_COMPACT_STRINGS⟩ := id F
  refine MetFree.of_bodySF (plainFor_of_name pn_9) hisR ?_
  intro p e s m args below meth c s₁ Bd hml0 hP hK
  obtain ⟨rfl, hZ, hh⟩ := hP
  have hx := Bd.exec
  have hby := Bd.bytes
  have hml : c.maxLocals = 6 := hml0
  have hown : s.vm.findClass "com/example/grotti/grotti/OperationEqualsPinLaw" = some m.cls := findClass_of_methodNamed Bd.named
  have hnm := (name_of_methodNamed Bd.named Bd.method).1
  have X0 : Stand p l e ({ frames := 0, cells := 0, slots := 0, locals := 0 } : Room) s m #[(.int p0), (.int p1), (.int p2), (.int p3), (.int p4), (.int p5)] below meth c s₁ [] 0 0 := Stand.of_body Bd
  have e0 : s₁.heap = h0 := by rw [← hh, Bd.state]; rfl
  have N0 := Fr.nil n0
  have K0 : Keep h0 h0 [] := Keep.refl _ _
  have pre0 : ∀ t, Steps p.tables e below (s₁.setTop (mkF m 0 #[.val (.int p0), .val (.int p1), .val (.int p2), .val (.int p3), .val (.int p4), .val (.int p5)] [])) t → Steps p.tables e below (s₁.setTop (entryFrame m #[(.int p0), (.int p1), (.int p2), (.int p3), (.int p4), (.int p5)] 6)) t := fun t k => castTop (ef_9 m p0 p1 p2 p3 p4 p5) k
  have pre1 : ∀ t, Steps p.tables e below (s₁.setTop (mkF m 2 #[.val (.int p0), .val (.int p1), .val (.int p2), .val (.int p3), .val (.int p4), .val (.int p5)] [(.int p3), (.int p0)])) t → Steps p.tables e below (s₁.setTop (entryFrame m #[(.int p0), (.int p1), (.int p2), (.int p3), (.int p4), (.int p5)] 6)) t := by
    intro t k
    refine pre0 _ ?_
    show Steps p.tables e below (s₁.setTop (mkF m 0 #[.val (.int p0), .val (.int p1), .val (.int p2), .val (.int p3), .val (.int p4), .val (.int p5)] [])) _
    refine XS.iloadN X0.here hx rfl (hb hby d9_0) rfl ?_
    show Steps p.tables e below (s₁.setTop (mkF m 1 #[.val (.int p0), .val (.int p1), .val (.int p2), .val (.int p3), .val (.int p4), .val (.int p5)] [(.int p0)])) _
    refine XS.iloadN X0.here hx rfl (hb hby d9_1) rfl ?_
    exact k
  by_cases hc2 : p0 = p3
  ·
    have pre3 : ∀ t, Steps p.tables e below (s₁.setTop (mkF m 9 #[.val (.int p0), .val (.int p1), .val (.int p2), .val (.int p3), .val (.int p4), .val (.int p5)] [(.int (1 : Int32)), (.int p0)])) t → Steps p.tables e below (s₁.setTop (entryFrame m #[(.int p0), (.int p1), (.int p2), (.int p3), (.int p4), (.int p5)] 6)) t := by
      intro t k
      refine pre1 _ ?_
      show Steps p.tables e below (s₁.setTop (mkF m 2 #[.val (.int p0), .val (.int p1), .val (.int p2), .val (.int p3), .val (.int p4), .val (.int p5)] [(.int p3), (.int p0)])) _
      refine XS.icmpYes X0.here hx rfl (pc0 := 2) (pc' := 7) rfl (hb hby d9_2) rfl (teq hc2).1 (by decide) (by decide) ?_
      show Steps p.tables e below (s₁.setTop (mkF m 7 #[.val (.int p0), .val (.int p1), .val (.int p2), .val (.int p3), .val (.int p4), .val (.int p5)] [])) _
      refine XS.iloadN X0.here hx rfl (hb hby d9_7) rfl ?_
      show Steps p.tables e below (s₁.setTop (mkF m 8 #[.val (.int p0), .val (.int p1), .val (.int p2), .val (.int p3), .val (.int p4), .val (.int p5)] [(.int p0)])) _
      refine XS.iconst X0.here hx rfl (hb hby d9_8) ?_
      exact k
    by_cases hc4 : p0 < (1 : Int32)
    ·
      have pre5 : ∀ t, Steps p.tables e below (s₁.setTop (mkF m 22 #[.val (.int p0), .val (.int p1), .val (.int p2), .val (.int p3), .val (.int p4), .val (.int p5)] [(.int (2 : Int32)), (.int p0)])) t → Steps p.tables e below (s₁.setTop (entryFrame m #[(.int p0), (.int p1), (.int p2), (.int p3), (.int p4), (.int p5)] 6)) t := by
        intro t k
        refine pre3 _ ?_
        show Steps p.tables e below (s₁.setTop (mkF m 9 #[.val (.int p0), .val (.int p1), .val (.int p2), .val (.int p3), .val (.int p4), .val (.int p5)] [(.int (1 : Int32)), (.int p0)])) _
        refine XS.icmpYes X0.here hx rfl (pc0 := 9) (pc' := 20) rfl (hb hby d9_9) rfl (tlt hc4).1 (by decide) (by decide) ?_
        show Steps p.tables e below (s₁.setTop (mkF m 20 #[.val (.int p0), .val (.int p1), .val (.int p2), .val (.int p3), .val (.int p4), .val (.int p5)] [])) _
        refine XS.iloadN X0.here hx rfl (hb hby d9_20) rfl ?_
        show Steps p.tables e below (s₁.setTop (mkF m 21 #[.val (.int p0), .val (.int p1), .val (.int p2), .val (.int p3), .val (.int p4), .val (.int p5)] [(.int p0)])) _
        refine XS.iconst X0.here hx rfl (hb hby d9_21) ?_
        exact k
      by_cases hc6 : p0 < (2 : Int32)
      ·
        obtain ⟨fs, hr, hrun, hended, hW, hsame⟩ := X0.leave (v := some (.int (1 : Int32))) (fun h => by rw [Bd.returns] at h; cases h)
        refine ⟨_, _, pre5 _ ?_, hrun, hended, _, _, rfl, ?_, ⟨_, rfl⟩, hW, hsame.mono (by decide) (by decide)⟩
        · show Steps p.tables e below (s₁.setTop (mkF m 22 #[.val (.int p0), .val (.int p1), .val (.int p2), .val (.int p3), .val (.int p4), .val (.int p5)] [(.int (2 : Int32)), (.int p0)])) _
          refine XS.icmpYes X0.here hx rfl (pc0 := 22) (pc' := 33) rfl (hb hby d9_22) rfl (tlt hc6).1 (by decide) (by decide) ?_
          show Steps p.tables e below (s₁.setTop (mkF m 33 #[.val (.int p0), .val (.int p1), .val (.int p2), .val (.int p3), .val (.int p4), .val (.int p5)] [])) _
          refine XS.iconst X0.here hx rfl (hb hby d9_33) ?_
          show Steps p.tables e below (s₁.setTop (mkF m 34 #[.val (.int p0), .val (.int p1), .val (.int p2), .val (.int p3), .val (.int p4), .val (.int p5)] [(.int (1 : Int32))])) _
          exact retN X0 hx (t := .boolean) Bd.returns (by simp) (hb hby d9_34) hr
        · show Q9 Z p0 p1 p2 p3 p4 p5 i_COMPACT_STRINGS  h0 n0 _ s₁.heap _
          rw [e0]
          exact ⟨by unfold v9; rw [if_pos hc2, if_pos hc4, if_pos hc6], N0, O0, K0⟩
      ·
        have pre7 : ∀ t, Steps p.tables e below (s₁.setTop (mkF m 28 #[.val (.int p0), .val (.int p1), .val (.int p2), .val (.int p3), .val (.int p4), .val (.int p5)] [(.int p5), (.int p2)])) t → Steps p.tables e below (s₁.setTop (entryFrame m #[(.int p0), (.int p1), (.int p2), (.int p3), (.int p4), (.int p5)] 6)) t := by
          intro t k
          refine pre5 _ ?_
          show Steps p.tables e below (s₁.setTop (mkF m 22 #[.val (.int p0), .val (.int p1), .val (.int p2), .val (.int p3), .val (.int p4), .val (.int p5)] [(.int (2 : Int32)), (.int p0)])) _
          refine XS.icmpNo X0.here hx rfl (hb hby d9_22) rfl (flt hc6).1 ?_
          show Steps p.tables e below (s₁.setTop (mkF m 25 #[.val (.int p0), .val (.int p1), .val (.int p2), .val (.int p3), .val (.int p4), .val (.int p5)] [])) _
          refine XS.iloadN X0.here hx rfl (hb hby d9_25) rfl ?_
          show Steps p.tables e below (s₁.setTop (mkF m 26 #[.val (.int p0), .val (.int p1), .val (.int p2), .val (.int p3), .val (.int p4), .val (.int p5)] [(.int p2)])) _
          refine XS.iload X0.here hx rfl (hb hby d9_26) rfl ?_
          exact k
        by_cases hc8 : p2 = p5
        ·
          obtain ⟨fs, hr, hrun, hended, hW, hsame⟩ := X0.leave (v := some (.int (1 : Int32))) (fun h => by rw [Bd.returns] at h; cases h)
          refine ⟨_, _, pre7 _ ?_, hrun, hended, _, _, rfl, ?_, ⟨_, rfl⟩, hW, hsame.mono (by decide) (by decide)⟩
          · show Steps p.tables e below (s₁.setTop (mkF m 28 #[.val (.int p0), .val (.int p1), .val (.int p2), .val (.int p3), .val (.int p4), .val (.int p5)] [(.int p5), (.int p2)])) _
            refine XS.icmpYes X0.here hx rfl (pc0 := 28) (pc' := 33) rfl (hb hby d9_28) rfl (teq hc8).1 (by decide) (by decide) ?_
            show Steps p.tables e below (s₁.setTop (mkF m 33 #[.val (.int p0), .val (.int p1), .val (.int p2), .val (.int p3), .val (.int p4), .val (.int p5)] [])) _
            refine XS.iconst X0.here hx rfl (hb hby d9_33) ?_
            show Steps p.tables e below (s₁.setTop (mkF m 34 #[.val (.int p0), .val (.int p1), .val (.int p2), .val (.int p3), .val (.int p4), .val (.int p5)] [(.int (1 : Int32))])) _
            exact retN X0 hx (t := .boolean) Bd.returns (by simp) (hb hby d9_34) hr
          · show Q9 Z p0 p1 p2 p3 p4 p5 i_COMPACT_STRINGS  h0 n0 _ s₁.heap _
            rw [e0]
            exact ⟨by unfold v9; rw [if_pos hc2, if_pos hc4, if_neg hc6, if_pos hc8], N0, O0, K0⟩
        ·
          obtain ⟨fs, hr, hrun, hended, hW, hsame⟩ := X0.leave (v := some (.int (0 : Int32))) (fun h => by rw [Bd.returns] at h; cases h)
          refine ⟨_, _, pre7 _ ?_, hrun, hended, _, _, rfl, ?_, ⟨_, rfl⟩, hW, hsame.mono (by decide) (by decide)⟩
          · show Steps p.tables e below (s₁.setTop (mkF m 28 #[.val (.int p0), .val (.int p1), .val (.int p2), .val (.int p3), .val (.int p4), .val (.int p5)] [(.int p5), (.int p2)])) _
            refine XS.icmpNo X0.here hx rfl (hb hby d9_28) rfl (feq hc8).1 ?_
            show Steps p.tables e below (s₁.setTop (mkF m 31 #[.val (.int p0), .val (.int p1), .val (.int p2), .val (.int p3), .val (.int p4), .val (.int p5)] [])) _
            refine XS.iconst X0.here hx rfl (hb hby d9_31) ?_
            show Steps p.tables e below (s₁.setTop (mkF m 32 #[.val (.int p0), .val (.int p1), .val (.int p2), .val (.int p3), .val (.int p4), .val (.int p5)] [(.int (0 : Int32))])) _
            exact retN X0 hx (t := .boolean) Bd.returns (by simp) (hb hby d9_32) hr
          · show Q9 Z p0 p1 p2 p3 p4 p5 i_COMPACT_STRINGS  h0 n0 _ s₁.heap _
            rw [e0]
            exact ⟨by unfold v9; rw [if_pos hc2, if_pos hc4, if_neg hc6, if_neg hc8], N0, O0, K0⟩
    ·
      have pre9 : ∀ t, Steps p.tables e below (s₁.setTop (mkF m 15 #[.val (.int p0), .val (.int p1), .val (.int p2), .val (.int p3), .val (.int p4), .val (.int p5)] [(.int p4), (.int p1)])) t → Steps p.tables e below (s₁.setTop (entryFrame m #[(.int p0), (.int p1), (.int p2), (.int p3), (.int p4), (.int p5)] 6)) t := by
        intro t k
        refine pre3 _ ?_
        show Steps p.tables e below (s₁.setTop (mkF m 9 #[.val (.int p0), .val (.int p1), .val (.int p2), .val (.int p3), .val (.int p4), .val (.int p5)] [(.int (1 : Int32)), (.int p0)])) _
        refine XS.icmpNo X0.here hx rfl (hb hby d9_9) rfl (flt hc4).1 ?_
        show Steps p.tables e below (s₁.setTop (mkF m 12 #[.val (.int p0), .val (.int p1), .val (.int p2), .val (.int p3), .val (.int p4), .val (.int p5)] [])) _
        refine XS.iloadN X0.here hx rfl (hb hby d9_12) rfl ?_
        show Steps p.tables e below (s₁.setTop (mkF m 13 #[.val (.int p0), .val (.int p1), .val (.int p2), .val (.int p3), .val (.int p4), .val (.int p5)] [(.int p1)])) _
        refine XS.iload X0.here hx rfl (hb hby d9_13) rfl ?_
        exact k
      by_cases hc10 : p1 = p4
      ·
        have pre11 : ∀ t, Steps p.tables e below (s₁.setTop (mkF m 22 #[.val (.int p0), .val (.int p1), .val (.int p2), .val (.int p3), .val (.int p4), .val (.int p5)] [(.int (2 : Int32)), (.int p0)])) t → Steps p.tables e below (s₁.setTop (entryFrame m #[(.int p0), (.int p1), (.int p2), (.int p3), (.int p4), (.int p5)] 6)) t := by
          intro t k
          refine pre9 _ ?_
          show Steps p.tables e below (s₁.setTop (mkF m 15 #[.val (.int p0), .val (.int p1), .val (.int p2), .val (.int p3), .val (.int p4), .val (.int p5)] [(.int p4), (.int p1)])) _
          refine XS.icmpYes X0.here hx rfl (pc0 := 15) (pc' := 20) rfl (hb hby d9_15) rfl (teq hc10).1 (by decide) (by decide) ?_
          show Steps p.tables e below (s₁.setTop (mkF m 20 #[.val (.int p0), .val (.int p1), .val (.int p2), .val (.int p3), .val (.int p4), .val (.int p5)] [])) _
          refine XS.iloadN X0.here hx rfl (hb hby d9_20) rfl ?_
          show Steps p.tables e below (s₁.setTop (mkF m 21 #[.val (.int p0), .val (.int p1), .val (.int p2), .val (.int p3), .val (.int p4), .val (.int p5)] [(.int p0)])) _
          refine XS.iconst X0.here hx rfl (hb hby d9_21) ?_
          exact k
        by_cases hc12 : p0 < (2 : Int32)
        ·
          obtain ⟨fs, hr, hrun, hended, hW, hsame⟩ := X0.leave (v := some (.int (1 : Int32))) (fun h => by rw [Bd.returns] at h; cases h)
          refine ⟨_, _, pre11 _ ?_, hrun, hended, _, _, rfl, ?_, ⟨_, rfl⟩, hW, hsame.mono (by decide) (by decide)⟩
          · show Steps p.tables e below (s₁.setTop (mkF m 22 #[.val (.int p0), .val (.int p1), .val (.int p2), .val (.int p3), .val (.int p4), .val (.int p5)] [(.int (2 : Int32)), (.int p0)])) _
            refine XS.icmpYes X0.here hx rfl (pc0 := 22) (pc' := 33) rfl (hb hby d9_22) rfl (tlt hc12).1 (by decide) (by decide) ?_
            show Steps p.tables e below (s₁.setTop (mkF m 33 #[.val (.int p0), .val (.int p1), .val (.int p2), .val (.int p3), .val (.int p4), .val (.int p5)] [])) _
            refine XS.iconst X0.here hx rfl (hb hby d9_33) ?_
            show Steps p.tables e below (s₁.setTop (mkF m 34 #[.val (.int p0), .val (.int p1), .val (.int p2), .val (.int p3), .val (.int p4), .val (.int p5)] [(.int (1 : Int32))])) _
            exact retN X0 hx (t := .boolean) Bd.returns (by simp) (hb hby d9_34) hr
          · show Q9 Z p0 p1 p2 p3 p4 p5 i_COMPACT_STRINGS  h0 n0 _ s₁.heap _
            rw [e0]
            exact ⟨by unfold v9; rw [if_pos hc2, if_neg hc4, if_pos hc10, if_pos hc12], N0, O0, K0⟩
        ·
          have pre13 : ∀ t, Steps p.tables e below (s₁.setTop (mkF m 28 #[.val (.int p0), .val (.int p1), .val (.int p2), .val (.int p3), .val (.int p4), .val (.int p5)] [(.int p5), (.int p2)])) t → Steps p.tables e below (s₁.setTop (entryFrame m #[(.int p0), (.int p1), (.int p2), (.int p3), (.int p4), (.int p5)] 6)) t := by
            intro t k
            refine pre11 _ ?_
            show Steps p.tables e below (s₁.setTop (mkF m 22 #[.val (.int p0), .val (.int p1), .val (.int p2), .val (.int p3), .val (.int p4), .val (.int p5)] [(.int (2 : Int32)), (.int p0)])) _
            refine XS.icmpNo X0.here hx rfl (hb hby d9_22) rfl (flt hc12).1 ?_
            show Steps p.tables e below (s₁.setTop (mkF m 25 #[.val (.int p0), .val (.int p1), .val (.int p2), .val (.int p3), .val (.int p4), .val (.int p5)] [])) _
            refine XS.iloadN X0.here hx rfl (hb hby d9_25) rfl ?_
            show Steps p.tables e below (s₁.setTop (mkF m 26 #[.val (.int p0), .val (.int p1), .val (.int p2), .val (.int p3), .val (.int p4), .val (.int p5)] [(.int p2)])) _
            refine XS.iload X0.here hx rfl (hb hby d9_26) rfl ?_
            exact k
          by_cases hc14 : p2 = p5
          ·
            obtain ⟨fs, hr, hrun, hended, hW, hsame⟩ := X0.leave (v := some (.int (1 : Int32))) (fun h => by rw [Bd.returns] at h; cases h)
            refine ⟨_, _, pre13 _ ?_, hrun, hended, _, _, rfl, ?_, ⟨_, rfl⟩, hW, hsame.mono (by decide) (by decide)⟩
            · show Steps p.tables e below (s₁.setTop (mkF m 28 #[.val (.int p0), .val (.int p1), .val (.int p2), .val (.int p3), .val (.int p4), .val (.int p5)] [(.int p5), (.int p2)])) _
              refine XS.icmpYes X0.here hx rfl (pc0 := 28) (pc' := 33) rfl (hb hby d9_28) rfl (teq hc14).1 (by decide) (by decide) ?_
              show Steps p.tables e below (s₁.setTop (mkF m 33 #[.val (.int p0), .val (.int p1), .val (.int p2), .val (.int p3), .val (.int p4), .val (.int p5)] [])) _
              refine XS.iconst X0.here hx rfl (hb hby d9_33) ?_
              show Steps p.tables e below (s₁.setTop (mkF m 34 #[.val (.int p0), .val (.int p1), .val (.int p2), .val (.int p3), .val (.int p4), .val (.int p5)] [(.int (1 : Int32))])) _
              exact retN X0 hx (t := .boolean) Bd.returns (by simp) (hb hby d9_34) hr
            · show Q9 Z p0 p1 p2 p3 p4 p5 i_COMPACT_STRINGS  h0 n0 _ s₁.heap _
              rw [e0]
              exact ⟨by unfold v9; rw [if_pos hc2, if_neg hc4, if_pos hc10, if_neg hc12, if_pos hc14], N0, O0, K0⟩
          ·
            obtain ⟨fs, hr, hrun, hended, hW, hsame⟩ := X0.leave (v := some (.int (0 : Int32))) (fun h => by rw [Bd.returns] at h; cases h)
            refine ⟨_, _, pre13 _ ?_, hrun, hended, _, _, rfl, ?_, ⟨_, rfl⟩, hW, hsame.mono (by decide) (by decide)⟩
            · show Steps p.tables e below (s₁.setTop (mkF m 28 #[.val (.int p0), .val (.int p1), .val (.int p2), .val (.int p3), .val (.int p4), .val (.int p5)] [(.int p5), (.int p2)])) _
              refine XS.icmpNo X0.here hx rfl (hb hby d9_28) rfl (feq hc14).1 ?_
              show Steps p.tables e below (s₁.setTop (mkF m 31 #[.val (.int p0), .val (.int p1), .val (.int p2), .val (.int p3), .val (.int p4), .val (.int p5)] [])) _
              refine XS.iconst X0.here hx rfl (hb hby d9_31) ?_
              show Steps p.tables e below (s₁.setTop (mkF m 32 #[.val (.int p0), .val (.int p1), .val (.int p2), .val (.int p3), .val (.int p4), .val (.int p5)] [(.int (0 : Int32))])) _
              exact retN X0 hx (t := .boolean) Bd.returns (by simp) (hb hby d9_32) hr
            · show Q9 Z p0 p1 p2 p3 p4 p5 i_COMPACT_STRINGS  h0 n0 _ s₁.heap _
              rw [e0]
              exact ⟨by unfold v9; rw [if_pos hc2, if_neg hc4, if_pos hc10, if_neg hc12, if_neg hc14], N0, O0, K0⟩
      ·
        obtain ⟨fs, hr, hrun, hended, hW, hsame⟩ := X0.leave (v := some (.int (0 : Int32))) (fun h => by rw [Bd.returns] at h; cases h)
        refine ⟨_, _, pre9 _ ?_, hrun, hended, _, _, rfl, ?_, ⟨_, rfl⟩, hW, hsame.mono (by decide) (by decide)⟩
        · show Steps p.tables e below (s₁.setTop (mkF m 15 #[.val (.int p0), .val (.int p1), .val (.int p2), .val (.int p3), .val (.int p4), .val (.int p5)] [(.int p4), (.int p1)])) _
          refine XS.icmpNo X0.here hx rfl (hb hby d9_15) rfl (feq hc10).1 ?_
          show Steps p.tables e below (s₁.setTop (mkF m 18 #[.val (.int p0), .val (.int p1), .val (.int p2), .val (.int p3), .val (.int p4), .val (.int p5)] [])) _
          refine XS.iconst X0.here hx rfl (hb hby d9_18) ?_
          show Steps p.tables e below (s₁.setTop (mkF m 19 #[.val (.int p0), .val (.int p1), .val (.int p2), .val (.int p3), .val (.int p4), .val (.int p5)] [(.int (0 : Int32))])) _
          exact retN X0 hx (t := .boolean) Bd.returns (by simp) (hb hby d9_19) hr
        · show Q9 Z p0 p1 p2 p3 p4 p5 i_COMPACT_STRINGS  h0 n0 _ s₁.heap _
          rw [e0]
          exact ⟨by unfold v9; rw [if_pos hc2, if_neg hc4, if_neg hc10], N0, O0, K0⟩
  ·
    obtain ⟨fs, hr, hrun, hended, hW, hsame⟩ := X0.leave (v := some (.int (0 : Int32))) (fun h => by rw [Bd.returns] at h; cases h)
    refine ⟨_, _, pre1 _ ?_, hrun, hended, _, _, rfl, ?_, ⟨_, rfl⟩, hW, hsame.mono (by decide) (by decide)⟩
    · show Steps p.tables e below (s₁.setTop (mkF m 2 #[.val (.int p0), .val (.int p1), .val (.int p2), .val (.int p3), .val (.int p4), .val (.int p5)] [(.int p3), (.int p0)])) _
      refine XS.icmpNo X0.here hx rfl (hb hby d9_2) rfl (feq hc2).1 ?_
      show Steps p.tables e below (s₁.setTop (mkF m 5 #[.val (.int p0), .val (.int p1), .val (.int p2), .val (.int p3), .val (.int p4), .val (.int p5)] [])) _
      refine XS.iconst X0.here hx rfl (hb hby d9_5) ?_
      show Steps p.tables e below (s₁.setTop (mkF m 6 #[.val (.int p0), .val (.int p1), .val (.int p2), .val (.int p3), .val (.int p4), .val (.int p5)] [(.int (0 : Int32))])) _
      exact retN X0 hx (t := .boolean) Bd.returns (by simp) (hb hby d9_6) hr
    · show Q9 Z p0 p1 p2 p3 p4 p5 i_COMPACT_STRINGS  h0 n0 _ s₁.heap _
      rw [e0]
      exact ⟨by unfold v9; rw [if_neg hc2], N0, O0, K0⟩

theorem d10n_0 : decode prog_20_method_4_code 0 = .ok (.aload_n 1, 1) := by decide +kernel
theorem d10n_1 : decode prog_20_method_4_code 1 = .ok (.instanceof 8, 3) := by decide +kernel
theorem d10n_4 : decode prog_20_method_4_code 4 = .ok (.ifCond .eq 40, 3) := by decide +kernel
theorem d10n_44 : decode prog_20_method_4_code 44 = .ok (.iconst 0, 1) := by decide +kernel
theorem d10n_45 : decode prog_20_method_4_code 45 = .ok (.ireturn, 1) := by decide +kernel
theorem pn_10n : plainName "com/example/grotti/grotti/Operation" = true := by first | (simp [plainName, overriddenIn]; done) | decide +kernel
theorem ef_10n (m : MethodId) (a0 : Addr) : entryFrame m #[(.ref a0), .null] 3 = mkF m 0 #[.val (.ref a0), .val .null, .unset] [] := by first | (simp [entryFrame, mkF, argsToLocals, Value.category]; done) | rfl
def Q10n (Z : State) (a0 : Addr) (i_COMPACT_STRINGS : Int32)  (h0 : Heap) (n0 : Nat) (v : Option Value) (h : Heap) (L : List Loc) : Prop := v = some (.int (0 : Int32)) ∧ Fr n0 L ∧ Old Z n0 h ∧ Keep h0 h []
set_option maxRecDepth 65536 in
set_option maxHeartbeats 40000000 in
theorem rm10n (l : Launch) (Z : State) (ar0 : Array Value) (hw : ∀ d ∈ tables_1, d.before ar0 Z = true) (ws : List Jvm.Cond) (a0 : Addr) (i_COMPACT_STRINGS : Int32)  (h0 : Heap) (n0 : Nat) (O0 : Old Z n0 h0) (F : Fx Z Z.heap i_COMPACT_STRINGS)  :
    MetFree l (⟨"com/example/grotti/grotti/Operation", "equals", "(Ljava/lang/Object;)Z"⟩ : MethodName) (head1 ((Jvm.Cond.code (⟨"com/example/grotti/grotti/Operation", "equals", "(Ljava/lang/Object;)Z"⟩ : MethodName) prog_20_method_4_code 3 (some .boolean)) :: ws) ({ frames := 0, cells := 0, slots := 0, locals := 0 } : Room)) (fun a U => a = #[(.ref a0), .null] ∧ Z.Warmed39 U.vm ∧ U.heap = h0) (fun _ _ _ _ _ => True) (fun _ U o U' => ∃ v L, o = .returned v ∧ Q10n Z a0 i_COMPACT_STRINGS  h0 n0 v U'.heap L ∧ FrameEnd U o U' L ({ frames := 0, cells := 0, slots := 0, locals := 0 } : Room).cells ({ frames := 0, cells := 0, slots := 0, locals := 0 } : Room).slots) := by
  obtain ⟨S_COMPACT_STRINGS, P_COMPACT_STRINGS⟩ := id F
  refine MetFree.of_bodySF (plainFor_of_name pn_10n) hisR ?_
  intro p e s m args below meth c s₁ Bd hml0 hP hK
  obtain ⟨rfl, hZ, hh⟩ := hP
  have hx := Bd.exec
  have hby := Bd.bytes
  have hml : c.maxLocals = 3 := hml0
  have hown : s.vm.findClass "com/example/grotti/grotti/Operation" = some m.cls := findClass_of_methodNamed Bd.named
  have hnm := (name_of_methodNamed Bd.named Bd.method).1
  have X0 : Stand p l e ({ frames := 0, cells := 0, slots := 0, locals := 0 } : Room) s m #[(.ref a0), .null] below meth c s₁ [] 0 0 := Stand.of_body Bd
  have e0 : s₁.heap = h0 := by rw [← hh, Bd.state]; rfl
  have N0 := Fr.nil n0
  have K0 : Keep h0 h0 [] := Keep.refl _ _
  have pre0 : ∀ t, Steps p.tables e below (s₁.setTop (mkF m 0 #[.val (.ref a0), .val .null, .unset] [])) t → Steps p.tables e below (s₁.setTop (entryFrame m #[(.ref a0), .null] 3)) t := fun t k => castTop (ef_10n m a0) k
  obtain ⟨fs, hr, hrun, hended, hW, hsame⟩ := X0.leave (v := some (.int (0 : Int32))) (fun h => by rw [Bd.returns] at h; cases h)
  refine ⟨_, _, pre0 _ ?_, hrun, hended, _, _, rfl, ?_, ⟨_, rfl⟩, hW, hsame.mono (by decide) (by decide)⟩
  · show Steps p.tables e below (s₁.setTop (mkF m 0 #[.val (.ref a0), .val .null, .unset] [])) _
    refine XS.aloadN X0.here hx rfl (hb hby d10n_0) rfl rfl ?_
    show Steps p.tables e below (s₁.setTop (mkF m 1 #[.val (.ref a0), .val .null, .unset] [.null])) _
    refine X0.instanceofNull hx (g := (mkF m 1 #[.val (.ref a0), .val .null, .unset] [.null])) rfl rfl (hb hby d10n_1) _ ?_
    show Steps p.tables e below (s₁.setTop (mkF m 4 #[.val (.ref a0), .val .null, .unset] [(.int (0 : Int32))])) _
    refine XS.ifYes X0.here hx rfl (pc0 := 4) (pc' := 44) rfl (hb hby d10n_4) rfl ((if0 _ _).trans (teq (by decide : (0 : Int32) = (0 : Int32))).1) (by decide) (by decide) ?_
    show Steps p.tables e below (s₁.setTop (mkF m 44 #[.val (.ref a0), .val .null, .unset] [])) _
    refine XS.iconst X0.here hx rfl (hb hby d10n_44) ?_
    show Steps p.tables e below (s₁.setTop (mkF m 45 #[.val (.ref a0), .val .null, .unset] [(.int (0 : Int32))])) _
    exact retN X0 hx (t := .boolean) Bd.returns (by simp) (hb hby d10n_45) hr
  · show Q10n Z a0 i_COMPACT_STRINGS  h0 n0 _ s₁.heap _
    rw [e0]
    exact ⟨rfl, N0, O0, K0⟩

theorem d10s_0 : decode prog_20_method_4_code 0 = .ok (.aload_n 1, 1) := by decide +kernel
theorem d10s_1 : decode prog_20_method_4_code 1 = .ok (.instanceof 8, 3) := by decide +kernel
theorem d10s_4 : decode prog_20_method_4_code 4 = .ok (.ifCond .eq 40, 3) := by decide +kernel
theorem d10s_44 : decode prog_20_method_4_code 44 = .ok (.iconst 0, 1) := by decide +kernel
theorem d10s_45 : decode prog_20_method_4_code 45 = .ok (.ireturn, 1) := by decide +kernel
theorem pn_10s : plainName "com/example/grotti/grotti/Operation" = true := by first | (simp [plainName, overriddenIn]; done) | decide +kernel
theorem ef_10s (m : MethodId) (a0 : Addr) (a1 : Addr) : entryFrame m #[(.ref a0), (.ref a1)] 3 = mkF m 0 #[.val (.ref a0), .val (.ref a1), .unset] [] := by first | (simp [entryFrame, mkF, argsToLocals, Value.category]; done) | rfl
def Q10s (Z : State) (a0 : Addr) (a1 : Addr) (i_COMPACT_STRINGS : Int32)  (h0 : Heap) (n0 : Nat) (v : Option Value) (h : Heap) (L : List Loc) : Prop := v = some (.int (0 : Int32)) ∧ Fr n0 L ∧ Old Z n0 h ∧ Keep h0 h []
set_option maxRecDepth 65536 in
set_option maxHeartbeats 40000000 in
theorem rm10s (l : Launch) (Z : State) (ar0 : Array Value) (hw : ∀ d ∈ tables_1, d.before ar0 Z = true) (ws : List Jvm.Cond) (a0 : Addr) (a1 : Addr) (i_COMPACT_STRINGS : Int32)  (h0 : Heap) (n0 : Nat) (O0 : Old Z n0 h0) (F : Fx Z Z.heap i_COMPACT_STRINGS) (E_a10 : Exa Z h0 a1 "java/lang/String") :
    MetFree l (⟨"com/example/grotti/grotti/Operation", "equals", "(Ljava/lang/Object;)Z"⟩ : MethodName) (head1 ((Jvm.Cond.code (⟨"com/example/grotti/grotti/Operation", "equals", "(Ljava/lang/Object;)Z"⟩ : MethodName) prog_20_method_4_code 3 (some .boolean)) :: ws) ({ frames := 0, cells := 0, slots := 0, locals := 0 } : Room)) (fun a U => a = #[(.ref a0), (.ref a1)] ∧ Z.Warmed39 U.vm ∧ U.heap = h0) (fun _ _ _ _ _ => True) (fun _ U o U' => ∃ v L, o = .returned v ∧ Q10s Z a0 a1 i_COMPACT_STRINGS  h0 n0 v U'.heap L ∧ FrameEnd U o U' L ({ frames := 0, cells := 0, slots := 0, locals := 0 } : Room).cells ({ frames := 0, cells := 0, slots := 0, locals := 0 } : Room).slots) := by
  obtain ⟨S_COMPACT_STRINGS, P_COMPACT_STRINGS⟩ := id F
  refine MetFree.of_bodySF (plainFor_of_name pn_10s) hisR ?_
  intro p e s m args below meth c s₁ Bd hml0 hP hK
  obtain ⟨rfl, hZ, hh⟩ := hP
  have hx := Bd.exec
  have hby := Bd.bytes
  have hml : c.maxLocals = 3 := hml0
  have hown : s.vm.findClass "com/example/grotti/grotti/Operation" = some m.cls := findClass_of_methodNamed Bd.named
  have hnm := (name_of_methodNamed Bd.named Bd.method).1
  have X0 : Stand p l e ({ frames := 0, cells := 0, slots := 0, locals := 0 } : Room) s m #[(.ref a0), (.ref a1)] below meth c s₁ [] 0 0 := Stand.of_body Bd
  have e0 : s₁.heap = h0 := by rw [← hh, Bd.state]; rfl
  have N0 := Fr.nil n0
  have K0 : Keep h0 h0 [] := Keep.refl _ _
  have pre0 : ∀ t, Steps p.tables e below (s₁.setTop (mkF m 0 #[.val (.ref a0), .val (.ref a1), .unset] [])) t → Steps p.tables e below (s₁.setTop (entryFrame m #[(.ref a0), (.ref a1)] 3)) t := fun t k => castTop (ef_10s m a0 a1) k
  have E_a1 := E_a10
  obtain ⟨T1, X1, e1, st1⟩ := instNo X0 hx hZ hown (hw _ (List.mem_of_getElem? (i := 56) rfl)) e0 E_a1 (own_inst_no (hw _ (List.mem_of_getElem? (i := 80) rfl)) (hw _ (List.mem_of_getElem? (i := 81) rfl)) (hw _ (List.mem_of_getElem? (i := 13) rfl)) (by decide) (by decide)) (g := (mkF m 1 #[.val (.ref a0), .val (.ref a1), .unset] [(.ref a1)])) rfl rfl (hb hby d10s_1)
  obtain ⟨fs, hr, hrun, hended, hW, hsame⟩ := X1.leave (v := some (.int (0 : Int32))) (fun h => by rw [Bd.returns] at h; cases h)
  refine ⟨_, _, pre0 _ ?_, hrun, hended, _, _, rfl, ?_, ⟨_, rfl⟩, hW, hsame.mono (by decide) (by decide)⟩
  · show Steps p.tables e below (s₁.setTop (mkF m 0 #[.val (.ref a0), .val (.ref a1), .unset] [])) _
    refine XS.aloadN X0.here hx rfl (hb hby d10s_0) rfl rfl ?_
    show Steps p.tables e below (s₁.setTop (mkF m 1 #[.val (.ref a0), .val (.ref a1), .unset] [(.ref a1)])) _
    refine st1 _ ?_
    show Steps p.tables e below (T1.setTop (mkF m 4 #[.val (.ref a0), .val (.ref a1), .unset] [(.int (0 : Int32))])) _
    refine XS.ifYes X1.here hx rfl (pc0 := 4) (pc' := 44) rfl (hb hby d10s_4) rfl ((if0 _ _).trans (teq (by decide : (0 : Int32) = (0 : Int32))).1) (by decide) (by decide) ?_
    show Steps p.tables e below (T1.setTop (mkF m 44 #[.val (.ref a0), .val (.ref a1), .unset] [])) _
    refine XS.iconst X1.here hx rfl (hb hby d10s_44) ?_
    show Steps p.tables e below (T1.setTop (mkF m 45 #[.val (.ref a0), .val (.ref a1), .unset] [(.int (0 : Int32))])) _
    exact retN X1 hx (t := .boolean) Bd.returns (by simp) (hb hby d10s_45) hr
  · show Q10s Z a0 a1 i_COMPACT_STRINGS  h0 n0 _ T1.heap _
    rw [e1]
    exact ⟨rfl, N0, O0, K0⟩

theorem d10e_0 : decode prog_20_method_4_code 0 = .ok (.aload_n 1, 1) := by decide +kernel
theorem d10e_1 : decode prog_20_method_4_code 1 = .ok (.instanceof 8, 3) := by decide +kernel
theorem d10e_4 : decode prog_20_method_4_code 4 = .ok (.ifCond .eq 40, 3) := by decide +kernel
theorem d10e_7 : decode prog_20_method_4_code 7 = .ok (.aload_n 1, 1) := by decide +kernel
theorem d10e_8 : decode prog_20_method_4_code 8 = .ok (.checkcast 8, 3) := by decide +kernel
theorem d10e_11 : decode prog_20_method_4_code 11 = .ok (.astore_n 2, 1) := by decide +kernel
theorem d10e_12 : decode prog_20_method_4_code 12 = .ok (.aload_n 0, 1) := by decide +kernel
theorem d10e_13 : decode prog_20_method_4_code 13 = .ok (.getfield 7, 3) := by decide +kernel
theorem d10e_16 : decode prog_20_method_4_code 16 = .ok (.aload_n 2, 1) := by decide +kernel
theorem d10e_17 : decode prog_20_method_4_code 17 = .ok (.getfield 7, 3) := by decide +kernel
theorem d10e_20 : decode prog_20_method_4_code 20 = .ok (.invokevirtual 16, 3) := by decide +kernel
theorem d10e_23 : decode prog_20_method_4_code 23 = .ok (.ifCond .eq 21, 3) := by decide +kernel
theorem d10e_26 : decode prog_20_method_4_code 26 = .ok (.aload_n 0, 1) := by decide +kernel
theorem d10e_27 : decode prog_20_method_4_code 27 = .ok (.getfield 13, 3) := by decide +kernel
theorem d10e_30 : decode prog_20_method_4_code 30 = .ok (.aload_n 2, 1) := by decide +kernel
theorem d10e_31 : decode prog_20_method_4_code 31 = .ok (.getfield 13, 3) := by decide +kernel
theorem d10e_34 : decode prog_20_method_4_code 34 = .ok (.invokevirtual 16, 3) := by decide +kernel
theorem d10e_37 : decode prog_20_method_4_code 37 = .ok (.ifCond .eq 7, 3) := by decide +kernel
theorem d10e_40 : decode prog_20_method_4_code 40 = .ok (.iconst 1, 1) := by decide +kernel
theorem d10e_41 : decode prog_20_method_4_code 41 = .ok (.goto 4, 3) := by decide +kernel
theorem d10e_44 : decode prog_20_method_4_code 44 = .ok (.iconst 0, 1) := by decide +kernel
theorem d10e_45 : decode prog_20_method_4_code 45 = .ok (.ireturn, 1) := by decide +kernel
theorem pn_10e : plainName "com/example/grotti/grotti/Operation" = true := by first | (simp [plainName, overriddenIn]; done) | decide +kernel
theorem pd_10e_20 : parseMethodDescriptor "(Ljava/lang/Object;)Z" = some ⟨[(.object "java/lang/Object")], some .boolean⟩ := by decide +kernel
theorem pd_10e_34 : parseMethodDescriptor "(Ljava/lang/Object;)Z" = some ⟨[(.object "java/lang/Object")], some .boolean⟩ := by decide +kernel
theorem ef_10e (m : MethodId) (a0 : Addr) (a1 : Addr) : entryFrame m #[(.ref a0), (.ref a1)] 3 = mkF m 0 #[.val (.ref a0), .val (.ref a1), .unset] [] := by first | (simp [entryFrame, mkF, argsToLocals, Value.category]; done) | rfl
def Q10e (Z : State) (a0 : Addr) (a1 : Addr) (i_COMPACT_STRINGS : Int32) (sxa : Addr) (tsxa : Addr) (ksxa : ClassId) (csxa : List Int32) (sxo : Addr) (tsxo : Addr) (ksxo : ClassId) (csxo : List Int32) (sya : Addr) (tsya : Addr) (ksya : ClassId) (csya : List Int32) (syo : Addr) (tsyo : Addr) (ksyo : ClassId) (csyo : List Int32) (h0 : Heap) (n0 : Nat) (v : Option Value) (h : Heap) (L : List Loc) : Prop := v = some (.int (eqR csxa csya csxo csyo)) ∧ Fr n0 L ∧ Old Z n0 h ∧ Keep h0 h []
set_option maxRecDepth 65536 in
set_option maxHeartbeats 40000000 in
theorem rm10e (l : Launch) (Z : State) (ar0 : Array Value) (hw : ∀ d ∈ tables_1, d.before ar0 Z = true) (ws : List Jvm.Cond) (a0 : Addr) (a1 : Addr) (i_COMPACT_STRINGS : Int32) (sxa : Addr) (tsxa : Addr) (ksxa : ClassId) (csxa : List Int32) (sxo : Addr) (tsxo : Addr) (ksxo : ClassId) (csxo : List Int32) (sya : Addr) (tsya : Addr) (ksya : ClassId) (csya : List Int32) (syo : Addr) (tsyo : Addr) (ksyo : ClassId) (csyo : List Int32) (h0 : Heap) (n0 : Nat) (O0 : Old Z n0 h0) (F : Fx Z Z.heap i_COMPACT_STRINGS) (h_csxa : ∀ c ∈ csxa, ¬ c < 0 ∧ ¬ (255 : Int32) < c) (l_csxa : csxa.length ≤ 4000) (h_csxo : ∀ c ∈ csxo, ¬ c < 0 ∧ ¬ (255 : Int32) < c) (l_csxo : csxo.length ≤ 4000) (h_csya : ∀ c ∈ csya, ¬ c < 0 ∧ ¬ (255 : Int32) < c) (l_csya : csya.length ≤ 4000) (h_csyo : ∀ c ∈ csyo, ¬ c < 0 ∧ ¬ (255 : Int32) < c) (l_csyo : csyo.length ≤ 4000) (E_a10 : Exa Z h0 a1 "com/example/grotti/grotti/Operation") (F_app_a00 : Fld Z h0 a0 "com/example/grotti/grotti/Operation" "app" "Ljava/lang/String;" (.ref sxa)) (E_sxa0 : Exa Z h0 sxa "java/lang/String") (F_coder_sxa0 : Fld Z h0 sxa "java/lang/String" "coder" "B" (.int (0 : Int32))) (F_value_sxa0 : Fld Z h0 sxa "java/lang/String" "value" "[B" (.ref tsxa)) (V_tsxa0 : Arv Z h0 tsxa ksxa .byte (Int32.ofNat csxa.length) (((csxa).map (fun c => c.toInt8.toInt32)).map Value.int) (.int 0)) (F_op_a00 : Fld Z h0 a0 "com/example/grotti/grotti/Operation" "op" "Ljava/lang/String;" (.ref sxo)) (E_sxo0 : Exa Z h0 sxo "java/lang/String") (F_coder_sxo0 : Fld Z h0 sxo "java/lang/String" "coder" "B" (.int (0 : Int32))) (F_value_sxo0 : Fld Z h0 sxo "java/lang/String" "value" "[B" (.ref tsxo)) (V_tsxo0 : Arv Z h0 tsxo ksxo .byte (Int32.ofNat csxo.length) (((csxo).map (fun c => c.toInt8.toInt32)).map Value.int) (.int 0)) (F_app_a10 : Fld Z h0 a1 "com/example/grotti/grotti/Operation" "app" "Ljava/lang/String;" (.ref sya)) (E_sya0 : Exa Z h0 sya "java/lang/String") (F_coder_sya0 : Fld Z h0 sya "java/lang/String" "coder" "B" (.int (0 : Int32))) (F_value_sya0 : Fld Z h0 sya "java/lang/String" "value" "[B" (.ref tsya)) (V_tsya0 : Arv Z h0 tsya ksya .byte (Int32.ofNat csya.length) (((csya).map (fun c => c.toInt8.toInt32)).map Value.int) (.int 0)) (F_op_a10 : Fld Z h0 a1 "com/example/grotti/grotti/Operation" "op" "Ljava/lang/String;" (.ref syo)) (E_syo0 : Exa Z h0 syo "java/lang/String") (F_coder_syo0 : Fld Z h0 syo "java/lang/String" "coder" "B" (.int (0 : Int32))) (F_value_syo0 : Fld Z h0 syo "java/lang/String" "value" "[B" (.ref tsyo)) (V_tsyo0 : Arv Z h0 tsyo ksyo .byte (Int32.ofNat csyo.length) (((csyo).map (fun c => c.toInt8.toInt32)).map Value.int) (.int 0)) :
    MetFree l (⟨"com/example/grotti/grotti/Operation", "equals", "(Ljava/lang/Object;)Z"⟩ : MethodName) (head1 ((Jvm.Cond.code (⟨"com/example/grotti/grotti/Operation", "equals", "(Ljava/lang/Object;)Z"⟩ : MethodName) prog_20_method_4_code 3 (some .boolean)) :: ws) ({ frames := 2, cells := 0, slots := 0, locals := 28 } : Room)) (fun a U => a = #[(.ref a0), (.ref a1)] ∧ Z.Warmed39 U.vm ∧ U.heap = h0) (fun _ _ _ _ _ => True) (fun _ U o U' => ∃ v L, o = .returned v ∧ Q10e Z a0 a1 i_COMPACT_STRINGS sxa tsxa ksxa csxa sxo tsxo ksxo csxo sya tsya ksya csya syo tsyo ksyo csyo h0 n0 v U'.heap L ∧ FrameEnd U o U' L ({ frames := 2, cells := 0, slots := 0, locals := 28 } : Room).cells ({ frames := 2, cells := 0, slots := 0, locals := 28 } : Room).slots) := by
  obtain ⟨S_COMPACT_STRINGS, P_COMPACT_STRINGS⟩ := id F
  refine MetFree.of_bodySF (plainFor_of_name pn_10e) hisR ?_
  intro p e s m args below meth c s₁ Bd hml0 hP hK
  obtain ⟨rfl, hZ, hh⟩ := hP
  have hx := Bd.exec
  have hby := Bd.bytes
  have hml : c.maxLocals = 3 := hml0
  have hown : s.vm.findClass "com/example/grotti/grotti/Operation" = some m.cls := findClass_of_methodNamed Bd.named
  have hnm := (name_of_methodNamed Bd.named Bd.method).1
  have X0 : Stand p l e ({ frames := 2, cells := 0, slots := 0, locals := 28 } : Room) s m #[(.ref a0), (.ref a1)] below meth c s₁ [] 0 0 := Stand.of_body Bd
  have e0 : s₁.heap = h0 := by rw [← hh, Bd.state]; rfl
  have N0 := Fr.nil n0
  have K0 : Keep h0 h0 [] := Keep.refl _ _
  have pre0 : ∀ t, Steps p.tables e below (s₁.setTop (mkF m 0 #[.val (.ref a0), .val (.ref a1), .unset] [])) t → Steps p.tables e below (s₁.setTop (entryFrame m #[(.ref a0), (.ref a1)] 3)) t := fun t k => castTop (ef_10e m a0 a1) k
  have E_a1 := E_a10
  have F_app_a0 := F_app_a00
  have E_sxa := E_sxa0
  have F_coder_sxa := F_coder_sxa0
  have F_value_sxa := F_value_sxa0
  have V_tsxa := V_tsxa0
  have F_op_a0 := F_op_a00
  have E_sxo := E_sxo0
  have F_coder_sxo := F_coder_sxo0
  have F_value_sxo := F_value_sxo0
  have V_tsxo := V_tsxo0
  have F_app_a1 := F_app_a10
  have E_sya := E_sya0
  have F_coder_sya := F_coder_sya0
  have F_value_sya := F_value_sya0
  have V_tsya := V_tsya0
  have F_op_a1 := F_op_a10
  have E_syo := E_syo0
  have F_coder_syo := F_coder_syo0
  have F_value_syo := F_value_syo0
  have V_tsyo := V_tsyo0
  obtain ⟨T1, X1, e1, st1⟩ := instY X0 hx hZ hown (hw _ (List.mem_of_getElem? (i := 56) rfl)) e0 (Ins.self E_a1) (g := (mkF m 1 #[.val (.ref a0), .val (.ref a1), .unset] [(.ref a1)])) rfl rfl (hb hby d10e_1)
  obtain ⟨T2, X2, e2, st2⟩ := castY X1 hx hZ hown (hw _ (List.mem_of_getElem? (i := 56) rfl)) e1 (Ins.self E_a1) (g := (mkF m 8 #[.val (.ref a0), .val (.ref a1), .unset] [(.ref a1)])) rfl rfl (hb hby d10e_8)
  obtain ⟨T3, X3, e3, st3⟩ := getF X2 hx hZ hown (host := "") (Or.inl (hw _ (List.mem_of_getElem? (i := 44) rfl))) Via.refl e2 F_app_a0 (g := (mkF m 13 #[.val (.ref a0), .val (.ref a1), .val (.ref a1)] [(.ref a0)])) rfl rfl (hb hby d10e_13)
  obtain ⟨T4, X4, e4, st4⟩ := getF X3 hx hZ hown (host := "") (Or.inl (hw _ (List.mem_of_getElem? (i := 44) rfl))) Via.refl e3 F_app_a1 (g := (mkF m 17 #[.val (.ref a0), .val (.ref a1), .val (.ref a1)] [(.ref a1), (.ref sxa)])) rfl rfl (hb hby d10e_17)
  have heq5 : ∀ d ∈ StrChars.Road.wordsEq, d.before ar0 Z = true := fun d hd => hw d ((by decide +kernel : ∀ d ∈ StrChars.Road.wordsEq, d ∈ tables_1) d hd)
  obtain ⟨cq5, kq5, q5a, q5b, q5c⟩ := isOf hZ e4 E_sxa
  obtain ⟨_, _, ⟨T5, L5, k5, n5⟩, -, X5, ⟨Lc5, hQ5, l5, y5, z5⟩, st5⟩ := X4.virtualBack hx (y := (⟨"java/lang/String", "equals", "(Ljava/lang/Object;)Z"⟩ : MethodName)) (z := (⟨"java/lang/String", "equals", "(Ljava/lang/Object;)Z"⟩ : MethodName)) hown (mvT hZ (hw _ (List.mem_of_getElem? (i := 58) rfl))) (mvT hZ (hw _ (List.mem_of_getElem? (i := 59) rfl))) (notFace_of_selects (args := #[]) (mvT hZ (hw _ (List.mem_of_getElem? (i := 61) rfl)))) (mvT hZ (hw _ (List.mem_of_getElem? (i := 61) rfl))) (mvT hZ (hw _ (List.mem_of_getElem? (i := 60) rfl))) (by decide) (StrChars.Road.eqW (W := 0) hZ heq5 (kI := 4) (hw _ (List.mem_of_getElem? (i := 6) rfl)) (cs := csxa) (ds := csya) E_sxa F_value_sxa F_coder_sxa V_tsxa (StrChars.Road.codOf (n := (csxa).length) rfl (fun c hc => (h_csxa c hc).2)) (own_up _ h_csxa) l_csxa E_sya F_value_sya F_coder_sya V_tsya (StrChars.Road.codOf (n := (csya).length) rfl (fun c hc => (h_csya c hc).2)) (own_up _ h_csya) l_csya (S_COMPACT_STRINGS.ext O0.2) P_COMPACT_STRINGS (by decide) (by decide)) q5a q5c (g := (mkF m 20 #[.val (.ref a0), .val (.ref a1), .val (.ref a1)] [(.ref sya), (.ref sxa)])) rfl (by rw [hml]; rfl) (Steps.refl _) (argsL := [(.ref sya)]) (rest := []) (lenOf pd_10e_20 rfl) rfl (by show 2 * 0 + _ ≤ _; exact Nat.le_of_eq rfl) (hb hby d10e_20) (fun _ _ => ⟨rfl, e4, (by decide : 0 + 0 ≤ _), (by decide : 0 + 0 ≤ _)⟩)
  dsimp only [Pt.U, Pt.locs, Pt.cells, Pt.slots] at X5 l5 y5 z5 st5 hQ5
  subst l5 y5 z5
  have pre6 : ∀ t, Steps p.tables e below (T4.setTop (mkF m 20 #[.val (.ref a0), .val (.ref a1), .val (.ref a1)] [(.ref sya), (.ref sxa)])) t → Steps p.tables e below (s₁.setTop (entryFrame m #[(.ref a0), (.ref a1)] 3)) t := by
    intro t k
    refine pre0 _ ?_
    show Steps p.tables e below (s₁.setTop (mkF m 0 #[.val (.ref a0), .val (.ref a1), .unset] [])) _
    refine XS.aloadN X0.here hx rfl (hb hby d10e_0) rfl rfl ?_
    show Steps p.tables e below (s₁.setTop (mkF m 1 #[.val (.ref a0), .val (.ref a1), .unset] [(.ref a1)])) _
    refine st1 _ ?_
    show Steps p.tables e below (T1.setTop (mkF m 4 #[.val (.ref a0), .val (.ref a1), .unset] [(.int (1 : Int32))])) _
    refine XS.ifNo X1.here hx rfl (hb hby d10e_4) rfl ((if0 _ _).trans (feq (by decide : ¬ ((1 : Int32) = (0 : Int32)))).1) ?_
    show Steps p.tables e below (T1.setTop (mkF m 7 #[.val (.ref a0), .val (.ref a1), .unset] [])) _
    refine XS.aloadN X1.here hx rfl (hb hby d10e_7) rfl rfl ?_
    show Steps p.tables e below (T1.setTop (mkF m 8 #[.val (.ref a0), .val (.ref a1), .unset] [(.ref a1)])) _
    refine st2 _ ?_
    show Steps p.tables e below (T2.setTop (mkF m 11 #[.val (.ref a0), .val (.ref a1), .unset] [(.ref a1)])) _
    refine XS.astoreN X2.here hx rfl (hb hby d10e_11) rfl rfl (l' := #[.val (.ref a0), .val (.ref a1), .val (.ref a1)]) rfl ?_
    show Steps p.tables e below (T2.setTop (mkF m 12 #[.val (.ref a0), .val (.ref a1), .val (.ref a1)] [])) _
    refine XS.aloadN X2.here hx rfl (hb hby d10e_12) rfl rfl ?_
    show Steps p.tables e below (T2.setTop (mkF m 13 #[.val (.ref a0), .val (.ref a1), .val (.ref a1)] [(.ref a0)])) _
    refine st3 _ ?_
    show Steps p.tables e below (T3.setTop (mkF m 16 #[.val (.ref a0), .val (.ref a1), .val (.ref a1)] [(.ref sxa)])) _
    refine XS.aloadN X3.here hx rfl (hb hby d10e_16) rfl rfl ?_
    show Steps p.tables e below (T3.setTop (mkF m 17 #[.val (.ref a0), .val (.ref a1), .val (.ref a1)] [(.ref a1), (.ref sxa)])) _
    refine st4 _ ?_
    exact k
  rcases hQ5 with ⟨⟨rfl, hcs5⟩ | ⟨rfl, hcs5⟩, rfl, e5⟩
  ·
    have N5 := Fr.app N0 (Fr.nil n0)
    obtain ⟨T7, X7, e7, st7⟩ := getF X5 hx hZ hown (host := "") (Or.inl (hw _ (List.mem_of_getElem? (i := 46) rfl))) Via.refl e5 F_op_a0 (g := (mkF m 27 #[.val (.ref a0), .val (.ref a1), .val (.ref a1)] [(.ref a0)])) rfl rfl (hb hby d10e_27)
    obtain ⟨T8, X8, e8, st8⟩ := getF X7 hx hZ hown (host := "") (Or.inl (hw _ (List.mem_of_getElem? (i := 46) rfl))) Via.refl e7 F_op_a1 (g := (mkF m 31 #[.val (.ref a0), .val (.ref a1), .val (.ref a1)] [(.ref a1), (.ref sxo)])) rfl rfl (hb hby d10e_31)
    have heq9 : ∀ d ∈ StrChars.Road.wordsEq, d.before ar0 Z = true := fun d hd => hw d ((by decide +kernel : ∀ d ∈ StrChars.Road.wordsEq, d ∈ tables_1) d hd)
    obtain ⟨cq9, kq9, q9a, q9b, q9c⟩ := isOf hZ e8 E_sxo
    obtain ⟨_, _, ⟨T9, L9, k9, n9⟩, -, X9, ⟨Lc9, hQ9, l9, y9, z9⟩, st9⟩ := X8.virtualBack hx (y := (⟨"java/lang/String", "equals", "(Ljava/lang/Object;)Z"⟩ : MethodName)) (z := (⟨"java/lang/String", "equals", "(Ljava/lang/Object;)Z"⟩ : MethodName)) hown (mvT hZ (hw _ (List.mem_of_getElem? (i := 58) rfl))) (mvT hZ (hw _ (List.mem_of_getElem? (i := 59) rfl))) (notFace_of_selects (args := #[]) (mvT hZ (hw _ (List.mem_of_getElem? (i := 61) rfl)))) (mvT hZ (hw _ (List.mem_of_getElem? (i := 61) rfl))) (mvT hZ (hw _ (List.mem_of_getElem? (i := 60) rfl))) (by decide) (StrChars.Road.eqW (W := 0) hZ heq9 (kI := 4) (hw _ (List.mem_of_getElem? (i := 6) rfl)) (cs := csxo) (ds := csyo) E_sxo F_value_sxo F_coder_sxo V_tsxo (StrChars.Road.codOf (n := (csxo).length) rfl (fun c hc => (h_csxo c hc).2)) (own_up _ h_csxo) l_csxo E_syo F_value_syo F_coder_syo V_tsyo (StrChars.Road.codOf (n := (csyo).length) rfl (fun c hc => (h_csyo c hc).2)) (own_up _ h_csyo) l_csyo (S_COMPACT_STRINGS.ext O0.2) P_COMPACT_STRINGS (by decide) (by decide)) q9a q9c (g := (mkF m 34 #[.val (.ref a0), .val (.ref a1), .val (.ref a1)] [(.ref syo), (.ref sxo)])) rfl (by rw [hml]; rfl) (Steps.refl _) (argsL := [(.ref syo)]) (rest := []) (lenOf pd_10e_34 rfl) rfl (by show 2 * 0 + _ ≤ _; exact Nat.le_of_eq rfl) (hb hby d10e_34) (fun _ _ => ⟨rfl, e8, (by decide : 0 + 0 ≤ _), (by decide : 0 + 0 ≤ _)⟩)
    dsimp only [Pt.U, Pt.locs, Pt.cells, Pt.slots] at X9 l9 y9 z9 st9 hQ9
    subst l9 y9 z9
    have pre10 : ∀ t, Steps p.tables e below (T8.setTop (mkF m 34 #[.val (.ref a0), .val (.ref a1), .val (.ref a1)] [(.ref syo), (.ref sxo)])) t → Steps p.tables e below (s₁.setTop (entryFrame m #[(.ref a0), (.ref a1)] 3)) t := by
      intro t k
      refine pre6 _ ?_
      show Steps p.tables e below (T4.setTop (mkF m 20 #[.val (.ref a0), .val (.ref a1), .val (.ref a1)] [(.ref sya), (.ref sxa)])) _
      refine st5.trans ?_
      show Steps p.tables e below (T5.setTop (mkF m 23 #[.val (.ref a0), .val (.ref a1), .val (.ref a1)] [(.int (1 : Int32))])) _
      refine XS.ifNo X5.here hx rfl (hb hby d10e_23) rfl ((if0 _ _).trans (feq (by decide : ¬ ((1 : Int32) = (0 : Int32)))).1) ?_
      show Steps p.tables e below (T5.setTop (mkF m 26 #[.val (.ref a0), .val (.ref a1), .val (.ref a1)] [])) _
      refine XS.aloadN X5.here hx rfl (hb hby d10e_26) rfl rfl ?_
      show Steps p.tables e below (T5.setTop (mkF m 27 #[.val (.ref a0), .val (.ref a1), .val (.ref a1)] [(.ref a0)])) _
      refine st7 _ ?_
      show Steps p.tables e below (T7.setTop (mkF m 30 #[.val (.ref a0), .val (.ref a1), .val (.ref a1)] [(.ref sxo)])) _
      refine XS.aloadN X7.here hx rfl (hb hby d10e_30) rfl rfl ?_
      show Steps p.tables e below (T7.setTop (mkF m 31 #[.val (.ref a0), .val (.ref a1), .val (.ref a1)] [(.ref a1), (.ref sxo)])) _
      refine st8 _ ?_
      exact k
    rcases hQ9 with ⟨⟨rfl, hcs9⟩ | ⟨rfl, hcs9⟩, rfl, e9⟩
    ·
      have N9 := Fr.app N5 (Fr.nil n0)
      obtain ⟨fs, hr, hrun, hended, hW, hsame⟩ := X9.leave (v := some (.int (1 : Int32))) (fun h => by rw [Bd.returns] at h; cases h)
      refine ⟨_, _, pre10 _ ?_, hrun, hended, _, _, rfl, ?_, ⟨_, rfl⟩, hW, hsame.mono (by decide) (by decide)⟩
      · show Steps p.tables e below (T8.setTop (mkF m 34 #[.val (.ref a0), .val (.ref a1), .val (.ref a1)] [(.ref syo), (.ref sxo)])) _
        refine st9.trans ?_
        show Steps p.tables e below (T9.setTop (mkF m 37 #[.val (.ref a0), .val (.ref a1), .val (.ref a1)] [(.int (1 : Int32))])) _
        refine XS.ifNo X9.here hx rfl (hb hby d10e_37) rfl ((if0 _ _).trans (feq (by decide : ¬ ((1 : Int32) = (0 : Int32)))).1) ?_
        show Steps p.tables e below (T9.setTop (mkF m 40 #[.val (.ref a0), .val (.ref a1), .val (.ref a1)] [])) _
        refine XS.iconst X9.here hx rfl (hb hby d10e_40) ?_
        show Steps p.tables e below (T9.setTop (mkF m 41 #[.val (.ref a0), .val (.ref a1), .val (.ref a1)] [(.int (1 : Int32))])) _
        refine XS.goto X9.here hx rfl (pc0 := 41) (pc' := 45) rfl (hb hby d10e_41) (by decide) (by decide) ?_
        show Steps p.tables e below (T9.setTop (mkF m 45 #[.val (.ref a0), .val (.ref a1), .val (.ref a1)] [(.int (1 : Int32))])) _
        exact retN X9 hx (t := .boolean) Bd.returns (by simp) (hb hby d10e_45) hr
      · show Q10e Z a0 a1 i_COMPACT_STRINGS sxa tsxa ksxa csxa sxo tsxo ksxo csxo sya tsya ksya csya syo tsyo ksyo csyo h0 n0 _ T9.heap _
        rw [e9]
        exact ⟨by unfold eqR; rw [if_pos hcs5, if_pos hcs9], N9, O0, K0⟩
    ·
      have N9 := Fr.app N5 (Fr.nil n0)
      obtain ⟨fs, hr, hrun, hended, hW, hsame⟩ := X9.leave (v := some (.int (0 : Int32))) (fun h => by rw [Bd.returns] at h; cases h)
      refine ⟨_, _, pre10 _ ?_, hrun, hended, _, _, rfl, ?_, ⟨_, rfl⟩, hW, hsame.mono (by decide) (by decide)⟩
      · show Steps p.tables e below (T8.setTop (mkF m 34 #[.val (.ref a0), .val (.ref a1), .val (.ref a1)] [(.ref syo), (.ref sxo)])) _
        refine st9.trans ?_
        show Steps p.tables e below (T9.setTop (mkF m 37 #[.val (.ref a0), .val (.ref a1), .val (.ref a1)] [(.int (0 : Int32))])) _
        refine XS.ifYes X9.here hx rfl (pc0 := 37) (pc' := 44) rfl (hb hby d10e_37) rfl ((if0 _ _).trans (teq (by decide : (0 : Int32) = (0 : Int32))).1) (by decide) (by decide) ?_
        show Steps p.tables e below (T9.setTop (mkF m 44 #[.val (.ref a0), .val (.ref a1), .val (.ref a1)] [])) _
        refine XS.iconst X9.here hx rfl (hb hby d10e_44) ?_
        show Steps p.tables e below (T9.setTop (mkF m 45 #[.val (.ref a0), .val (.ref a1), .val (.ref a1)] [(.int (0 : Int32))])) _
        exact retN X9 hx (t := .boolean) Bd.returns (by simp) (hb hby d10e_45) hr
      · show Q10e Z a0 a1 i_COMPACT_STRINGS sxa tsxa ksxa csxa sxo tsxo ksxo csxo sya tsya ksya csya syo tsyo ksyo csyo h0 n0 _ T9.heap _
        rw [e9]
        exact ⟨by unfold eqR; rw [if_pos hcs5, if_neg hcs9], N9, O0, K0⟩
  ·
    have N5 := Fr.app N0 (Fr.nil n0)
    obtain ⟨fs, hr, hrun, hended, hW, hsame⟩ := X5.leave (v := some (.int (0 : Int32))) (fun h => by rw [Bd.returns] at h; cases h)
    refine ⟨_, _, pre6 _ ?_, hrun, hended, _, _, rfl, ?_, ⟨_, rfl⟩, hW, hsame.mono (by decide) (by decide)⟩
    · show Steps p.tables e below (T4.setTop (mkF m 20 #[.val (.ref a0), .val (.ref a1), .val (.ref a1)] [(.ref sya), (.ref sxa)])) _
      refine st5.trans ?_
      show Steps p.tables e below (T5.setTop (mkF m 23 #[.val (.ref a0), .val (.ref a1), .val (.ref a1)] [(.int (0 : Int32))])) _
      refine XS.ifYes X5.here hx rfl (pc0 := 23) (pc' := 44) rfl (hb hby d10e_23) rfl ((if0 _ _).trans (teq (by decide : (0 : Int32) = (0 : Int32))).1) (by decide) (by decide) ?_
      show Steps p.tables e below (T5.setTop (mkF m 44 #[.val (.ref a0), .val (.ref a1), .val (.ref a1)] [])) _
      refine XS.iconst X5.here hx rfl (hb hby d10e_44) ?_
      show Steps p.tables e below (T5.setTop (mkF m 45 #[.val (.ref a0), .val (.ref a1), .val (.ref a1)] [(.int (0 : Int32))])) _
      exact retN X5 hx (t := .boolean) Bd.returns (by simp) (hb hby d10e_45) hr
    · show Q10e Z a0 a1 i_COMPACT_STRINGS sxa tsxa ksxa csxa sxo tsxo ksxo csxo sya tsya ksya csya syo tsyo ksyo csyo h0 n0 _ T5.heap _
      rw [e5]
      exact ⟨by unfold eqR; rw [if_neg hcs5], N5, O0, K0⟩

theorem own_b8 (x : Int32) : B8 (x &&& (255 : Int32)) := by
  have e : (x &&& (255 : Int32)).toInt = x.toInt % 2 ^ 8 := Jvm.Kit.i32_mask x 255 (k := 8) (by decide) (by decide)
  unfold B8
  rw [e]
  omega
theorem own_m3 (x : Int32) : (x &&& (3 : Int32)) % (3 : Int32) = 0 ∨ (x &&& (3 : Int32)) % (3 : Int32) = 1 ∨ (x &&& (3 : Int32)) % (3 : Int32) = 2 := by
  have e : (x &&& (3 : Int32)).toInt = x.toInt % 2 ^ 2 := Jvm.Kit.i32_mask x 3 (k := 2) (by decide) (by decide)
  have f : ((x &&& (3 : Int32)) % (3 : Int32)).toInt = (x &&& (3 : Int32)).toInt % (3 : Int32).toInt := Jvm.Kit.i32_rem_nonneg (by rw [e]; omega)
  have g : (3 : Int32).toInt = 3 := by decide
  rw [g] at f
  generalize (x &&& (3 : Int32)) % (3 : Int32) = k at *
  rcases (by omega : k.toInt = 0 ∨ k.toInt = 1 ∨ k.toInt = 2) with h | h | h
  · exact Or.inl (Int32.toInt_inj.mp h)
  · exact Or.inr (Or.inl (Int32.toInt_inj.mp h))
  · exact Or.inr (Or.inr (Int32.toInt_inj.mp h))
theorem own_same {l1 c0 c1 l2 d0 d1 : Int32} (h1 : l1 = 0 ∨ l1 = 1 ∨ l1 = 2) (h2 : l2 = 0 ∨ l2 = 1 ∨ l2 = 2) : ¬ v9 l1 c0 c1 l2 d0 d1 = 0 ↔ csOf l1 c0 c1 = csOf l2 d0 d1 := by
  rcases h1 with rfl | rfl | rfl <;> rcases h2 with rfl | rfl | rfl <;> simp +decide [v9, csOf]
  all_goals (try by_cases q : c0 = d0) <;> (try by_cases q2 : c1 = d1) <;> simp_all +decide
theorem own_eqR_self (a c : List Int32) : eqR a a c c = 1 := by unfold eqR; rw [if_pos rfl, if_pos rfl]
theorem own_eqR_1 {a b c d : List Int32} (h1 : a = b) (h2 : c = d) : eqR a b c d = 1 := by unfold eqR; rw [if_pos h1, if_pos h2]
theorem own_eqR_0 {a b c d : List Int32} (h : ¬ (a = b ∧ c = d)) : eqR a b c d = 0 := by
  unfold eqR
  split
  · split
    · exact absurd ⟨‹_›, ‹_›⟩ h
    · rfl
  · rfl

theorem pn_0 : plainName "com/example/grotti/grotti/OperationEqualsPinLaw" = true := by first | (simp [plainName, overriddenIn]; done) | decide +kernel
theorem pd_0_170 : parseMethodDescriptor "(III)Ljava/lang/String;" = some ⟨[.int, .int, .int], some (.object "java/lang/String")⟩ := by decide +kernel
theorem pd_0_184 : parseMethodDescriptor "(III)Ljava/lang/String;" = some ⟨[.int, .int, .int], some (.object "java/lang/String")⟩ := by decide +kernel
theorem pd_0_193 : parseMethodDescriptor "(III)Ljava/lang/String;" = some ⟨[.int, .int, .int], some (.object "java/lang/String")⟩ := by decide +kernel
theorem pd_0_196 : parseMethodDescriptor "(Ljava/lang/String;Ljava/lang/String;)V" = some ⟨[(.object "java/lang/String"), (.object "java/lang/String")], none⟩ := by decide +kernel
theorem pd_0_213 : parseMethodDescriptor "(III)Ljava/lang/String;" = some ⟨[.int, .int, .int], some (.object "java/lang/String")⟩ := by decide +kernel
theorem pd_0_216 : parseMethodDescriptor "(Ljava/lang/String;Ljava/lang/String;)V" = some ⟨[(.object "java/lang/String"), (.object "java/lang/String")], none⟩ := by decide +kernel
theorem pd_0_232 : parseMethodDescriptor "(IIIIII)Z" = some ⟨[.int, .int, .int, .int, .int, .int], some .boolean⟩ := by decide +kernel
theorem pd_0_250 : parseMethodDescriptor "(IIIIII)Z" = some ⟨[.int, .int, .int, .int, .int, .int], some .boolean⟩ := by decide +kernel
theorem pd_0_275 : parseMethodDescriptor "(Ljava/lang/Object;)Z" = some ⟨[(.object "java/lang/Object")], some .boolean⟩ := by decide +kernel
theorem pd_0_292 : parseMethodDescriptor "(Ljava/lang/Object;)Z" = some ⟨[(.object "java/lang/Object")], some .boolean⟩ := by decide +kernel
theorem pd_0_314 : parseMethodDescriptor "(Ljava/lang/Object;)Z" = some ⟨[(.object "java/lang/Object")], some .boolean⟩ := by decide +kernel
theorem pd_0_330 : parseMethodDescriptor "(Ljava/lang/Object;)Z" = some ⟨[(.object "java/lang/Object")], some .boolean⟩ := by decide +kernel
theorem pd_0_342 : parseMethodDescriptor "(Ljava/lang/Object;)Z" = some ⟨[(.object "java/lang/Object")], some .boolean⟩ := by decide +kernel
theorem ef_0 (m : MethodId) (p0 : Int32) (p1 : Int32) (p2 : Int32) : entryFrame m #[(.int p0), (.int p1), (.int p2)] maxLocals = mkF m 0 #[.val (.int p0), .val (.int p1), .val (.int p2), .unset, .unset, .unset, .unset, .unset, .unset, .unset, .unset, .unset, .unset, .unset, .unset, .unset, .unset, .unset, .unset, .unset] [] := by first | (simp [entryFrame, mkF, argsToLocals, Value.category, maxLocals]; done) | rfl
def Q0 (Z : State) (p0 : Int32) (p1 : Int32) (p2 : Int32) (i_COMPACT_STRINGS : Int32)  (h0 : Heap) (n0 : Nat) (v : Option Value) (h : Heap) (L : List Loc) : Prop := v = some (.int (1 : Int32)) ∧ Fr n0 L
set_option maxRecDepth 65536 in
set_option maxHeartbeats 40000000 in
theorem rm0 (l : Launch) (Z : State) (ar0 : Array Value) (hw : ∀ d ∈ tables_1, d.before ar0 Z = true) (ws : List Jvm.Cond) (p0 : Int32) (p1 : Int32) (p2 : Int32) (i_COMPACT_STRINGS : Int32)  (h0 : Heap) (n0 : Nat) (O0 : Old Z n0 h0) (F : Fx Z Z.heap i_COMPACT_STRINGS)  :
    MetFree l x (head1 ((Jvm.Cond.code x code maxLocals ret) :: ws) room_1) (fun a U => a = #[(.int p0), (.int p1), (.int p2)] ∧ Z.Warmed39 U.vm ∧ U.heap = h0 ∧ CHv Z EL U.vm h0) (fun _ _ _ _ _ => True) (fun _ U o U' => ∃ v L, o = .returned v ∧ Q0 Z p0 p1 p2 i_COMPACT_STRINGS  h0 n0 v U'.heap L ∧ CHr Z EL U.vm U.heap U'.vm U'.heap ∧ ReturnedEndW U o U' L room_1.cells room_1.slots) := by
  obtain ⟨S_COMPACT_STRINGS, P_COMPACT_STRINGS⟩ := id F
  refine MetFree.of_bodySF (plainFor_of_name pn_0) hisR ?_
  intro p e s m args below meth c s₁ Bd hml0 hP hK
  obtain ⟨rfl, hZ, hh, hCH⟩ := hP
  have hx := Bd.exec
  have hby := Bd.bytes
  have hml : c.maxLocals = 20 := hml0
  have hown : s.vm.findClass "com/example/grotti/grotti/OperationEqualsPinLaw" = some m.cls := findClass_of_methodNamed Bd.named
  have hS : s.Since s.vm h0.size := (State.WarmedH.refl s).since _
  have hk : h0.size ≤ h0.size := Nat.le_refl _
  have CR0 : CHr Z EL s.vm h0 s.vm h0 := CHr.refl hCH
  have hEL := own_EW hw
  have wS := own_wS hw
  have hnm := (name_of_methodNamed Bd.named Bd.method).1
  have X0 : Stand p l e room_1 (s.setVm s.vm) m #[(.int p0), (.int p1), (.int p2)] below meth c s₁ [] 0 0 := Stand.of_body Bd
  have e0 : s₁.heap = h0 := by rw [← hh, Bd.state]; rfl
  have N0 := Fr.nil n0
  have K0 : Keep h0 h0 [] := Keep.refl _ _
  have pre0 : ∀ t, Steps p.tables e below (s₁.setTop (mkF m 0 #[.val (.int p0), .val (.int p1), .val (.int p2), .unset, .unset, .unset, .unset, .unset, .unset, .unset, .unset, .unset, .unset, .unset, .unset, .unset, .unset, .unset, .unset, .unset] [])) t → Steps p.tables e below (s₁.setTop (entryFrame m #[(.int p0), (.int p1), (.int p2)] maxLocals)) t := fun t k => castTop (ef_0 m p0 p1 p2) k
  have pre1 : ∀ t, Steps p.tables e below (s₁.setTop (mkF m 77 #[.val (.int p0), .val (.int p1), .val (.int p2), .val (.int ((p2 &&& (3 : Int32)) % (3 : Int32))), .val (.int ((((p2.toUInt32 >>> ((2 : Int32) &&& 31).toUInt32).toInt32) &&& (3 : Int32)) % (3 : Int32))), .val (.int ((((p2.toUInt32 >>> ((4 : Int32) &&& 31).toUInt32).toInt32) &&& (3 : Int32)) % (3 : Int32))), .val (.int ((((p2.toUInt32 >>> ((6 : Int32) &&& 31).toUInt32).toInt32) &&& (3 : Int32)) % (3 : Int32))), .val (.int (p0 &&& (255 : Int32))), .val (.int (((p0.toUInt32 >>> ((8 : Int32) &&& 31).toUInt32).toInt32) &&& (255 : Int32))), .val (.int (((p0.toUInt32 >>> ((16 : Int32) &&& 31).toUInt32).toInt32) &&& (255 : Int32))), .val (.int (((p0.toUInt32 >>> ((24 : Int32) &&& 31).toUInt32).toInt32) &&& (255 : Int32))), .unset, .unset, .unset, .unset, .unset, .unset, .unset, .unset, .unset] [(.int (((p2.toUInt32 >>> ((8 : Int32) &&& 31).toUInt32).toInt32) &&& (1 : Int32)))])) t → Steps p.tables e below (s₁.setTop (entryFrame m #[(.int p0), (.int p1), (.int p2)] maxLocals)) t := by
    intro t k
    refine pre0 _ ?_
    show Steps p.tables e below (s₁.setTop (mkF m 0 #[.val (.int p0), .val (.int p1), .val (.int p2), .unset, .unset, .unset, .unset, .unset, .unset, .unset, .unset, .unset, .unset, .unset, .unset, .unset, .unset, .unset, .unset, .unset] [])) _
    refine XS.iloadN X0.here hx rfl (hb hby at_0) rfl ?_
    show Steps p.tables e below (s₁.setTop (mkF m 1 #[.val (.int p0), .val (.int p1), .val (.int p2), .unset, .unset, .unset, .unset, .unset, .unset, .unset, .unset, .unset, .unset, .unset, .unset, .unset, .unset, .unset, .unset, .unset] [(.int p2)])) _
    refine XS.iconst X0.here hx rfl (hb hby at_1) ?_
    show Steps p.tables e below (s₁.setTop (mkF m 2 #[.val (.int p0), .val (.int p1), .val (.int p2), .unset, .unset, .unset, .unset, .unset, .unset, .unset, .unset, .unset, .unset, .unset, .unset, .unset, .unset, .unset, .unset, .unset] [(.int (3 : Int32)), (.int p2)])) _
    refine XS.iand X0.here hx rfl (hb hby at_2) rfl ?_
    show Steps p.tables e below (s₁.setTop (mkF m 3 #[.val (.int p0), .val (.int p1), .val (.int p2), .unset, .unset, .unset, .unset, .unset, .unset, .unset, .unset, .unset, .unset, .unset, .unset, .unset, .unset, .unset, .unset, .unset] [(.int (p2 &&& (3 : Int32)))])) _
    refine XS.iconst X0.here hx rfl (hb hby at_3) ?_
    show Steps p.tables e below (s₁.setTop (mkF m 4 #[.val (.int p0), .val (.int p1), .val (.int p2), .unset, .unset, .unset, .unset, .unset, .unset, .unset, .unset, .unset, .unset, .unset, .unset, .unset, .unset, .unset, .unset, .unset] [(.int (3 : Int32)), (.int (p2 &&& (3 : Int32)))])) _
    refine iremM X0 hx rfl (hb hby at_4) rfl (by decide) ?_
    show Steps p.tables e below (s₁.setTop (mkF m 5 #[.val (.int p0), .val (.int p1), .val (.int p2), .unset, .unset, .unset, .unset, .unset, .unset, .unset, .unset, .unset, .unset, .unset, .unset, .unset, .unset, .unset, .unset, .unset] [(.int ((p2 &&& (3 : Int32)) % (3 : Int32)))])) _
    refine XS.istoreN X0.here hx rfl (hb hby at_5) rfl (l' := #[.val (.int p0), .val (.int p1), .val (.int p2), .val (.int ((p2 &&& (3 : Int32)) % (3 : Int32))), .unset, .unset, .unset, .unset, .unset, .unset, .unset, .unset, .unset, .unset, .unset, .unset, .unset, .unset, .unset, .unset]) rfl ?_
    show Steps p.tables e below (s₁.setTop (mkF m 6 #[.val (.int p0), .val (.int p1), .val (.int p2), .val (.int ((p2 &&& (3 : Int32)) % (3 : Int32))), .unset, .unset, .unset, .unset, .unset, .unset, .unset, .unset, .unset, .unset, .unset, .unset, .unset, .unset, .unset, .unset] [])) _
    refine XS.iloadN X0.here hx rfl (hb hby at_6) rfl ?_
    show Steps p.tables e below (s₁.setTop (mkF m 7 #[.val (.int p0), .val (.int p1), .val (.int p2), .val (.int ((p2 &&& (3 : Int32)) % (3 : Int32))), .unset, .unset, .unset, .unset, .unset, .unset, .unset, .unset, .unset, .unset, .unset, .unset, .unset, .unset, .unset, .unset] [(.int p2)])) _
    refine XS.iconst X0.here hx rfl (hb hby at_7) ?_
    show Steps p.tables e below (s₁.setTop (mkF m 8 #[.val (.int p0), .val (.int p1), .val (.int p2), .val (.int ((p2 &&& (3 : Int32)) % (3 : Int32))), .unset, .unset, .unset, .unset, .unset, .unset, .unset, .unset, .unset, .unset, .unset, .unset, .unset, .unset, .unset, .unset] [(.int (2 : Int32)), (.int p2)])) _
    refine XS.iushr X0.here hx rfl (hb hby at_8) rfl ?_
    show Steps p.tables e below (s₁.setTop (mkF m 9 #[.val (.int p0), .val (.int p1), .val (.int p2), .val (.int ((p2 &&& (3 : Int32)) % (3 : Int32))), .unset, .unset, .unset, .unset, .unset, .unset, .unset, .unset, .unset, .unset, .unset, .unset, .unset, .unset, .unset, .unset] [(.int ((p2.toUInt32 >>> ((2 : Int32) &&& 31).toUInt32).toInt32))])) _
    refine XS.iconst X0.here hx rfl (hb hby at_9) ?_
    show Steps p.tables e below (s₁.setTop (mkF m 10 #[.val (.int p0), .val (.int p1), .val (.int p2), .val (.int ((p2 &&& (3 : Int32)) % (3 : Int32))), .unset, .unset, .unset, .unset, .unset, .unset, .unset, .unset, .unset, .unset, .unset, .unset, .unset, .unset, .unset, .unset] [(.int (3 : Int32)), (.int ((p2.toUInt32 >>> ((2 : Int32) &&& 31).toUInt32).toInt32))])) _
    refine XS.iand X0.here hx rfl (hb hby at_10) rfl ?_
    show Steps p.tables e below (s₁.setTop (mkF m 11 #[.val (.int p0), .val (.int p1), .val (.int p2), .val (.int ((p2 &&& (3 : Int32)) % (3 : Int32))), .unset, .unset, .unset, .unset, .unset, .unset, .unset, .unset, .unset, .unset, .unset, .unset, .unset, .unset, .unset, .unset] [(.int (((p2.toUInt32 >>> ((2 : Int32) &&& 31).toUInt32).toInt32) &&& (3 : Int32)))])) _
    refine XS.iconst X0.here hx rfl (hb hby at_11) ?_
    show Steps p.tables e below (s₁.setTop (mkF m 12 #[.val (.int p0), .val (.int p1), .val (.int p2), .val (.int ((p2 &&& (3 : Int32)) % (3 : Int32))), .unset, .unset, .unset, .unset, .unset, .unset, .unset, .unset, .unset, .unset, .unset, .unset, .unset, .unset, .unset, .unset] [(.int (3 : Int32)), (.int (((p2.toUInt32 >>> ((2 : Int32) &&& 31).toUInt32).toInt32) &&& (3 : Int32)))])) _
    refine iremM X0 hx rfl (hb hby at_12) rfl (by decide) ?_
    show Steps p.tables e below (s₁.setTop (mkF m 13 #[.val (.int p0), .val (.int p1), .val (.int p2), .val (.int ((p2 &&& (3 : Int32)) % (3 : Int32))), .unset, .unset, .unset, .unset, .unset, .unset, .unset, .unset, .unset, .unset, .unset, .unset, .unset, .unset, .unset, .unset] [(.int ((((p2.toUInt32 >>> ((2 : Int32) &&& 31).toUInt32).toInt32) &&& (3 : Int32)) % (3 : Int32)))])) _
    refine XS.istore X0.here hx rfl (hb hby at_13) rfl (l' := #[.val (.int p0), .val (.int p1), .val (.int p2), .val (.int ((p2 &&& (3 : Int32)) % (3 : Int32))), .val (.int ((((p2.toUInt32 >>> ((2 : Int32) &&& 31).toUInt32).toInt32) &&& (3 : Int32)) % (3 : Int32))), .unset, .unset, .unset, .unset, .unset, .unset, .unset, .unset, .unset, .unset, .unset, .unset, .unset, .unset, .unset]) rfl ?_
    show Steps p.tables e below (s₁.setTop (mkF m 15 #[.val (.int p0), .val (.int p1), .val (.int p2), .val (.int ((p2 &&& (3 : Int32)) % (3 : Int32))), .val (.int ((((p2.toUInt32 >>> ((2 : Int32) &&& 31).toUInt32).toInt32) &&& (3 : Int32)) % (3 : Int32))), .unset, .unset, .unset, .unset, .unset, .unset, .unset, .unset, .unset, .unset, .unset, .unset, .unset, .unset, .unset] [])) _
    refine XS.iloadN X0.here hx rfl (hb hby at_15) rfl ?_
    show Steps p.tables e below (s₁.setTop (mkF m 16 #[.val (.int p0), .val (.int p1), .val (.int p2), .val (.int ((p2 &&& (3 : Int32)) % (3 : Int32))), .val (.int ((((p2.toUInt32 >>> ((2 : Int32) &&& 31).toUInt32).toInt32) &&& (3 : Int32)) % (3 : Int32))), .unset, .unset, .unset, .unset, .unset, .unset, .unset, .unset, .unset, .unset, .unset, .unset, .unset, .unset, .unset] [(.int p2)])) _
    refine XS.iconst X0.here hx rfl (hb hby at_16) ?_
    show Steps p.tables e below (s₁.setTop (mkF m 17 #[.val (.int p0), .val (.int p1), .val (.int p2), .val (.int ((p2 &&& (3 : Int32)) % (3 : Int32))), .val (.int ((((p2.toUInt32 >>> ((2 : Int32) &&& 31).toUInt32).toInt32) &&& (3 : Int32)) % (3 : Int32))), .unset, .unset, .unset, .unset, .unset, .unset, .unset, .unset, .unset, .unset, .unset, .unset, .unset, .unset, .unset] [(.int (4 : Int32)), (.int p2)])) _
    refine XS.iushr X0.here hx rfl (hb hby at_17) rfl ?_
    show Steps p.tables e below (s₁.setTop (mkF m 18 #[.val (.int p0), .val (.int p1), .val (.int p2), .val (.int ((p2 &&& (3 : Int32)) % (3 : Int32))), .val (.int ((((p2.toUInt32 >>> ((2 : Int32) &&& 31).toUInt32).toInt32) &&& (3 : Int32)) % (3 : Int32))), .unset, .unset, .unset, .unset, .unset, .unset, .unset, .unset, .unset, .unset, .unset, .unset, .unset, .unset, .unset] [(.int ((p2.toUInt32 >>> ((4 : Int32) &&& 31).toUInt32).toInt32))])) _
    refine XS.iconst X0.here hx rfl (hb hby at_18) ?_
    show Steps p.tables e below (s₁.setTop (mkF m 19 #[.val (.int p0), .val (.int p1), .val (.int p2), .val (.int ((p2 &&& (3 : Int32)) % (3 : Int32))), .val (.int ((((p2.toUInt32 >>> ((2 : Int32) &&& 31).toUInt32).toInt32) &&& (3 : Int32)) % (3 : Int32))), .unset, .unset, .unset, .unset, .unset, .unset, .unset, .unset, .unset, .unset, .unset, .unset, .unset, .unset, .unset] [(.int (3 : Int32)), (.int ((p2.toUInt32 >>> ((4 : Int32) &&& 31).toUInt32).toInt32))])) _
    refine XS.iand X0.here hx rfl (hb hby at_19) rfl ?_
    show Steps p.tables e below (s₁.setTop (mkF m 20 #[.val (.int p0), .val (.int p1), .val (.int p2), .val (.int ((p2 &&& (3 : Int32)) % (3 : Int32))), .val (.int ((((p2.toUInt32 >>> ((2 : Int32) &&& 31).toUInt32).toInt32) &&& (3 : Int32)) % (3 : Int32))), .unset, .unset, .unset, .unset, .unset, .unset, .unset, .unset, .unset, .unset, .unset, .unset, .unset, .unset, .unset] [(.int (((p2.toUInt32 >>> ((4 : Int32) &&& 31).toUInt32).toInt32) &&& (3 : Int32)))])) _
    refine XS.iconst X0.here hx rfl (hb hby at_20) ?_
    show Steps p.tables e below (s₁.setTop (mkF m 21 #[.val (.int p0), .val (.int p1), .val (.int p2), .val (.int ((p2 &&& (3 : Int32)) % (3 : Int32))), .val (.int ((((p2.toUInt32 >>> ((2 : Int32) &&& 31).toUInt32).toInt32) &&& (3 : Int32)) % (3 : Int32))), .unset, .unset, .unset, .unset, .unset, .unset, .unset, .unset, .unset, .unset, .unset, .unset, .unset, .unset, .unset] [(.int (3 : Int32)), (.int (((p2.toUInt32 >>> ((4 : Int32) &&& 31).toUInt32).toInt32) &&& (3 : Int32)))])) _
    refine iremM X0 hx rfl (hb hby at_21) rfl (by decide) ?_
    show Steps p.tables e below (s₁.setTop (mkF m 22 #[.val (.int p0), .val (.int p1), .val (.int p2), .val (.int ((p2 &&& (3 : Int32)) % (3 : Int32))), .val (.int ((((p2.toUInt32 >>> ((2 : Int32) &&& 31).toUInt32).toInt32) &&& (3 : Int32)) % (3 : Int32))), .unset, .unset, .unset, .unset, .unset, .unset, .unset, .unset, .unset, .unset, .unset, .unset, .unset, .unset, .unset] [(.int ((((p2.toUInt32 >>> ((4 : Int32) &&& 31).toUInt32).toInt32) &&& (3 : Int32)) % (3 : Int32)))])) _
    refine XS.istore X0.here hx rfl (hb hby at_22) rfl (l' := #[.val (.int p0), .val (.int p1), .val (.int p2), .val (.int ((p2 &&& (3 : Int32)) % (3 : Int32))), .val (.int ((((p2.toUInt32 >>> ((2 : Int32) &&& 31).toUInt32).toInt32) &&& (3 : Int32)) % (3 : Int32))), .val (.int ((((p2.toUInt32 >>> ((4 : Int32) &&& 31).toUInt32).toInt32) &&& (3 : Int32)) % (3 : Int32))), .unset, .unset, .unset, .unset, .unset, .unset, .unset, .unset, .unset, .unset, .unset, .unset, .unset, .unset]) rfl ?_
    show Steps p.tables e below (s₁.setTop (mkF m 24 #[.val (.int p0), .val (.int p1), .val (.int p2), .val (.int ((p2 &&& (3 : Int32)) % (3 : Int32))), .val (.int ((((p2.toUInt32 >>> ((2 : Int32) &&& 31).toUInt32).toInt32) &&& (3 : Int32)) % (3 : Int32))), .val (.int ((((p2.toUInt32 >>> ((4 : Int32) &&& 31).toUInt32).toInt32) &&& (3 : Int32)) % (3 : Int32))), .unset, .unset, .unset, .unset, .unset, .unset, .unset, .unset, .unset, .unset, .unset, .unset, .unset, .unset] [])) _
    refine XS.iloadN X0.here hx rfl (hb hby at_24) rfl ?_
    show Steps p.tables e below (s₁.setTop (mkF m 25 #[.val (.int p0), .val (.int p1), .val (.int p2), .val (.int ((p2 &&& (3 : Int32)) % (3 : Int32))), .val (.int ((((p2.toUInt32 >>> ((2 : Int32) &&& 31).toUInt32).toInt32) &&& (3 : Int32)) % (3 : Int32))), .val (.int ((((p2.toUInt32 >>> ((4 : Int32) &&& 31).toUInt32).toInt32) &&& (3 : Int32)) % (3 : Int32))), .unset, .unset, .unset, .unset, .unset, .unset, .unset, .unset, .unset, .unset, .unset, .unset, .unset, .unset] [(.int p2)])) _
    refine XS.bipush X0.here hx rfl (hb hby at_25) ?_
    show Steps p.tables e below (s₁.setTop (mkF m 27 #[.val (.int p0), .val (.int p1), .val (.int p2), .val (.int ((p2 &&& (3 : Int32)) % (3 : Int32))), .val (.int ((((p2.toUInt32 >>> ((2 : Int32) &&& 31).toUInt32).toInt32) &&& (3 : Int32)) % (3 : Int32))), .val (.int ((((p2.toUInt32 >>> ((4 : Int32) &&& 31).toUInt32).toInt32) &&& (3 : Int32)) % (3 : Int32))), .unset, .unset, .unset, .unset, .unset, .unset, .unset, .unset, .unset, .unset, .unset, .unset, .unset, .unset] [(.int (6 : Int32)), (.int p2)])) _
    refine XS.iushr X0.here hx rfl (hb hby at_27) rfl ?_
    show Steps p.tables e below (s₁.setTop (mkF m 28 #[.val (.int p0), .val (.int p1), .val (.int p2), .val (.int ((p2 &&& (3 : Int32)) % (3 : Int32))), .val (.int ((((p2.toUInt32 >>> ((2 : Int32) &&& 31).toUInt32).toInt32) &&& (3 : Int32)) % (3 : Int32))), .val (.int ((((p2.toUInt32 >>> ((4 : Int32) &&& 31).toUInt32).toInt32) &&& (3 : Int32)) % (3 : Int32))), .unset, .unset, .unset, .unset, .unset, .unset, .unset, .unset, .unset, .unset, .unset, .unset, .unset, .unset] [(.int ((p2.toUInt32 >>> ((6 : Int32) &&& 31).toUInt32).toInt32))])) _
    refine XS.iconst X0.here hx rfl (hb hby at_28) ?_
    show Steps p.tables e below (s₁.setTop (mkF m 29 #[.val (.int p0), .val (.int p1), .val (.int p2), .val (.int ((p2 &&& (3 : Int32)) % (3 : Int32))), .val (.int ((((p2.toUInt32 >>> ((2 : Int32) &&& 31).toUInt32).toInt32) &&& (3 : Int32)) % (3 : Int32))), .val (.int ((((p2.toUInt32 >>> ((4 : Int32) &&& 31).toUInt32).toInt32) &&& (3 : Int32)) % (3 : Int32))), .unset, .unset, .unset, .unset, .unset, .unset, .unset, .unset, .unset, .unset, .unset, .unset, .unset, .unset] [(.int (3 : Int32)), (.int ((p2.toUInt32 >>> ((6 : Int32) &&& 31).toUInt32).toInt32))])) _
    refine XS.iand X0.here hx rfl (hb hby at_29) rfl ?_
    show Steps p.tables e below (s₁.setTop (mkF m 30 #[.val (.int p0), .val (.int p1), .val (.int p2), .val (.int ((p2 &&& (3 : Int32)) % (3 : Int32))), .val (.int ((((p2.toUInt32 >>> ((2 : Int32) &&& 31).toUInt32).toInt32) &&& (3 : Int32)) % (3 : Int32))), .val (.int ((((p2.toUInt32 >>> ((4 : Int32) &&& 31).toUInt32).toInt32) &&& (3 : Int32)) % (3 : Int32))), .unset, .unset, .unset, .unset, .unset, .unset, .unset, .unset, .unset, .unset, .unset, .unset, .unset, .unset] [(.int (((p2.toUInt32 >>> ((6 : Int32) &&& 31).toUInt32).toInt32) &&& (3 : Int32)))])) _
    refine XS.iconst X0.here hx rfl (hb hby at_30) ?_
    show Steps p.tables e below (s₁.setTop (mkF m 31 #[.val (.int p0), .val (.int p1), .val (.int p2), .val (.int ((p2 &&& (3 : Int32)) % (3 : Int32))), .val (.int ((((p2.toUInt32 >>> ((2 : Int32) &&& 31).toUInt32).toInt32) &&& (3 : Int32)) % (3 : Int32))), .val (.int ((((p2.toUInt32 >>> ((4 : Int32) &&& 31).toUInt32).toInt32) &&& (3 : Int32)) % (3 : Int32))), .unset, .unset, .unset, .unset, .unset, .unset, .unset, .unset, .unset, .unset, .unset, .unset, .unset, .unset] [(.int (3 : Int32)), (.int (((p2.toUInt32 >>> ((6 : Int32) &&& 31).toUInt32).toInt32) &&& (3 : Int32)))])) _
    refine iremM X0 hx rfl (hb hby at_31) rfl (by decide) ?_
    show Steps p.tables e below (s₁.setTop (mkF m 32 #[.val (.int p0), .val (.int p1), .val (.int p2), .val (.int ((p2 &&& (3 : Int32)) % (3 : Int32))), .val (.int ((((p2.toUInt32 >>> ((2 : Int32) &&& 31).toUInt32).toInt32) &&& (3 : Int32)) % (3 : Int32))), .val (.int ((((p2.toUInt32 >>> ((4 : Int32) &&& 31).toUInt32).toInt32) &&& (3 : Int32)) % (3 : Int32))), .unset, .unset, .unset, .unset, .unset, .unset, .unset, .unset, .unset, .unset, .unset, .unset, .unset, .unset] [(.int ((((p2.toUInt32 >>> ((6 : Int32) &&& 31).toUInt32).toInt32) &&& (3 : Int32)) % (3 : Int32)))])) _
    refine XS.istore X0.here hx rfl (hb hby at_32) rfl (l' := #[.val (.int p0), .val (.int p1), .val (.int p2), .val (.int ((p2 &&& (3 : Int32)) % (3 : Int32))), .val (.int ((((p2.toUInt32 >>> ((2 : Int32) &&& 31).toUInt32).toInt32) &&& (3 : Int32)) % (3 : Int32))), .val (.int ((((p2.toUInt32 >>> ((4 : Int32) &&& 31).toUInt32).toInt32) &&& (3 : Int32)) % (3 : Int32))), .val (.int ((((p2.toUInt32 >>> ((6 : Int32) &&& 31).toUInt32).toInt32) &&& (3 : Int32)) % (3 : Int32))), .unset, .unset, .unset, .unset, .unset, .unset, .unset, .unset, .unset, .unset, .unset, .unset, .unset]) rfl ?_
    show Steps p.tables e below (s₁.setTop (mkF m 34 #[.val (.int p0), .val (.int p1), .val (.int p2), .val (.int ((p2 &&& (3 : Int32)) % (3 : Int32))), .val (.int ((((p2.toUInt32 >>> ((2 : Int32) &&& 31).toUInt32).toInt32) &&& (3 : Int32)) % (3 : Int32))), .val (.int ((((p2.toUInt32 >>> ((4 : Int32) &&& 31).toUInt32).toInt32) &&& (3 : Int32)) % (3 : Int32))), .val (.int ((((p2.toUInt32 >>> ((6 : Int32) &&& 31).toUInt32).toInt32) &&& (3 : Int32)) % (3 : Int32))), .unset, .unset, .unset, .unset, .unset, .unset, .unset, .unset, .unset, .unset, .unset, .unset, .unset] [])) _
    refine XS.iloadN X0.here hx rfl (hb hby at_34) rfl ?_
    show Steps p.tables e below (s₁.setTop (mkF m 35 #[.val (.int p0), .val (.int p1), .val (.int p2), .val (.int ((p2 &&& (3 : Int32)) % (3 : Int32))), .val (.int ((((p2.toUInt32 >>> ((2 : Int32) &&& 31).toUInt32).toInt32) &&& (3 : Int32)) % (3 : Int32))), .val (.int ((((p2.toUInt32 >>> ((4 : Int32) &&& 31).toUInt32).toInt32) &&& (3 : Int32)) % (3 : Int32))), .val (.int ((((p2.toUInt32 >>> ((6 : Int32) &&& 31).toUInt32).toInt32) &&& (3 : Int32)) % (3 : Int32))), .unset, .unset, .unset, .unset, .unset, .unset, .unset, .unset, .unset, .unset, .unset, .unset, .unset] [(.int p0)])) _
    refine XS.sipush X0.here hx rfl (hb hby at_35) ?_
    show Steps p.tables e below (s₁.setTop (mkF m 38 #[.val (.int p0), .val (.int p1), .val (.int p2), .val (.int ((p2 &&& (3 : Int32)) % (3 : Int32))), .val (.int ((((p2.toUInt32 >>> ((2 : Int32) &&& 31).toUInt32).toInt32) &&& (3 : Int32)) % (3 : Int32))), .val (.int ((((p2.toUInt32 >>> ((4 : Int32) &&& 31).toUInt32).toInt32) &&& (3 : Int32)) % (3 : Int32))), .val (.int ((((p2.toUInt32 >>> ((6 : Int32) &&& 31).toUInt32).toInt32) &&& (3 : Int32)) % (3 : Int32))), .unset, .unset, .unset, .unset, .unset, .unset, .unset, .unset, .unset, .unset, .unset, .unset, .unset] [(.int (255 : Int32)), (.int p0)])) _
    refine XS.iand X0.here hx rfl (hb hby at_38) rfl ?_
    show Steps p.tables e below (s₁.setTop (mkF m 39 #[.val (.int p0), .val (.int p1), .val (.int p2), .val (.int ((p2 &&& (3 : Int32)) % (3 : Int32))), .val (.int ((((p2.toUInt32 >>> ((2 : Int32) &&& 31).toUInt32).toInt32) &&& (3 : Int32)) % (3 : Int32))), .val (.int ((((p2.toUInt32 >>> ((4 : Int32) &&& 31).toUInt32).toInt32) &&& (3 : Int32)) % (3 : Int32))), .val (.int ((((p2.toUInt32 >>> ((6 : Int32) &&& 31).toUInt32).toInt32) &&& (3 : Int32)) % (3 : Int32))), .unset, .unset, .unset, .unset, .unset, .unset, .unset, .unset, .unset, .unset, .unset, .unset, .unset] [(.int (p0 &&& (255 : Int32)))])) _
    refine XS.istore X0.here hx rfl (hb hby at_39) rfl (l' := #[.val (.int p0), .val (.int p1), .val (.int p2), .val (.int ((p2 &&& (3 : Int32)) % (3 : Int32))), .val (.int ((((p2.toUInt32 >>> ((2 : Int32) &&& 31).toUInt32).toInt32) &&& (3 : Int32)) % (3 : Int32))), .val (.int ((((p2.toUInt32 >>> ((4 : Int32) &&& 31).toUInt32).toInt32) &&& (3 : Int32)) % (3 : Int32))), .val (.int ((((p2.toUInt32 >>> ((6 : Int32) &&& 31).toUInt32).toInt32) &&& (3 : Int32)) % (3 : Int32))), .val (.int (p0 &&& (255 : Int32))), .unset, .unset, .unset, .unset, .unset, .unset, .unset, .unset, .unset, .unset, .unset, .unset]) rfl ?_
    show Steps p.tables e below (s₁.setTop (mkF m 41 #[.val (.int p0), .val (.int p1), .val (.int p2), .val (.int ((p2 &&& (3 : Int32)) % (3 : Int32))), .val (.int ((((p2.toUInt32 >>> ((2 : Int32) &&& 31).toUInt32).toInt32) &&& (3 : Int32)) % (3 : Int32))), .val (.int ((((p2.toUInt32 >>> ((4 : Int32) &&& 31).toUInt32).toInt32) &&& (3 : Int32)) % (3 : Int32))), .val (.int ((((p2.toUInt32 >>> ((6 : Int32) &&& 31).toUInt32).toInt32) &&& (3 : Int32)) % (3 : Int32))), .val (.int (p0 &&& (255 : Int32))), .unset, .unset, .unset, .unset, .unset, .unset, .unset, .unset, .unset, .unset, .unset, .unset] [])) _
    refine XS.iloadN X0.here hx rfl (hb hby at_41) rfl ?_
    show Steps p.tables e below (s₁.setTop (mkF m 42 #[.val (.int p0), .val (.int p1), .val (.int p2), .val (.int ((p2 &&& (3 : Int32)) % (3 : Int32))), .val (.int ((((p2.toUInt32 >>> ((2 : Int32) &&& 31).toUInt32).toInt32) &&& (3 : Int32)) % (3 : Int32))), .val (.int ((((p2.toUInt32 >>> ((4 : Int32) &&& 31).toUInt32).toInt32) &&& (3 : Int32)) % (3 : Int32))), .val (.int ((((p2.toUInt32 >>> ((6 : Int32) &&& 31).toUInt32).toInt32) &&& (3 : Int32)) % (3 : Int32))), .val (.int (p0 &&& (255 : Int32))), .unset, .unset, .unset, .unset, .unset, .unset, .unset, .unset, .unset, .unset, .unset, .unset] [(.int p0)])) _
    refine XS.bipush X0.here hx rfl (hb hby at_42) ?_
    show Steps p.tables e below (s₁.setTop (mkF m 44 #[.val (.int p0), .val (.int p1), .val (.int p2), .val (.int ((p2 &&& (3 : Int32)) % (3 : Int32))), .val (.int ((((p2.toUInt32 >>> ((2 : Int32) &&& 31).toUInt32).toInt32) &&& (3 : Int32)) % (3 : Int32))), .val (.int ((((p2.toUInt32 >>> ((4 : Int32) &&& 31).toUInt32).toInt32) &&& (3 : Int32)) % (3 : Int32))), .val (.int ((((p2.toUInt32 >>> ((6 : Int32) &&& 31).toUInt32).toInt32) &&& (3 : Int32)) % (3 : Int32))), .val (.int (p0 &&& (255 : Int32))), .unset, .unset, .unset, .unset, .unset, .unset, .unset, .unset, .unset, .unset, .unset, .unset] [(.int (8 : Int32)), (.int p0)])) _
    refine XS.iushr X0.here hx rfl (hb hby at_44) rfl ?_
    show Steps p.tables e below (s₁.setTop (mkF m 45 #[.val (.int p0), .val (.int p1), .val (.int p2), .val (.int ((p2 &&& (3 : Int32)) % (3 : Int32))), .val (.int ((((p2.toUInt32 >>> ((2 : Int32) &&& 31).toUInt32).toInt32) &&& (3 : Int32)) % (3 : Int32))), .val (.int ((((p2.toUInt32 >>> ((4 : Int32) &&& 31).toUInt32).toInt32) &&& (3 : Int32)) % (3 : Int32))), .val (.int ((((p2.toUInt32 >>> ((6 : Int32) &&& 31).toUInt32).toInt32) &&& (3 : Int32)) % (3 : Int32))), .val (.int (p0 &&& (255 : Int32))), .unset, .unset, .unset, .unset, .unset, .unset, .unset, .unset, .unset, .unset, .unset, .unset] [(.int ((p0.toUInt32 >>> ((8 : Int32) &&& 31).toUInt32).toInt32))])) _
    refine XS.sipush X0.here hx rfl (hb hby at_45) ?_
    show Steps p.tables e below (s₁.setTop (mkF m 48 #[.val (.int p0), .val (.int p1), .val (.int p2), .val (.int ((p2 &&& (3 : Int32)) % (3 : Int32))), .val (.int ((((p2.toUInt32 >>> ((2 : Int32) &&& 31).toUInt32).toInt32) &&& (3 : Int32)) % (3 : Int32))), .val (.int ((((p2.toUInt32 >>> ((4 : Int32) &&& 31).toUInt32).toInt32) &&& (3 : Int32)) % (3 : Int32))), .val (.int ((((p2.toUInt32 >>> ((6 : Int32) &&& 31).toUInt32).toInt32) &&& (3 : Int32)) % (3 : Int32))), .val (.int (p0 &&& (255 : Int32))), .unset, .unset, .unset, .unset, .unset, .unset, .unset, .unset, .unset, .unset, .unset, .unset] [(.int (255 : Int32)), (.int ((p0.toUInt32 >>> ((8 : Int32) &&& 31).toUInt32).toInt32))])) _
    refine XS.iand X0.here hx rfl (hb hby at_48) rfl ?_
    show Steps p.tables e below (s₁.setTop (mkF m 49 #[.val (.int p0), .val (.int p1), .val (.int p2), .val (.int ((p2 &&& (3 : Int32)) % (3 : Int32))), .val (.int ((((p2.toUInt32 >>> ((2 : Int32) &&& 31).toUInt32).toInt32) &&& (3 : Int32)) % (3 : Int32))), .val (.int ((((p2.toUInt32 >>> ((4 : Int32) &&& 31).toUInt32).toInt32) &&& (3 : Int32)) % (3 : Int32))), .val (.int ((((p2.toUInt32 >>> ((6 : Int32) &&& 31).toUInt32).toInt32) &&& (3 : Int32)) % (3 : Int32))), .val (.int (p0 &&& (255 : Int32))), .unset, .unset, .unset, .unset, .unset, .unset, .unset, .unset, .unset, .unset, .unset, .unset] [(.int (((p0.toUInt32 >>> ((8 : Int32) &&& 31).toUInt32).toInt32) &&& (255 : Int32)))])) _
    refine XS.istore X0.here hx rfl (hb hby at_49) rfl (l' := #[.val (.int p0), .val (.int p1), .val (.int p2), .val (.int ((p2 &&& (3 : Int32)) % (3 : Int32))), .val (.int ((((p2.toUInt32 >>> ((2 : Int32) &&& 31).toUInt32).toInt32) &&& (3 : Int32)) % (3 : Int32))), .val (.int ((((p2.toUInt32 >>> ((4 : Int32) &&& 31).toUInt32).toInt32) &&& (3 : Int32)) % (3 : Int32))), .val (.int ((((p2.toUInt32 >>> ((6 : Int32) &&& 31).toUInt32).toInt32) &&& (3 : Int32)) % (3 : Int32))), .val (.int (p0 &&& (255 : Int32))), .val (.int (((p0.toUInt32 >>> ((8 : Int32) &&& 31).toUInt32).toInt32) &&& (255 : Int32))), .unset, .unset, .unset, .unset, .unset, .unset, .unset, .unset, .unset, .unset, .unset]) rfl ?_
    show Steps p.tables e below (s₁.setTop (mkF m 51 #[.val (.int p0), .val (.int p1), .val (.int p2), .val (.int ((p2 &&& (3 : Int32)) % (3 : Int32))), .val (.int ((((p2.toUInt32 >>> ((2 : Int32) &&& 31).toUInt32).toInt32) &&& (3 : Int32)) % (3 : Int32))), .val (.int ((((p2.toUInt32 >>> ((4 : Int32) &&& 31).toUInt32).toInt32) &&& (3 : Int32)) % (3 : Int32))), .val (.int ((((p2.toUInt32 >>> ((6 : Int32) &&& 31).toUInt32).toInt32) &&& (3 : Int32)) % (3 : Int32))), .val (.int (p0 &&& (255 : Int32))), .val (.int (((p0.toUInt32 >>> ((8 : Int32) &&& 31).toUInt32).toInt32) &&& (255 : Int32))), .unset, .unset, .unset, .unset, .unset, .unset, .unset, .unset, .unset, .unset, .unset] [])) _
    refine XS.iloadN X0.here hx rfl (hb hby at_51) rfl ?_
    show Steps p.tables e below (s₁.setTop (mkF m 52 #[.val (.int p0), .val (.int p1), .val (.int p2), .val (.int ((p2 &&& (3 : Int32)) % (3 : Int32))), .val (.int ((((p2.toUInt32 >>> ((2 : Int32) &&& 31).toUInt32).toInt32) &&& (3 : Int32)) % (3 : Int32))), .val (.int ((((p2.toUInt32 >>> ((4 : Int32) &&& 31).toUInt32).toInt32) &&& (3 : Int32)) % (3 : Int32))), .val (.int ((((p2.toUInt32 >>> ((6 : Int32) &&& 31).toUInt32).toInt32) &&& (3 : Int32)) % (3 : Int32))), .val (.int (p0 &&& (255 : Int32))), .val (.int (((p0.toUInt32 >>> ((8 : Int32) &&& 31).toUInt32).toInt32) &&& (255 : Int32))), .unset, .unset, .unset, .unset, .unset, .unset, .unset, .unset, .unset, .unset, .unset] [(.int p0)])) _
    refine XS.bipush X0.here hx rfl (hb hby at_52) ?_
    show Steps p.tables e below (s₁.setTop (mkF m 54 #[.val (.int p0), .val (.int p1), .val (.int p2), .val (.int ((p2 &&& (3 : Int32)) % (3 : Int32))), .val (.int ((((p2.toUInt32 >>> ((2 : Int32) &&& 31).toUInt32).toInt32) &&& (3 : Int32)) % (3 : Int32))), .val (.int ((((p2.toUInt32 >>> ((4 : Int32) &&& 31).toUInt32).toInt32) &&& (3 : Int32)) % (3 : Int32))), .val (.int ((((p2.toUInt32 >>> ((6 : Int32) &&& 31).toUInt32).toInt32) &&& (3 : Int32)) % (3 : Int32))), .val (.int (p0 &&& (255 : Int32))), .val (.int (((p0.toUInt32 >>> ((8 : Int32) &&& 31).toUInt32).toInt32) &&& (255 : Int32))), .unset, .unset, .unset, .unset, .unset, .unset, .unset, .unset, .unset, .unset, .unset] [(.int (16 : Int32)), (.int p0)])) _
    refine XS.iushr X0.here hx rfl (hb hby at_54) rfl ?_
    show Steps p.tables e below (s₁.setTop (mkF m 55 #[.val (.int p0), .val (.int p1), .val (.int p2), .val (.int ((p2 &&& (3 : Int32)) % (3 : Int32))), .val (.int ((((p2.toUInt32 >>> ((2 : Int32) &&& 31).toUInt32).toInt32) &&& (3 : Int32)) % (3 : Int32))), .val (.int ((((p2.toUInt32 >>> ((4 : Int32) &&& 31).toUInt32).toInt32) &&& (3 : Int32)) % (3 : Int32))), .val (.int ((((p2.toUInt32 >>> ((6 : Int32) &&& 31).toUInt32).toInt32) &&& (3 : Int32)) % (3 : Int32))), .val (.int (p0 &&& (255 : Int32))), .val (.int (((p0.toUInt32 >>> ((8 : Int32) &&& 31).toUInt32).toInt32) &&& (255 : Int32))), .unset, .unset, .unset, .unset, .unset, .unset, .unset, .unset, .unset, .unset, .unset] [(.int ((p0.toUInt32 >>> ((16 : Int32) &&& 31).toUInt32).toInt32))])) _
    refine XS.sipush X0.here hx rfl (hb hby at_55) ?_
    show Steps p.tables e below (s₁.setTop (mkF m 58 #[.val (.int p0), .val (.int p1), .val (.int p2), .val (.int ((p2 &&& (3 : Int32)) % (3 : Int32))), .val (.int ((((p2.toUInt32 >>> ((2 : Int32) &&& 31).toUInt32).toInt32) &&& (3 : Int32)) % (3 : Int32))), .val (.int ((((p2.toUInt32 >>> ((4 : Int32) &&& 31).toUInt32).toInt32) &&& (3 : Int32)) % (3 : Int32))), .val (.int ((((p2.toUInt32 >>> ((6 : Int32) &&& 31).toUInt32).toInt32) &&& (3 : Int32)) % (3 : Int32))), .val (.int (p0 &&& (255 : Int32))), .val (.int (((p0.toUInt32 >>> ((8 : Int32) &&& 31).toUInt32).toInt32) &&& (255 : Int32))), .unset, .unset, .unset, .unset, .unset, .unset, .unset, .unset, .unset, .unset, .unset] [(.int (255 : Int32)), (.int ((p0.toUInt32 >>> ((16 : Int32) &&& 31).toUInt32).toInt32))])) _
    refine XS.iand X0.here hx rfl (hb hby at_58) rfl ?_
    show Steps p.tables e below (s₁.setTop (mkF m 59 #[.val (.int p0), .val (.int p1), .val (.int p2), .val (.int ((p2 &&& (3 : Int32)) % (3 : Int32))), .val (.int ((((p2.toUInt32 >>> ((2 : Int32) &&& 31).toUInt32).toInt32) &&& (3 : Int32)) % (3 : Int32))), .val (.int ((((p2.toUInt32 >>> ((4 : Int32) &&& 31).toUInt32).toInt32) &&& (3 : Int32)) % (3 : Int32))), .val (.int ((((p2.toUInt32 >>> ((6 : Int32) &&& 31).toUInt32).toInt32) &&& (3 : Int32)) % (3 : Int32))), .val (.int (p0 &&& (255 : Int32))), .val (.int (((p0.toUInt32 >>> ((8 : Int32) &&& 31).toUInt32).toInt32) &&& (255 : Int32))), .unset, .unset, .unset, .unset, .unset, .unset, .unset, .unset, .unset, .unset, .unset] [(.int (((p0.toUInt32 >>> ((16 : Int32) &&& 31).toUInt32).toInt32) &&& (255 : Int32)))])) _
    refine XS.istore X0.here hx rfl (hb hby at_59) rfl (l' := #[.val (.int p0), .val (.int p1), .val (.int p2), .val (.int ((p2 &&& (3 : Int32)) % (3 : Int32))), .val (.int ((((p2.toUInt32 >>> ((2 : Int32) &&& 31).toUInt32).toInt32) &&& (3 : Int32)) % (3 : Int32))), .val (.int ((((p2.toUInt32 >>> ((4 : Int32) &&& 31).toUInt32).toInt32) &&& (3 : Int32)) % (3 : Int32))), .val (.int ((((p2.toUInt32 >>> ((6 : Int32) &&& 31).toUInt32).toInt32) &&& (3 : Int32)) % (3 : Int32))), .val (.int (p0 &&& (255 : Int32))), .val (.int (((p0.toUInt32 >>> ((8 : Int32) &&& 31).toUInt32).toInt32) &&& (255 : Int32))), .val (.int (((p0.toUInt32 >>> ((16 : Int32) &&& 31).toUInt32).toInt32) &&& (255 : Int32))), .unset, .unset, .unset, .unset, .unset, .unset, .unset, .unset, .unset, .unset]) rfl ?_
    show Steps p.tables e below (s₁.setTop (mkF m 61 #[.val (.int p0), .val (.int p1), .val (.int p2), .val (.int ((p2 &&& (3 : Int32)) % (3 : Int32))), .val (.int ((((p2.toUInt32 >>> ((2 : Int32) &&& 31).toUInt32).toInt32) &&& (3 : Int32)) % (3 : Int32))), .val (.int ((((p2.toUInt32 >>> ((4 : Int32) &&& 31).toUInt32).toInt32) &&& (3 : Int32)) % (3 : Int32))), .val (.int ((((p2.toUInt32 >>> ((6 : Int32) &&& 31).toUInt32).toInt32) &&& (3 : Int32)) % (3 : Int32))), .val (.int (p0 &&& (255 : Int32))), .val (.int (((p0.toUInt32 >>> ((8 : Int32) &&& 31).toUInt32).toInt32) &&& (255 : Int32))), .val (.int (((p0.toUInt32 >>> ((16 : Int32) &&& 31).toUInt32).toInt32) &&& (255 : Int32))), .unset, .unset, .unset, .unset, .unset, .unset, .unset, .unset, .unset, .unset] [])) _
    refine XS.iloadN X0.here hx rfl (hb hby at_61) rfl ?_
    show Steps p.tables e below (s₁.setTop (mkF m 62 #[.val (.int p0), .val (.int p1), .val (.int p2), .val (.int ((p2 &&& (3 : Int32)) % (3 : Int32))), .val (.int ((((p2.toUInt32 >>> ((2 : Int32) &&& 31).toUInt32).toInt32) &&& (3 : Int32)) % (3 : Int32))), .val (.int ((((p2.toUInt32 >>> ((4 : Int32) &&& 31).toUInt32).toInt32) &&& (3 : Int32)) % (3 : Int32))), .val (.int ((((p2.toUInt32 >>> ((6 : Int32) &&& 31).toUInt32).toInt32) &&& (3 : Int32)) % (3 : Int32))), .val (.int (p0 &&& (255 : Int32))), .val (.int (((p0.toUInt32 >>> ((8 : Int32) &&& 31).toUInt32).toInt32) &&& (255 : Int32))), .val (.int (((p0.toUInt32 >>> ((16 : Int32) &&& 31).toUInt32).toInt32) &&& (255 : Int32))), .unset, .unset, .unset, .unset, .unset, .unset, .unset, .unset, .unset, .unset] [(.int p0)])) _
    refine XS.bipush X0.here hx rfl (hb hby at_62) ?_
    show Steps p.tables e below (s₁.setTop (mkF m 64 #[.val (.int p0), .val (.int p1), .val (.int p2), .val (.int ((p2 &&& (3 : Int32)) % (3 : Int32))), .val (.int ((((p2.toUInt32 >>> ((2 : Int32) &&& 31).toUInt32).toInt32) &&& (3 : Int32)) % (3 : Int32))), .val (.int ((((p2.toUInt32 >>> ((4 : Int32) &&& 31).toUInt32).toInt32) &&& (3 : Int32)) % (3 : Int32))), .val (.int ((((p2.toUInt32 >>> ((6 : Int32) &&& 31).toUInt32).toInt32) &&& (3 : Int32)) % (3 : Int32))), .val (.int (p0 &&& (255 : Int32))), .val (.int (((p0.toUInt32 >>> ((8 : Int32) &&& 31).toUInt32).toInt32) &&& (255 : Int32))), .val (.int (((p0.toUInt32 >>> ((16 : Int32) &&& 31).toUInt32).toInt32) &&& (255 : Int32))), .unset, .unset, .unset, .unset, .unset, .unset, .unset, .unset, .unset, .unset] [(.int (24 : Int32)), (.int p0)])) _
    refine XS.iushr X0.here hx rfl (hb hby at_64) rfl ?_
    show Steps p.tables e below (s₁.setTop (mkF m 65 #[.val (.int p0), .val (.int p1), .val (.int p2), .val (.int ((p2 &&& (3 : Int32)) % (3 : Int32))), .val (.int ((((p2.toUInt32 >>> ((2 : Int32) &&& 31).toUInt32).toInt32) &&& (3 : Int32)) % (3 : Int32))), .val (.int ((((p2.toUInt32 >>> ((4 : Int32) &&& 31).toUInt32).toInt32) &&& (3 : Int32)) % (3 : Int32))), .val (.int ((((p2.toUInt32 >>> ((6 : Int32) &&& 31).toUInt32).toInt32) &&& (3 : Int32)) % (3 : Int32))), .val (.int (p0 &&& (255 : Int32))), .val (.int (((p0.toUInt32 >>> ((8 : Int32) &&& 31).toUInt32).toInt32) &&& (255 : Int32))), .val (.int (((p0.toUInt32 >>> ((16 : Int32) &&& 31).toUInt32).toInt32) &&& (255 : Int32))), .unset, .unset, .unset, .unset, .unset, .unset, .unset, .unset, .unset, .unset] [(.int ((p0.toUInt32 >>> ((24 : Int32) &&& 31).toUInt32).toInt32))])) _
    refine XS.sipush X0.here hx rfl (hb hby at_65) ?_
    show Steps p.tables e below (s₁.setTop (mkF m 68 #[.val (.int p0), .val (.int p1), .val (.int p2), .val (.int ((p2 &&& (3 : Int32)) % (3 : Int32))), .val (.int ((((p2.toUInt32 >>> ((2 : Int32) &&& 31).toUInt32).toInt32) &&& (3 : Int32)) % (3 : Int32))), .val (.int ((((p2.toUInt32 >>> ((4 : Int32) &&& 31).toUInt32).toInt32) &&& (3 : Int32)) % (3 : Int32))), .val (.int ((((p2.toUInt32 >>> ((6 : Int32) &&& 31).toUInt32).toInt32) &&& (3 : Int32)) % (3 : Int32))), .val (.int (p0 &&& (255 : Int32))), .val (.int (((p0.toUInt32 >>> ((8 : Int32) &&& 31).toUInt32).toInt32) &&& (255 : Int32))), .val (.int (((p0.toUInt32 >>> ((16 : Int32) &&& 31).toUInt32).toInt32) &&& (255 : Int32))), .unset, .unset, .unset, .unset, .unset, .unset, .unset, .unset, .unset, .unset] [(.int (255 : Int32)), (.int ((p0.toUInt32 >>> ((24 : Int32) &&& 31).toUInt32).toInt32))])) _
    refine XS.iand X0.here hx rfl (hb hby at_68) rfl ?_
    show Steps p.tables e below (s₁.setTop (mkF m 69 #[.val (.int p0), .val (.int p1), .val (.int p2), .val (.int ((p2 &&& (3 : Int32)) % (3 : Int32))), .val (.int ((((p2.toUInt32 >>> ((2 : Int32) &&& 31).toUInt32).toInt32) &&& (3 : Int32)) % (3 : Int32))), .val (.int ((((p2.toUInt32 >>> ((4 : Int32) &&& 31).toUInt32).toInt32) &&& (3 : Int32)) % (3 : Int32))), .val (.int ((((p2.toUInt32 >>> ((6 : Int32) &&& 31).toUInt32).toInt32) &&& (3 : Int32)) % (3 : Int32))), .val (.int (p0 &&& (255 : Int32))), .val (.int (((p0.toUInt32 >>> ((8 : Int32) &&& 31).toUInt32).toInt32) &&& (255 : Int32))), .val (.int (((p0.toUInt32 >>> ((16 : Int32) &&& 31).toUInt32).toInt32) &&& (255 : Int32))), .unset, .unset, .unset, .unset, .unset, .unset, .unset, .unset, .unset, .unset] [(.int (((p0.toUInt32 >>> ((24 : Int32) &&& 31).toUInt32).toInt32) &&& (255 : Int32)))])) _
    refine XS.istore X0.here hx rfl (hb hby at_69) rfl (l' := #[.val (.int p0), .val (.int p1), .val (.int p2), .val (.int ((p2 &&& (3 : Int32)) % (3 : Int32))), .val (.int ((((p2.toUInt32 >>> ((2 : Int32) &&& 31).toUInt32).toInt32) &&& (3 : Int32)) % (3 : Int32))), .val (.int ((((p2.toUInt32 >>> ((4 : Int32) &&& 31).toUInt32).toInt32) &&& (3 : Int32)) % (3 : Int32))), .val (.int ((((p2.toUInt32 >>> ((6 : Int32) &&& 31).toUInt32).toInt32) &&& (3 : Int32)) % (3 : Int32))), .val (.int (p0 &&& (255 : Int32))), .val (.int (((p0.toUInt32 >>> ((8 : Int32) &&& 31).toUInt32).toInt32) &&& (255 : Int32))), .val (.int (((p0.toUInt32 >>> ((16 : Int32) &&& 31).toUInt32).toInt32) &&& (255 : Int32))), .val (.int (((p0.toUInt32 >>> ((24 : Int32) &&& 31).toUInt32).toInt32) &&& (255 : Int32))), .unset, .unset, .unset, .unset, .unset, .unset, .unset, .unset, .unset]) rfl ?_
    show Steps p.tables e below (s₁.setTop (mkF m 71 #[.val (.int p0), .val (.int p1), .val (.int p2), .val (.int ((p2 &&& (3 : Int32)) % (3 : Int32))), .val (.int ((((p2.toUInt32 >>> ((2 : Int32) &&& 31).toUInt32).toInt32) &&& (3 : Int32)) % (3 : Int32))), .val (.int ((((p2.toUInt32 >>> ((4 : Int32) &&& 31).toUInt32).toInt32) &&& (3 : Int32)) % (3 : Int32))), .val (.int ((((p2.toUInt32 >>> ((6 : Int32) &&& 31).toUInt32).toInt32) &&& (3 : Int32)) % (3 : Int32))), .val (.int (p0 &&& (255 : Int32))), .val (.int (((p0.toUInt32 >>> ((8 : Int32) &&& 31).toUInt32).toInt32) &&& (255 : Int32))), .val (.int (((p0.toUInt32 >>> ((16 : Int32) &&& 31).toUInt32).toInt32) &&& (255 : Int32))), .val (.int (((p0.toUInt32 >>> ((24 : Int32) &&& 31).toUInt32).toInt32) &&& (255 : Int32))), .unset, .unset, .unset, .unset, .unset, .unset, .unset, .unset, .unset] [])) _
    refine XS.iloadN X0.here hx rfl (hb hby at_71) rfl ?_
    show Steps p.tables e below (s₁.setTop (mkF m 72 #[.val (.int p0), .val (.int p1), .val (.int p2), .val (.int ((p2 &&& (3 : Int32)) % (3 : Int32))), .val (.int ((((p2.toUInt32 >>> ((2 : Int32) &&& 31).toUInt32).toInt32) &&& (3 : Int32)) % (3 : Int32))), .val (.int ((((p2.toUInt32 >>> ((4 : Int32) &&& 31).toUInt32).toInt32) &&& (3 : Int32)) % (3 : Int32))), .val (.int ((((p2.toUInt32 >>> ((6 : Int32) &&& 31).toUInt32).toInt32) &&& (3 : Int32)) % (3 : Int32))), .val (.int (p0 &&& (255 : Int32))), .val (.int (((p0.toUInt32 >>> ((8 : Int32) &&& 31).toUInt32).toInt32) &&& (255 : Int32))), .val (.int (((p0.toUInt32 >>> ((16 : Int32) &&& 31).toUInt32).toInt32) &&& (255 : Int32))), .val (.int (((p0.toUInt32 >>> ((24 : Int32) &&& 31).toUInt32).toInt32) &&& (255 : Int32))), .unset, .unset, .unset, .unset, .unset, .unset, .unset, .unset, .unset] [(.int p2)])) _
    refine XS.bipush X0.here hx rfl (hb hby at_72) ?_
    show Steps p.tables e below (s₁.setTop (mkF m 74 #[.val (.int p0), .val (.int p1), .val (.int p2), .val (.int ((p2 &&& (3 : Int32)) % (3 : Int32))), .val (.int ((((p2.toUInt32 >>> ((2 : Int32) &&& 31).toUInt32).toInt32) &&& (3 : Int32)) % (3 : Int32))), .val (.int ((((p2.toUInt32 >>> ((4 : Int32) &&& 31).toUInt32).toInt32) &&& (3 : Int32)) % (3 : Int32))), .val (.int ((((p2.toUInt32 >>> ((6 : Int32) &&& 31).toUInt32).toInt32) &&& (3 : Int32)) % (3 : Int32))), .val (.int (p0 &&& (255 : Int32))), .val (.int (((p0.toUInt32 >>> ((8 : Int32) &&& 31).toUInt32).toInt32) &&& (255 : Int32))), .val (.int (((p0.toUInt32 >>> ((16 : Int32) &&& 31).toUInt32).toInt32) &&& (255 : Int32))), .val (.int (((p0.toUInt32 >>> ((24 : Int32) &&& 31).toUInt32).toInt32) &&& (255 : Int32))), .unset, .unset, .unset, .unset, .unset, .unset, .unset, .unset, .unset] [(.int (8 : Int32)), (.int p2)])) _
    refine XS.iushr X0.here hx rfl (hb hby at_74) rfl ?_
    show Steps p.tables e below (s₁.setTop (mkF m 75 #[.val (.int p0), .val (.int p1), .val (.int p2), .val (.int ((p2 &&& (3 : Int32)) % (3 : Int32))), .val (.int ((((p2.toUInt32 >>> ((2 : Int32) &&& 31).toUInt32).toInt32) &&& (3 : Int32)) % (3 : Int32))), .val (.int ((((p2.toUInt32 >>> ((4 : Int32) &&& 31).toUInt32).toInt32) &&& (3 : Int32)) % (3 : Int32))), .val (.int ((((p2.toUInt32 >>> ((6 : Int32) &&& 31).toUInt32).toInt32) &&& (3 : Int32)) % (3 : Int32))), .val (.int (p0 &&& (255 : Int32))), .val (.int (((p0.toUInt32 >>> ((8 : Int32) &&& 31).toUInt32).toInt32) &&& (255 : Int32))), .val (.int (((p0.toUInt32 >>> ((16 : Int32) &&& 31).toUInt32).toInt32) &&& (255 : Int32))), .val (.int (((p0.toUInt32 >>> ((24 : Int32) &&& 31).toUInt32).toInt32) &&& (255 : Int32))), .unset, .unset, .unset, .unset, .unset, .unset, .unset, .unset, .unset] [(.int ((p2.toUInt32 >>> ((8 : Int32) &&& 31).toUInt32).toInt32))])) _
    refine XS.iconst X0.here hx rfl (hb hby at_75) ?_
    show Steps p.tables e below (s₁.setTop (mkF m 76 #[.val (.int p0), .val (.int p1), .val (.int p2), .val (.int ((p2 &&& (3 : Int32)) % (3 : Int32))), .val (.int ((((p2.toUInt32 >>> ((2 : Int32) &&& 31).toUInt32).toInt32) &&& (3 : Int32)) % (3 : Int32))), .val (.int ((((p2.toUInt32 >>> ((4 : Int32) &&& 31).toUInt32).toInt32) &&& (3 : Int32)) % (3 : Int32))), .val (.int ((((p2.toUInt32 >>> ((6 : Int32) &&& 31).toUInt32).toInt32) &&& (3 : Int32)) % (3 : Int32))), .val (.int (p0 &&& (255 : Int32))), .val (.int (((p0.toUInt32 >>> ((8 : Int32) &&& 31).toUInt32).toInt32) &&& (255 : Int32))), .val (.int (((p0.toUInt32 >>> ((16 : Int32) &&& 31).toUInt32).toInt32) &&& (255 : Int32))), .val (.int (((p0.toUInt32 >>> ((24 : Int32) &&& 31).toUInt32).toInt32) &&& (255 : Int32))), .unset, .unset, .unset, .unset, .unset, .unset, .unset, .unset, .unset] [(.int (1 : Int32)), (.int ((p2.toUInt32 >>> ((8 : Int32) &&& 31).toUInt32).toInt32))])) _
    refine XS.iand X0.here hx rfl (hb hby at_76) rfl ?_
    exact k
  have pre2 : ∀ t, Steps p.tables e below (s₁.setTop (mkF m 90 #[.val (.int p0), .val (.int p1), .val (.int p2), .val (.int ((p2 &&& (3 : Int32)) % (3 : Int32))), .val (.int ((((p2.toUInt32 >>> ((2 : Int32) &&& 31).toUInt32).toInt32) &&& (3 : Int32)) % (3 : Int32))), .val (.int ((((p2.toUInt32 >>> ((4 : Int32) &&& 31).toUInt32).toInt32) &&& (3 : Int32)) % (3 : Int32))), .val (.int ((((p2.toUInt32 >>> ((6 : Int32) &&& 31).toUInt32).toInt32) &&& (3 : Int32)) % (3 : Int32))), .val (.int (p0 &&& (255 : Int32))), .val (.int (((p0.toUInt32 >>> ((8 : Int32) &&& 31).toUInt32).toInt32) &&& (255 : Int32))), .val (.int (((p0.toUInt32 >>> ((16 : Int32) &&& 31).toUInt32).toInt32) &&& (255 : Int32))), .val (.int (((p0.toUInt32 >>> ((24 : Int32) &&& 31).toUInt32).toInt32) &&& (255 : Int32))), .unset, .unset, .unset, .unset, .unset, .unset, .unset, .unset, .unset] [(.int (if (((p2.toUInt32 >>> ((8 : Int32) &&& 31).toUInt32).toInt32) &&& (1 : Int32)) = (0 : Int32) then (p1 &&& (255 : Int32)) else (p0 &&& (255 : Int32))))])) t → Steps p.tables e below (s₁.setTop (entryFrame m #[(.int p0), (.int p1), (.int p2)] maxLocals)) t := by
    intro t k
    refine pre1 _ ?_
    by_cases hm2 : (((p2.toUInt32 >>> ((8 : Int32) &&& 31).toUInt32).toInt32) &&& (1 : Int32)) = (0 : Int32)
    · rw [if_pos hm2] at k
      show Steps p.tables e below (s₁.setTop (mkF m 77 #[.val (.int p0), .val (.int p1), .val (.int p2), .val (.int ((p2 &&& (3 : Int32)) % (3 : Int32))), .val (.int ((((p2.toUInt32 >>> ((2 : Int32) &&& 31).toUInt32).toInt32) &&& (3 : Int32)) % (3 : Int32))), .val (.int ((((p2.toUInt32 >>> ((4 : Int32) &&& 31).toUInt32).toInt32) &&& (3 : Int32)) % (3 : Int32))), .val (.int ((((p2.toUInt32 >>> ((6 : Int32) &&& 31).toUInt32).toInt32) &&& (3 : Int32)) % (3 : Int32))), .val (.int (p0 &&& (255 : Int32))), .val (.int (((p0.toUInt32 >>> ((8 : Int32) &&& 31).toUInt32).toInt32) &&& (255 : Int32))), .val (.int (((p0.toUInt32 >>> ((16 : Int32) &&& 31).toUInt32).toInt32) &&& (255 : Int32))), .val (.int (((p0.toUInt32 >>> ((24 : Int32) &&& 31).toUInt32).toInt32) &&& (255 : Int32))), .unset, .unset, .unset, .unset, .unset, .unset, .unset, .unset, .unset] [(.int (((p2.toUInt32 >>> ((8 : Int32) &&& 31).toUInt32).toInt32) &&& (1 : Int32)))])) _
      refine XS.ifYes X0.here hx rfl (pc0 := 77) (pc' := 85) rfl (hb hby at_77) rfl ((if0 _ _).trans (teq hm2).1) (by decide) (by decide) ?_
      show Steps p.tables e below (s₁.setTop (mkF m 85 #[.val (.int p0), .val (.int p1), .val (.int p2), .val (.int ((p2 &&& (3 : Int32)) % (3 : Int32))), .val (.int ((((p2.toUInt32 >>> ((2 : Int32) &&& 31).toUInt32).toInt32) &&& (3 : Int32)) % (3 : Int32))), .val (.int ((((p2.toUInt32 >>> ((4 : Int32) &&& 31).toUInt32).toInt32) &&& (3 : Int32)) % (3 : Int32))), .val (.int ((((p2.toUInt32 >>> ((6 : Int32) &&& 31).toUInt32).toInt32) &&& (3 : Int32)) % (3 : Int32))), .val (.int (p0 &&& (255 : Int32))), .val (.int (((p0.toUInt32 >>> ((8 : Int32) &&& 31).toUInt32).toInt32) &&& (255 : Int32))), .val (.int (((p0.toUInt32 >>> ((16 : Int32) &&& 31).toUInt32).toInt32) &&& (255 : Int32))), .val (.int (((p0.toUInt32 >>> ((24 : Int32) &&& 31).toUInt32).toInt32) &&& (255 : Int32))), .unset, .unset, .unset, .unset, .unset, .unset, .unset, .unset, .unset] [])) _
      refine XS.iloadN X0.here hx rfl (hb hby at_85) rfl ?_
      show Steps p.tables e below (s₁.setTop (mkF m 86 #[.val (.int p0), .val (.int p1), .val (.int p2), .val (.int ((p2 &&& (3 : Int32)) % (3 : Int32))), .val (.int ((((p2.toUInt32 >>> ((2 : Int32) &&& 31).toUInt32).toInt32) &&& (3 : Int32)) % (3 : Int32))), .val (.int ((((p2.toUInt32 >>> ((4 : Int32) &&& 31).toUInt32).toInt32) &&& (3 : Int32)) % (3 : Int32))), .val (.int ((((p2.toUInt32 >>> ((6 : Int32) &&& 31).toUInt32).toInt32) &&& (3 : Int32)) % (3 : Int32))), .val (.int (p0 &&& (255 : Int32))), .val (.int (((p0.toUInt32 >>> ((8 : Int32) &&& 31).toUInt32).toInt32) &&& (255 : Int32))), .val (.int (((p0.toUInt32 >>> ((16 : Int32) &&& 31).toUInt32).toInt32) &&& (255 : Int32))), .val (.int (((p0.toUInt32 >>> ((24 : Int32) &&& 31).toUInt32).toInt32) &&& (255 : Int32))), .unset, .unset, .unset, .unset, .unset, .unset, .unset, .unset, .unset] [(.int p1)])) _
      refine XS.sipush X0.here hx rfl (hb hby at_86) ?_
      show Steps p.tables e below (s₁.setTop (mkF m 89 #[.val (.int p0), .val (.int p1), .val (.int p2), .val (.int ((p2 &&& (3 : Int32)) % (3 : Int32))), .val (.int ((((p2.toUInt32 >>> ((2 : Int32) &&& 31).toUInt32).toInt32) &&& (3 : Int32)) % (3 : Int32))), .val (.int ((((p2.toUInt32 >>> ((4 : Int32) &&& 31).toUInt32).toInt32) &&& (3 : Int32)) % (3 : Int32))), .val (.int ((((p2.toUInt32 >>> ((6 : Int32) &&& 31).toUInt32).toInt32) &&& (3 : Int32)) % (3 : Int32))), .val (.int (p0 &&& (255 : Int32))), .val (.int (((p0.toUInt32 >>> ((8 : Int32) &&& 31).toUInt32).toInt32) &&& (255 : Int32))), .val (.int (((p0.toUInt32 >>> ((16 : Int32) &&& 31).toUInt32).toInt32) &&& (255 : Int32))), .val (.int (((p0.toUInt32 >>> ((24 : Int32) &&& 31).toUInt32).toInt32) &&& (255 : Int32))), .unset, .unset, .unset, .unset, .unset, .unset, .unset, .unset, .unset] [(.int (255 : Int32)), (.int p1)])) _
      refine XS.iand X0.here hx rfl (hb hby at_89) rfl ?_
      exact k
    · rw [if_neg hm2] at k
      show Steps p.tables e below (s₁.setTop (mkF m 77 #[.val (.int p0), .val (.int p1), .val (.int p2), .val (.int ((p2 &&& (3 : Int32)) % (3 : Int32))), .val (.int ((((p2.toUInt32 >>> ((2 : Int32) &&& 31).toUInt32).toInt32) &&& (3 : Int32)) % (3 : Int32))), .val (.int ((((p2.toUInt32 >>> ((4 : Int32) &&& 31).toUInt32).toInt32) &&& (3 : Int32)) % (3 : Int32))), .val (.int ((((p2.toUInt32 >>> ((6 : Int32) &&& 31).toUInt32).toInt32) &&& (3 : Int32)) % (3 : Int32))), .val (.int (p0 &&& (255 : Int32))), .val (.int (((p0.toUInt32 >>> ((8 : Int32) &&& 31).toUInt32).toInt32) &&& (255 : Int32))), .val (.int (((p0.toUInt32 >>> ((16 : Int32) &&& 31).toUInt32).toInt32) &&& (255 : Int32))), .val (.int (((p0.toUInt32 >>> ((24 : Int32) &&& 31).toUInt32).toInt32) &&& (255 : Int32))), .unset, .unset, .unset, .unset, .unset, .unset, .unset, .unset, .unset] [(.int (((p2.toUInt32 >>> ((8 : Int32) &&& 31).toUInt32).toInt32) &&& (1 : Int32)))])) _
      refine XS.ifNo X0.here hx rfl (hb hby at_77) rfl ((if0 _ _).trans (feq hm2).1) ?_
      show Steps p.tables e below (s₁.setTop (mkF m 80 #[.val (.int p0), .val (.int p1), .val (.int p2), .val (.int ((p2 &&& (3 : Int32)) % (3 : Int32))), .val (.int ((((p2.toUInt32 >>> ((2 : Int32) &&& 31).toUInt32).toInt32) &&& (3 : Int32)) % (3 : Int32))), .val (.int ((((p2.toUInt32 >>> ((4 : Int32) &&& 31).toUInt32).toInt32) &&& (3 : Int32)) % (3 : Int32))), .val (.int ((((p2.toUInt32 >>> ((6 : Int32) &&& 31).toUInt32).toInt32) &&& (3 : Int32)) % (3 : Int32))), .val (.int (p0 &&& (255 : Int32))), .val (.int (((p0.toUInt32 >>> ((8 : Int32) &&& 31).toUInt32).toInt32) &&& (255 : Int32))), .val (.int (((p0.toUInt32 >>> ((16 : Int32) &&& 31).toUInt32).toInt32) &&& (255 : Int32))), .val (.int (((p0.toUInt32 >>> ((24 : Int32) &&& 31).toUInt32).toInt32) &&& (255 : Int32))), .unset, .unset, .unset, .unset, .unset, .unset, .unset, .unset, .unset] [])) _
      refine XS.iload X0.here hx rfl (hb hby at_80) rfl ?_
      show Steps p.tables e below (s₁.setTop (mkF m 82 #[.val (.int p0), .val (.int p1), .val (.int p2), .val (.int ((p2 &&& (3 : Int32)) % (3 : Int32))), .val (.int ((((p2.toUInt32 >>> ((2 : Int32) &&& 31).toUInt32).toInt32) &&& (3 : Int32)) % (3 : Int32))), .val (.int ((((p2.toUInt32 >>> ((4 : Int32) &&& 31).toUInt32).toInt32) &&& (3 : Int32)) % (3 : Int32))), .val (.int ((((p2.toUInt32 >>> ((6 : Int32) &&& 31).toUInt32).toInt32) &&& (3 : Int32)) % (3 : Int32))), .val (.int (p0 &&& (255 : Int32))), .val (.int (((p0.toUInt32 >>> ((8 : Int32) &&& 31).toUInt32).toInt32) &&& (255 : Int32))), .val (.int (((p0.toUInt32 >>> ((16 : Int32) &&& 31).toUInt32).toInt32) &&& (255 : Int32))), .val (.int (((p0.toUInt32 >>> ((24 : Int32) &&& 31).toUInt32).toInt32) &&& (255 : Int32))), .unset, .unset, .unset, .unset, .unset, .unset, .unset, .unset, .unset] [(.int (p0 &&& (255 : Int32)))])) _
      refine XS.goto X0.here hx rfl (pc0 := 82) (pc' := 90) rfl (hb hby at_82) (by decide) (by decide) ?_
      exact k
  have pre3 : ∀ t, Steps p.tables e below (s₁.setTop (mkF m 98 #[.val (.int p0), .val (.int p1), .val (.int p2), .val (.int ((p2 &&& (3 : Int32)) % (3 : Int32))), .val (.int ((((p2.toUInt32 >>> ((2 : Int32) &&& 31).toUInt32).toInt32) &&& (3 : Int32)) % (3 : Int32))), .val (.int ((((p2.toUInt32 >>> ((4 : Int32) &&& 31).toUInt32).toInt32) &&& (3 : Int32)) % (3 : Int32))), .val (.int ((((p2.toUInt32 >>> ((6 : Int32) &&& 31).toUInt32).toInt32) &&& (3 : Int32)) % (3 : Int32))), .val (.int (p0 &&& (255 : Int32))), .val (.int (((p0.toUInt32 >>> ((8 : Int32) &&& 31).toUInt32).toInt32) &&& (255 : Int32))), .val (.int (((p0.toUInt32 >>> ((16 : Int32) &&& 31).toUInt32).toInt32) &&& (255 : Int32))), .val (.int (((p0.toUInt32 >>> ((24 : Int32) &&& 31).toUInt32).toInt32) &&& (255 : Int32))), .val (.int (if (((p2.toUInt32 >>> ((8 : Int32) &&& 31).toUInt32).toInt32) &&& (1 : Int32)) = (0 : Int32) then (p1 &&& (255 : Int32)) else (p0 &&& (255 : Int32)))), .unset, .unset, .unset, .unset, .unset, .unset, .unset, .unset] [(.int (((p2.toUInt32 >>> ((9 : Int32) &&& 31).toUInt32).toInt32) &&& (1 : Int32)))])) t → Steps p.tables e below (s₁.setTop (entryFrame m #[(.int p0), (.int p1), (.int p2)] maxLocals)) t := by
    intro t k
    refine pre2 _ ?_
    show Steps p.tables e below (s₁.setTop (mkF m 90 #[.val (.int p0), .val (.int p1), .val (.int p2), .val (.int ((p2 &&& (3 : Int32)) % (3 : Int32))), .val (.int ((((p2.toUInt32 >>> ((2 : Int32) &&& 31).toUInt32).toInt32) &&& (3 : Int32)) % (3 : Int32))), .val (.int ((((p2.toUInt32 >>> ((4 : Int32) &&& 31).toUInt32).toInt32) &&& (3 : Int32)) % (3 : Int32))), .val (.int ((((p2.toUInt32 >>> ((6 : Int32) &&& 31).toUInt32).toInt32) &&& (3 : Int32)) % (3 : Int32))), .val (.int (p0 &&& (255 : Int32))), .val (.int (((p0.toUInt32 >>> ((8 : Int32) &&& 31).toUInt32).toInt32) &&& (255 : Int32))), .val (.int (((p0.toUInt32 >>> ((16 : Int32) &&& 31).toUInt32).toInt32) &&& (255 : Int32))), .val (.int (((p0.toUInt32 >>> ((24 : Int32) &&& 31).toUInt32).toInt32) &&& (255 : Int32))), .unset, .unset, .unset, .unset, .unset, .unset, .unset, .unset, .unset] [(.int (if (((p2.toUInt32 >>> ((8 : Int32) &&& 31).toUInt32).toInt32) &&& (1 : Int32)) = (0 : Int32) then (p1 &&& (255 : Int32)) else (p0 &&& (255 : Int32))))])) _
    refine XS.istore X0.here hx rfl (hb hby at_90) rfl (l' := #[.val (.int p0), .val (.int p1), .val (.int p2), .val (.int ((p2 &&& (3 : Int32)) % (3 : Int32))), .val (.int ((((p2.toUInt32 >>> ((2 : Int32) &&& 31).toUInt32).toInt32) &&& (3 : Int32)) % (3 : Int32))), .val (.int ((((p2.toUInt32 >>> ((4 : Int32) &&& 31).toUInt32).toInt32) &&& (3 : Int32)) % (3 : Int32))), .val (.int ((((p2.toUInt32 >>> ((6 : Int32) &&& 31).toUInt32).toInt32) &&& (3 : Int32)) % (3 : Int32))), .val (.int (p0 &&& (255 : Int32))), .val (.int (((p0.toUInt32 >>> ((8 : Int32) &&& 31).toUInt32).toInt32) &&& (255 : Int32))), .val (.int (((p0.toUInt32 >>> ((16 : Int32) &&& 31).toUInt32).toInt32) &&& (255 : Int32))), .val (.int (((p0.toUInt32 >>> ((24 : Int32) &&& 31).toUInt32).toInt32) &&& (255 : Int32))), .val (.int (if (((p2.toUInt32 >>> ((8 : Int32) &&& 31).toUInt32).toInt32) &&& (1 : Int32)) = (0 : Int32) then (p1 &&& (255 : Int32)) else (p0 &&& (255 : Int32)))), .unset, .unset, .unset, .unset, .unset, .unset, .unset, .unset]) rfl ?_
    show Steps p.tables e below (s₁.setTop (mkF m 92 #[.val (.int p0), .val (.int p1), .val (.int p2), .val (.int ((p2 &&& (3 : Int32)) % (3 : Int32))), .val (.int ((((p2.toUInt32 >>> ((2 : Int32) &&& 31).toUInt32).toInt32) &&& (3 : Int32)) % (3 : Int32))), .val (.int ((((p2.toUInt32 >>> ((4 : Int32) &&& 31).toUInt32).toInt32) &&& (3 : Int32)) % (3 : Int32))), .val (.int ((((p2.toUInt32 >>> ((6 : Int32) &&& 31).toUInt32).toInt32) &&& (3 : Int32)) % (3 : Int32))), .val (.int (p0 &&& (255 : Int32))), .val (.int (((p0.toUInt32 >>> ((8 : Int32) &&& 31).toUInt32).toInt32) &&& (255 : Int32))), .val (.int (((p0.toUInt32 >>> ((16 : Int32) &&& 31).toUInt32).toInt32) &&& (255 : Int32))), .val (.int (((p0.toUInt32 >>> ((24 : Int32) &&& 31).toUInt32).toInt32) &&& (255 : Int32))), .val (.int (if (((p2.toUInt32 >>> ((8 : Int32) &&& 31).toUInt32).toInt32) &&& (1 : Int32)) = (0 : Int32) then (p1 &&& (255 : Int32)) else (p0 &&& (255 : Int32)))), .unset, .unset, .unset, .unset, .unset, .unset, .unset, .unset] [])) _
    refine XS.iloadN X0.here hx rfl (hb hby at_92) rfl ?_
    show Steps p.tables e below (s₁.setTop (mkF m 93 #[.val (.int p0), .val (.int p1), .val (.int p2), .val (.int ((p2 &&& (3 : Int32)) % (3 : Int32))), .val (.int ((((p2.toUInt32 >>> ((2 : Int32) &&& 31).toUInt32).toInt32) &&& (3 : Int32)) % (3 : Int32))), .val (.int ((((p2.toUInt32 >>> ((4 : Int32) &&& 31).toUInt32).toInt32) &&& (3 : Int32)) % (3 : Int32))), .val (.int ((((p2.toUInt32 >>> ((6 : Int32) &&& 31).toUInt32).toInt32) &&& (3 : Int32)) % (3 : Int32))), .val (.int (p0 &&& (255 : Int32))), .val (.int (((p0.toUInt32 >>> ((8 : Int32) &&& 31).toUInt32).toInt32) &&& (255 : Int32))), .val (.int (((p0.toUInt32 >>> ((16 : Int32) &&& 31).toUInt32).toInt32) &&& (255 : Int32))), .val (.int (((p0.toUInt32 >>> ((24 : Int32) &&& 31).toUInt32).toInt32) &&& (255 : Int32))), .val (.int (if (((p2.toUInt32 >>> ((8 : Int32) &&& 31).toUInt32).toInt32) &&& (1 : Int32)) = (0 : Int32) then (p1 &&& (255 : Int32)) else (p0 &&& (255 : Int32)))), .unset, .unset, .unset, .unset, .unset, .unset, .unset, .unset] [(.int p2)])) _
    refine XS.bipush X0.here hx rfl (hb hby at_93) ?_
    show Steps p.tables e below (s₁.setTop (mkF m 95 #[.val (.int p0), .val (.int p1), .val (.int p2), .val (.int ((p2 &&& (3 : Int32)) % (3 : Int32))), .val (.int ((((p2.toUInt32 >>> ((2 : Int32) &&& 31).toUInt32).toInt32) &&& (3 : Int32)) % (3 : Int32))), .val (.int ((((p2.toUInt32 >>> ((4 : Int32) &&& 31).toUInt32).toInt32) &&& (3 : Int32)) % (3 : Int32))), .val (.int ((((p2.toUInt32 >>> ((6 : Int32) &&& 31).toUInt32).toInt32) &&& (3 : Int32)) % (3 : Int32))), .val (.int (p0 &&& (255 : Int32))), .val (.int (((p0.toUInt32 >>> ((8 : Int32) &&& 31).toUInt32).toInt32) &&& (255 : Int32))), .val (.int (((p0.toUInt32 >>> ((16 : Int32) &&& 31).toUInt32).toInt32) &&& (255 : Int32))), .val (.int (((p0.toUInt32 >>> ((24 : Int32) &&& 31).toUInt32).toInt32) &&& (255 : Int32))), .val (.int (if (((p2.toUInt32 >>> ((8 : Int32) &&& 31).toUInt32).toInt32) &&& (1 : Int32)) = (0 : Int32) then (p1 &&& (255 : Int32)) else (p0 &&& (255 : Int32)))), .unset, .unset, .unset, .unset, .unset, .unset, .unset, .unset] [(.int (9 : Int32)), (.int p2)])) _
    refine XS.iushr X0.here hx rfl (hb hby at_95) rfl ?_
    show Steps p.tables e below (s₁.setTop (mkF m 96 #[.val (.int p0), .val (.int p1), .val (.int p2), .val (.int ((p2 &&& (3 : Int32)) % (3 : Int32))), .val (.int ((((p2.toUInt32 >>> ((2 : Int32) &&& 31).toUInt32).toInt32) &&& (3 : Int32)) % (3 : Int32))), .val (.int ((((p2.toUInt32 >>> ((4 : Int32) &&& 31).toUInt32).toInt32) &&& (3 : Int32)) % (3 : Int32))), .val (.int ((((p2.toUInt32 >>> ((6 : Int32) &&& 31).toUInt32).toInt32) &&& (3 : Int32)) % (3 : Int32))), .val (.int (p0 &&& (255 : Int32))), .val (.int (((p0.toUInt32 >>> ((8 : Int32) &&& 31).toUInt32).toInt32) &&& (255 : Int32))), .val (.int (((p0.toUInt32 >>> ((16 : Int32) &&& 31).toUInt32).toInt32) &&& (255 : Int32))), .val (.int (((p0.toUInt32 >>> ((24 : Int32) &&& 31).toUInt32).toInt32) &&& (255 : Int32))), .val (.int (if (((p2.toUInt32 >>> ((8 : Int32) &&& 31).toUInt32).toInt32) &&& (1 : Int32)) = (0 : Int32) then (p1 &&& (255 : Int32)) else (p0 &&& (255 : Int32)))), .unset, .unset, .unset, .unset, .unset, .unset, .unset, .unset] [(.int ((p2.toUInt32 >>> ((9 : Int32) &&& 31).toUInt32).toInt32))])) _
    refine XS.iconst X0.here hx rfl (hb hby at_96) ?_
    show Steps p.tables e below (s₁.setTop (mkF m 97 #[.val (.int p0), .val (.int p1), .val (.int p2), .val (.int ((p2 &&& (3 : Int32)) % (3 : Int32))), .val (.int ((((p2.toUInt32 >>> ((2 : Int32) &&& 31).toUInt32).toInt32) &&& (3 : Int32)) % (3 : Int32))), .val (.int ((((p2.toUInt32 >>> ((4 : Int32) &&& 31).toUInt32).toInt32) &&& (3 : Int32)) % (3 : Int32))), .val (.int ((((p2.toUInt32 >>> ((6 : Int32) &&& 31).toUInt32).toInt32) &&& (3 : Int32)) % (3 : Int32))), .val (.int (p0 &&& (255 : Int32))), .val (.int (((p0.toUInt32 >>> ((8 : Int32) &&& 31).toUInt32).toInt32) &&& (255 : Int32))), .val (.int (((p0.toUInt32 >>> ((16 : Int32) &&& 31).toUInt32).toInt32) &&& (255 : Int32))), .val (.int (((p0.toUInt32 >>> ((24 : Int32) &&& 31).toUInt32).toInt32) &&& (255 : Int32))), .val (.int (if (((p2.toUInt32 >>> ((8 : Int32) &&& 31).toUInt32).toInt32) &&& (1 : Int32)) = (0 : Int32) then (p1 &&& (255 : Int32)) else (p0 &&& (255 : Int32)))), .unset, .unset, .unset, .unset, .unset, .unset, .unset, .unset] [(.int (1 : Int32)), (.int ((p2.toUInt32 >>> ((9 : Int32) &&& 31).toUInt32).toInt32))])) _
    refine XS.iand X0.here hx rfl (hb hby at_97) rfl ?_
    exact k
  have pre4 : ∀ t, Steps p.tables e below (s₁.setTop (mkF m 114 #[.val (.int p0), .val (.int p1), .val (.int p2), .val (.int ((p2 &&& (3 : Int32)) % (3 : Int32))), .val (.int ((((p2.toUInt32 >>> ((2 : Int32) &&& 31).toUInt32).toInt32) &&& (3 : Int32)) % (3 : Int32))), .val (.int ((((p2.toUInt32 >>> ((4 : Int32) &&& 31).toUInt32).toInt32) &&& (3 : Int32)) % (3 : Int32))), .val (.int ((((p2.toUInt32 >>> ((6 : Int32) &&& 31).toUInt32).toInt32) &&& (3 : Int32)) % (3 : Int32))), .val (.int (p0 &&& (255 : Int32))), .val (.int (((p0.toUInt32 >>> ((8 : Int32) &&& 31).toUInt32).toInt32) &&& (255 : Int32))), .val (.int (((p0.toUInt32 >>> ((16 : Int32) &&& 31).toUInt32).toInt32) &&& (255 : Int32))), .val (.int (((p0.toUInt32 >>> ((24 : Int32) &&& 31).toUInt32).toInt32) &&& (255 : Int32))), .val (.int (if (((p2.toUInt32 >>> ((8 : Int32) &&& 31).toUInt32).toInt32) &&& (1 : Int32)) = (0 : Int32) then (p1 &&& (255 : Int32)) else (p0 &&& (255 : Int32)))), .unset, .unset, .unset, .unset, .unset, .unset, .unset, .unset] [(.int (if (((p2.toUInt32 >>> ((9 : Int32) &&& 31).toUInt32).toInt32) &&& (1 : Int32)) = (0 : Int32) then (((p1.toUInt32 >>> ((8 : Int32) &&& 31).toUInt32).toInt32) &&& (255 : Int32)) else (((p0.toUInt32 >>> ((8 : Int32) &&& 31).toUInt32).toInt32) &&& (255 : Int32))))])) t → Steps p.tables e below (s₁.setTop (entryFrame m #[(.int p0), (.int p1), (.int p2)] maxLocals)) t := by
    intro t k
    refine pre3 _ ?_
    by_cases hm4 : (((p2.toUInt32 >>> ((9 : Int32) &&& 31).toUInt32).toInt32) &&& (1 : Int32)) = (0 : Int32)
    · rw [if_pos hm4] at k
      show Steps p.tables e below (s₁.setTop (mkF m 98 #[.val (.int p0), .val (.int p1), .val (.int p2), .val (.int ((p2 &&& (3 : Int32)) % (3 : Int32))), .val (.int ((((p2.toUInt32 >>> ((2 : Int32) &&& 31).toUInt32).toInt32) &&& (3 : Int32)) % (3 : Int32))), .val (.int ((((p2.toUInt32 >>> ((4 : Int32) &&& 31).toUInt32).toInt32) &&& (3 : Int32)) % (3 : Int32))), .val (.int ((((p2.toUInt32 >>> ((6 : Int32) &&& 31).toUInt32).toInt32) &&& (3 : Int32)) % (3 : Int32))), .val (.int (p0 &&& (255 : Int32))), .val (.int (((p0.toUInt32 >>> ((8 : Int32) &&& 31).toUInt32).toInt32) &&& (255 : Int32))), .val (.int (((p0.toUInt32 >>> ((16 : Int32) &&& 31).toUInt32).toInt32) &&& (255 : Int32))), .val (.int (((p0.toUInt32 >>> ((24 : Int32) &&& 31).toUInt32).toInt32) &&& (255 : Int32))), .val (.int (if (((p2.toUInt32 >>> ((8 : Int32) &&& 31).toUInt32).toInt32) &&& (1 : Int32)) = (0 : Int32) then (p1 &&& (255 : Int32)) else (p0 &&& (255 : Int32)))), .unset, .unset, .unset, .unset, .unset, .unset, .unset, .unset] [(.int (((p2.toUInt32 >>> ((9 : Int32) &&& 31).toUInt32).toInt32) &&& (1 : Int32)))])) _
      refine XS.ifYes X0.here hx rfl (pc0 := 98) (pc' := 106) rfl (hb hby at_98) rfl ((if0 _ _).trans (teq hm4).1) (by decide) (by decide) ?_
      show Steps p.tables e below (s₁.setTop (mkF m 106 #[.val (.int p0), .val (.int p1), .val (.int p2), .val (.int ((p2 &&& (3 : Int32)) % (3 : Int32))), .val (.int ((((p2.toUInt32 >>> ((2 : Int32) &&& 31).toUInt32).toInt32) &&& (3 : Int32)) % (3 : Int32))), .val (.int ((((p2.toUInt32 >>> ((4 : Int32) &&& 31).toUInt32).toInt32) &&& (3 : Int32)) % (3 : Int32))), .val (.int ((((p2.toUInt32 >>> ((6 : Int32) &&& 31).toUInt32).toInt32) &&& (3 : Int32)) % (3 : Int32))), .val (.int (p0 &&& (255 : Int32))), .val (.int (((p0.toUInt32 >>> ((8 : Int32) &&& 31).toUInt32).toInt32) &&& (255 : Int32))), .val (.int (((p0.toUInt32 >>> ((16 : Int32) &&& 31).toUInt32).toInt32) &&& (255 : Int32))), .val (.int (((p0.toUInt32 >>> ((24 : Int32) &&& 31).toUInt32).toInt32) &&& (255 : Int32))), .val (.int (if (((p2.toUInt32 >>> ((8 : Int32) &&& 31).toUInt32).toInt32) &&& (1 : Int32)) = (0 : Int32) then (p1 &&& (255 : Int32)) else (p0 &&& (255 : Int32)))), .unset, .unset, .unset, .unset, .unset, .unset, .unset, .unset] [])) _
      refine XS.iloadN X0.here hx rfl (hb hby at_106) rfl ?_
      show Steps p.tables e below (s₁.setTop (mkF m 107 #[.val (.int p0), .val (.int p1), .val (.int p2), .val (.int ((p2 &&& (3 : Int32)) % (3 : Int32))), .val (.int ((((p2.toUInt32 >>> ((2 : Int32) &&& 31).toUInt32).toInt32) &&& (3 : Int32)) % (3 : Int32))), .val (.int ((((p2.toUInt32 >>> ((4 : Int32) &&& 31).toUInt32).toInt32) &&& (3 : Int32)) % (3 : Int32))), .val (.int ((((p2.toUInt32 >>> ((6 : Int32) &&& 31).toUInt32).toInt32) &&& (3 : Int32)) % (3 : Int32))), .val (.int (p0 &&& (255 : Int32))), .val (.int (((p0.toUInt32 >>> ((8 : Int32) &&& 31).toUInt32).toInt32) &&& (255 : Int32))), .val (.int (((p0.toUInt32 >>> ((16 : Int32) &&& 31).toUInt32).toInt32) &&& (255 : Int32))), .val (.int (((p0.toUInt32 >>> ((24 : Int32) &&& 31).toUInt32).toInt32) &&& (255 : Int32))), .val (.int (if (((p2.toUInt32 >>> ((8 : Int32) &&& 31).toUInt32).toInt32) &&& (1 : Int32)) = (0 : Int32) then (p1 &&& (255 : Int32)) else (p0 &&& (255 : Int32)))), .unset, .unset, .unset, .unset, .unset, .unset, .unset, .unset] [(.int p1)])) _
      refine XS.bipush X0.here hx rfl (hb hby at_107) ?_
      show Steps p.tables e below (s₁.setTop (mkF m 109 #[.val (.int p0), .val (.int p1), .val (.int p2), .val (.int ((p2 &&& (3 : Int32)) % (3 : Int32))), .val (.int ((((p2.toUInt32 >>> ((2 : Int32) &&& 31).toUInt32).toInt32) &&& (3 : Int32)) % (3 : Int32))), .val (.int ((((p2.toUInt32 >>> ((4 : Int32) &&& 31).toUInt32).toInt32) &&& (3 : Int32)) % (3 : Int32))), .val (.int ((((p2.toUInt32 >>> ((6 : Int32) &&& 31).toUInt32).toInt32) &&& (3 : Int32)) % (3 : Int32))), .val (.int (p0 &&& (255 : Int32))), .val (.int (((p0.toUInt32 >>> ((8 : Int32) &&& 31).toUInt32).toInt32) &&& (255 : Int32))), .val (.int (((p0.toUInt32 >>> ((16 : Int32) &&& 31).toUInt32).toInt32) &&& (255 : Int32))), .val (.int (((p0.toUInt32 >>> ((24 : Int32) &&& 31).toUInt32).toInt32) &&& (255 : Int32))), .val (.int (if (((p2.toUInt32 >>> ((8 : Int32) &&& 31).toUInt32).toInt32) &&& (1 : Int32)) = (0 : Int32) then (p1 &&& (255 : Int32)) else (p0 &&& (255 : Int32)))), .unset, .unset, .unset, .unset, .unset, .unset, .unset, .unset] [(.int (8 : Int32)), (.int p1)])) _
      refine XS.iushr X0.here hx rfl (hb hby at_109) rfl ?_
      show Steps p.tables e below (s₁.setTop (mkF m 110 #[.val (.int p0), .val (.int p1), .val (.int p2), .val (.int ((p2 &&& (3 : Int32)) % (3 : Int32))), .val (.int ((((p2.toUInt32 >>> ((2 : Int32) &&& 31).toUInt32).toInt32) &&& (3 : Int32)) % (3 : Int32))), .val (.int ((((p2.toUInt32 >>> ((4 : Int32) &&& 31).toUInt32).toInt32) &&& (3 : Int32)) % (3 : Int32))), .val (.int ((((p2.toUInt32 >>> ((6 : Int32) &&& 31).toUInt32).toInt32) &&& (3 : Int32)) % (3 : Int32))), .val (.int (p0 &&& (255 : Int32))), .val (.int (((p0.toUInt32 >>> ((8 : Int32) &&& 31).toUInt32).toInt32) &&& (255 : Int32))), .val (.int (((p0.toUInt32 >>> ((16 : Int32) &&& 31).toUInt32).toInt32) &&& (255 : Int32))), .val (.int (((p0.toUInt32 >>> ((24 : Int32) &&& 31).toUInt32).toInt32) &&& (255 : Int32))), .val (.int (if (((p2.toUInt32 >>> ((8 : Int32) &&& 31).toUInt32).toInt32) &&& (1 : Int32)) = (0 : Int32) then (p1 &&& (255 : Int32)) else (p0 &&& (255 : Int32)))), .unset, .unset, .unset, .unset, .unset, .unset, .unset, .unset] [(.int ((p1.toUInt32 >>> ((8 : Int32) &&& 31).toUInt32).toInt32))])) _
      refine XS.sipush X0.here hx rfl (hb hby at_110) ?_
      show Steps p.tables e below (s₁.setTop (mkF m 113 #[.val (.int p0), .val (.int p1), .val (.int p2), .val (.int ((p2 &&& (3 : Int32)) % (3 : Int32))), .val (.int ((((p2.toUInt32 >>> ((2 : Int32) &&& 31).toUInt32).toInt32) &&& (3 : Int32)) % (3 : Int32))), .val (.int ((((p2.toUInt32 >>> ((4 : Int32) &&& 31).toUInt32).toInt32) &&& (3 : Int32)) % (3 : Int32))), .val (.int ((((p2.toUInt32 >>> ((6 : Int32) &&& 31).toUInt32).toInt32) &&& (3 : Int32)) % (3 : Int32))), .val (.int (p0 &&& (255 : Int32))), .val (.int (((p0.toUInt32 >>> ((8 : Int32) &&& 31).toUInt32).toInt32) &&& (255 : Int32))), .val (.int (((p0.toUInt32 >>> ((16 : Int32) &&& 31).toUInt32).toInt32) &&& (255 : Int32))), .val (.int (((p0.toUInt32 >>> ((24 : Int32) &&& 31).toUInt32).toInt32) &&& (255 : Int32))), .val (.int (if (((p2.toUInt32 >>> ((8 : Int32) &&& 31).toUInt32).toInt32) &&& (1 : Int32)) = (0 : Int32) then (p1 &&& (255 : Int32)) else (p0 &&& (255 : Int32)))), .unset, .unset, .unset, .unset, .unset, .unset, .unset, .unset] [(.int (255 : Int32)), (.int ((p1.toUInt32 >>> ((8 : Int32) &&& 31).toUInt32).toInt32))])) _
      refine XS.iand X0.here hx rfl (hb hby at_113) rfl ?_
      exact k
    · rw [if_neg hm4] at k
      show Steps p.tables e below (s₁.setTop (mkF m 98 #[.val (.int p0), .val (.int p1), .val (.int p2), .val (.int ((p2 &&& (3 : Int32)) % (3 : Int32))), .val (.int ((((p2.toUInt32 >>> ((2 : Int32) &&& 31).toUInt32).toInt32) &&& (3 : Int32)) % (3 : Int32))), .val (.int ((((p2.toUInt32 >>> ((4 : Int32) &&& 31).toUInt32).toInt32) &&& (3 : Int32)) % (3 : Int32))), .val (.int ((((p2.toUInt32 >>> ((6 : Int32) &&& 31).toUInt32).toInt32) &&& (3 : Int32)) % (3 : Int32))), .val (.int (p0 &&& (255 : Int32))), .val (.int (((p0.toUInt32 >>> ((8 : Int32) &&& 31).toUInt32).toInt32) &&& (255 : Int32))), .val (.int (((p0.toUInt32 >>> ((16 : Int32) &&& 31).toUInt32).toInt32) &&& (255 : Int32))), .val (.int (((p0.toUInt32 >>> ((24 : Int32) &&& 31).toUInt32).toInt32) &&& (255 : Int32))), .val (.int (if (((p2.toUInt32 >>> ((8 : Int32) &&& 31).toUInt32).toInt32) &&& (1 : Int32)) = (0 : Int32) then (p1 &&& (255 : Int32)) else (p0 &&& (255 : Int32)))), .unset, .unset, .unset, .unset, .unset, .unset, .unset, .unset] [(.int (((p2.toUInt32 >>> ((9 : Int32) &&& 31).toUInt32).toInt32) &&& (1 : Int32)))])) _
      refine XS.ifNo X0.here hx rfl (hb hby at_98) rfl ((if0 _ _).trans (feq hm4).1) ?_
      show Steps p.tables e below (s₁.setTop (mkF m 101 #[.val (.int p0), .val (.int p1), .val (.int p2), .val (.int ((p2 &&& (3 : Int32)) % (3 : Int32))), .val (.int ((((p2.toUInt32 >>> ((2 : Int32) &&& 31).toUInt32).toInt32) &&& (3 : Int32)) % (3 : Int32))), .val (.int ((((p2.toUInt32 >>> ((4 : Int32) &&& 31).toUInt32).toInt32) &&& (3 : Int32)) % (3 : Int32))), .val (.int ((((p2.toUInt32 >>> ((6 : Int32) &&& 31).toUInt32).toInt32) &&& (3 : Int32)) % (3 : Int32))), .val (.int (p0 &&& (255 : Int32))), .val (.int (((p0.toUInt32 >>> ((8 : Int32) &&& 31).toUInt32).toInt32) &&& (255 : Int32))), .val (.int (((p0.toUInt32 >>> ((16 : Int32) &&& 31).toUInt32).toInt32) &&& (255 : Int32))), .val (.int (((p0.toUInt32 >>> ((24 : Int32) &&& 31).toUInt32).toInt32) &&& (255 : Int32))), .val (.int (if (((p2.toUInt32 >>> ((8 : Int32) &&& 31).toUInt32).toInt32) &&& (1 : Int32)) = (0 : Int32) then (p1 &&& (255 : Int32)) else (p0 &&& (255 : Int32)))), .unset, .unset, .unset, .unset, .unset, .unset, .unset, .unset] [])) _
      refine XS.iload X0.here hx rfl (hb hby at_101) rfl ?_
      show Steps p.tables e below (s₁.setTop (mkF m 103 #[.val (.int p0), .val (.int p1), .val (.int p2), .val (.int ((p2 &&& (3 : Int32)) % (3 : Int32))), .val (.int ((((p2.toUInt32 >>> ((2 : Int32) &&& 31).toUInt32).toInt32) &&& (3 : Int32)) % (3 : Int32))), .val (.int ((((p2.toUInt32 >>> ((4 : Int32) &&& 31).toUInt32).toInt32) &&& (3 : Int32)) % (3 : Int32))), .val (.int ((((p2.toUInt32 >>> ((6 : Int32) &&& 31).toUInt32).toInt32) &&& (3 : Int32)) % (3 : Int32))), .val (.int (p0 &&& (255 : Int32))), .val (.int (((p0.toUInt32 >>> ((8 : Int32) &&& 31).toUInt32).toInt32) &&& (255 : Int32))), .val (.int (((p0.toUInt32 >>> ((16 : Int32) &&& 31).toUInt32).toInt32) &&& (255 : Int32))), .val (.int (((p0.toUInt32 >>> ((24 : Int32) &&& 31).toUInt32).toInt32) &&& (255 : Int32))), .val (.int (if (((p2.toUInt32 >>> ((8 : Int32) &&& 31).toUInt32).toInt32) &&& (1 : Int32)) = (0 : Int32) then (p1 &&& (255 : Int32)) else (p0 &&& (255 : Int32)))), .unset, .unset, .unset, .unset, .unset, .unset, .unset, .unset] [(.int (((p0.toUInt32 >>> ((8 : Int32) &&& 31).toUInt32).toInt32) &&& (255 : Int32)))])) _
      refine XS.goto X0.here hx rfl (pc0 := 103) (pc' := 114) rfl (hb hby at_103) (by decide) (by decide) ?_
      exact k
  have pre5 : ∀ t, Steps p.tables e below (s₁.setTop (mkF m 122 #[.val (.int p0), .val (.int p1), .val (.int p2), .val (.int ((p2 &&& (3 : Int32)) % (3 : Int32))), .val (.int ((((p2.toUInt32 >>> ((2 : Int32) &&& 31).toUInt32).toInt32) &&& (3 : Int32)) % (3 : Int32))), .val (.int ((((p2.toUInt32 >>> ((4 : Int32) &&& 31).toUInt32).toInt32) &&& (3 : Int32)) % (3 : Int32))), .val (.int ((((p2.toUInt32 >>> ((6 : Int32) &&& 31).toUInt32).toInt32) &&& (3 : Int32)) % (3 : Int32))), .val (.int (p0 &&& (255 : Int32))), .val (.int (((p0.toUInt32 >>> ((8 : Int32) &&& 31).toUInt32).toInt32) &&& (255 : Int32))), .val (.int (((p0.toUInt32 >>> ((16 : Int32) &&& 31).toUInt32).toInt32) &&& (255 : Int32))), .val (.int (((p0.toUInt32 >>> ((24 : Int32) &&& 31).toUInt32).toInt32) &&& (255 : Int32))), .val (.int (if (((p2.toUInt32 >>> ((8 : Int32) &&& 31).toUInt32).toInt32) &&& (1 : Int32)) = (0 : Int32) then (p1 &&& (255 : Int32)) else (p0 &&& (255 : Int32)))), .val (.int (if (((p2.toUInt32 >>> ((9 : Int32) &&& 31).toUInt32).toInt32) &&& (1 : Int32)) = (0 : Int32) then (((p1.toUInt32 >>> ((8 : Int32) &&& 31).toUInt32).toInt32) &&& (255 : Int32)) else (((p0.toUInt32 >>> ((8 : Int32) &&& 31).toUInt32).toInt32) &&& (255 : Int32)))), .unset, .unset, .unset, .unset, .unset, .unset, .unset] [(.int (((p2.toUInt32 >>> ((10 : Int32) &&& 31).toUInt32).toInt32) &&& (1 : Int32)))])) t → Steps p.tables e below (s₁.setTop (entryFrame m #[(.int p0), (.int p1), (.int p2)] maxLocals)) t := by
    intro t k
    refine pre4 _ ?_
    show Steps p.tables e below (s₁.setTop (mkF m 114 #[.val (.int p0), .val (.int p1), .val (.int p2), .val (.int ((p2 &&& (3 : Int32)) % (3 : Int32))), .val (.int ((((p2.toUInt32 >>> ((2 : Int32) &&& 31).toUInt32).toInt32) &&& (3 : Int32)) % (3 : Int32))), .val (.int ((((p2.toUInt32 >>> ((4 : Int32) &&& 31).toUInt32).toInt32) &&& (3 : Int32)) % (3 : Int32))), .val (.int ((((p2.toUInt32 >>> ((6 : Int32) &&& 31).toUInt32).toInt32) &&& (3 : Int32)) % (3 : Int32))), .val (.int (p0 &&& (255 : Int32))), .val (.int (((p0.toUInt32 >>> ((8 : Int32) &&& 31).toUInt32).toInt32) &&& (255 : Int32))), .val (.int (((p0.toUInt32 >>> ((16 : Int32) &&& 31).toUInt32).toInt32) &&& (255 : Int32))), .val (.int (((p0.toUInt32 >>> ((24 : Int32) &&& 31).toUInt32).toInt32) &&& (255 : Int32))), .val (.int (if (((p2.toUInt32 >>> ((8 : Int32) &&& 31).toUInt32).toInt32) &&& (1 : Int32)) = (0 : Int32) then (p1 &&& (255 : Int32)) else (p0 &&& (255 : Int32)))), .unset, .unset, .unset, .unset, .unset, .unset, .unset, .unset] [(.int (if (((p2.toUInt32 >>> ((9 : Int32) &&& 31).toUInt32).toInt32) &&& (1 : Int32)) = (0 : Int32) then (((p1.toUInt32 >>> ((8 : Int32) &&& 31).toUInt32).toInt32) &&& (255 : Int32)) else (((p0.toUInt32 >>> ((8 : Int32) &&& 31).toUInt32).toInt32) &&& (255 : Int32))))])) _
    refine XS.istore X0.here hx rfl (hb hby at_114) rfl (l' := #[.val (.int p0), .val (.int p1), .val (.int p2), .val (.int ((p2 &&& (3 : Int32)) % (3 : Int32))), .val (.int ((((p2.toUInt32 >>> ((2 : Int32) &&& 31).toUInt32).toInt32) &&& (3 : Int32)) % (3 : Int32))), .val (.int ((((p2.toUInt32 >>> ((4 : Int32) &&& 31).toUInt32).toInt32) &&& (3 : Int32)) % (3 : Int32))), .val (.int ((((p2.toUInt32 >>> ((6 : Int32) &&& 31).toUInt32).toInt32) &&& (3 : Int32)) % (3 : Int32))), .val (.int (p0 &&& (255 : Int32))), .val (.int (((p0.toUInt32 >>> ((8 : Int32) &&& 31).toUInt32).toInt32) &&& (255 : Int32))), .val (.int (((p0.toUInt32 >>> ((16 : Int32) &&& 31).toUInt32).toInt32) &&& (255 : Int32))), .val (.int (((p0.toUInt32 >>> ((24 : Int32) &&& 31).toUInt32).toInt32) &&& (255 : Int32))), .val (.int (if (((p2.toUInt32 >>> ((8 : Int32) &&& 31).toUInt32).toInt32) &&& (1 : Int32)) = (0 : Int32) then (p1 &&& (255 : Int32)) else (p0 &&& (255 : Int32)))), .val (.int (if (((p2.toUInt32 >>> ((9 : Int32) &&& 31).toUInt32).toInt32) &&& (1 : Int32)) = (0 : Int32) then (((p1.toUInt32 >>> ((8 : Int32) &&& 31).toUInt32).toInt32) &&& (255 : Int32)) else (((p0.toUInt32 >>> ((8 : Int32) &&& 31).toUInt32).toInt32) &&& (255 : Int32)))), .unset, .unset, .unset, .unset, .unset, .unset, .unset]) rfl ?_
    show Steps p.tables e below (s₁.setTop (mkF m 116 #[.val (.int p0), .val (.int p1), .val (.int p2), .val (.int ((p2 &&& (3 : Int32)) % (3 : Int32))), .val (.int ((((p2.toUInt32 >>> ((2 : Int32) &&& 31).toUInt32).toInt32) &&& (3 : Int32)) % (3 : Int32))), .val (.int ((((p2.toUInt32 >>> ((4 : Int32) &&& 31).toUInt32).toInt32) &&& (3 : Int32)) % (3 : Int32))), .val (.int ((((p2.toUInt32 >>> ((6 : Int32) &&& 31).toUInt32).toInt32) &&& (3 : Int32)) % (3 : Int32))), .val (.int (p0 &&& (255 : Int32))), .val (.int (((p0.toUInt32 >>> ((8 : Int32) &&& 31).toUInt32).toInt32) &&& (255 : Int32))), .val (.int (((p0.toUInt32 >>> ((16 : Int32) &&& 31).toUInt32).toInt32) &&& (255 : Int32))), .val (.int (((p0.toUInt32 >>> ((24 : Int32) &&& 31).toUInt32).toInt32) &&& (255 : Int32))), .val (.int (if (((p2.toUInt32 >>> ((8 : Int32) &&& 31).toUInt32).toInt32) &&& (1 : Int32)) = (0 : Int32) then (p1 &&& (255 : Int32)) else (p0 &&& (255 : Int32)))), .val (.int (if (((p2.toUInt32 >>> ((9 : Int32) &&& 31).toUInt32).toInt32) &&& (1 : Int32)) = (0 : Int32) then (((p1.toUInt32 >>> ((8 : Int32) &&& 31).toUInt32).toInt32) &&& (255 : Int32)) else (((p0.toUInt32 >>> ((8 : Int32) &&& 31).toUInt32).toInt32) &&& (255 : Int32)))), .unset, .unset, .unset, .unset, .unset, .unset, .unset] [])) _
    refine XS.iloadN X0.here hx rfl (hb hby at_116) rfl ?_
    show Steps p.tables e below (s₁.setTop (mkF m 117 #[.val (.int p0), .val (.int p1), .val (.int p2), .val (.int ((p2 &&& (3 : Int32)) % (3 : Int32))), .val (.int ((((p2.toUInt32 >>> ((2 : Int32) &&& 31).toUInt32).toInt32) &&& (3 : Int32)) % (3 : Int32))), .val (.int ((((p2.toUInt32 >>> ((4 : Int32) &&& 31).toUInt32).toInt32) &&& (3 : Int32)) % (3 : Int32))), .val (.int ((((p2.toUInt32 >>> ((6 : Int32) &&& 31).toUInt32).toInt32) &&& (3 : Int32)) % (3 : Int32))), .val (.int (p0 &&& (255 : Int32))), .val (.int (((p0.toUInt32 >>> ((8 : Int32) &&& 31).toUInt32).toInt32) &&& (255 : Int32))), .val (.int (((p0.toUInt32 >>> ((16 : Int32) &&& 31).toUInt32).toInt32) &&& (255 : Int32))), .val (.int (((p0.toUInt32 >>> ((24 : Int32) &&& 31).toUInt32).toInt32) &&& (255 : Int32))), .val (.int (if (((p2.toUInt32 >>> ((8 : Int32) &&& 31).toUInt32).toInt32) &&& (1 : Int32)) = (0 : Int32) then (p1 &&& (255 : Int32)) else (p0 &&& (255 : Int32)))), .val (.int (if (((p2.toUInt32 >>> ((9 : Int32) &&& 31).toUInt32).toInt32) &&& (1 : Int32)) = (0 : Int32) then (((p1.toUInt32 >>> ((8 : Int32) &&& 31).toUInt32).toInt32) &&& (255 : Int32)) else (((p0.toUInt32 >>> ((8 : Int32) &&& 31).toUInt32).toInt32) &&& (255 : Int32)))), .unset, .unset, .unset, .unset, .unset, .unset, .unset] [(.int p2)])) _
    refine XS.bipush X0.here hx rfl (hb hby at_117) ?_
    show Steps p.tables e below (s₁.setTop (mkF m 119 #[.val (.int p0), .val (.int p1), .val (.int p2), .val (.int ((p2 &&& (3 : Int32)) % (3 : Int32))), .val (.int ((((p2.toUInt32 >>> ((2 : Int32) &&& 31).toUInt32).toInt32) &&& (3 : Int32)) % (3 : Int32))), .val (.int ((((p2.toUInt32 >>> ((4 : Int32) &&& 31).toUInt32).toInt32) &&& (3 : Int32)) % (3 : Int32))), .val (.int ((((p2.toUInt32 >>> ((6 : Int32) &&& 31).toUInt32).toInt32) &&& (3 : Int32)) % (3 : Int32))), .val (.int (p0 &&& (255 : Int32))), .val (.int (((p0.toUInt32 >>> ((8 : Int32) &&& 31).toUInt32).toInt32) &&& (255 : Int32))), .val (.int (((p0.toUInt32 >>> ((16 : Int32) &&& 31).toUInt32).toInt32) &&& (255 : Int32))), .val (.int (((p0.toUInt32 >>> ((24 : Int32) &&& 31).toUInt32).toInt32) &&& (255 : Int32))), .val (.int (if (((p2.toUInt32 >>> ((8 : Int32) &&& 31).toUInt32).toInt32) &&& (1 : Int32)) = (0 : Int32) then (p1 &&& (255 : Int32)) else (p0 &&& (255 : Int32)))), .val (.int (if (((p2.toUInt32 >>> ((9 : Int32) &&& 31).toUInt32).toInt32) &&& (1 : Int32)) = (0 : Int32) then (((p1.toUInt32 >>> ((8 : Int32) &&& 31).toUInt32).toInt32) &&& (255 : Int32)) else (((p0.toUInt32 >>> ((8 : Int32) &&& 31).toUInt32).toInt32) &&& (255 : Int32)))), .unset, .unset, .unset, .unset, .unset, .unset, .unset] [(.int (10 : Int32)), (.int p2)])) _
    refine XS.iushr X0.here hx rfl (hb hby at_119) rfl ?_
    show Steps p.tables e below (s₁.setTop (mkF m 120 #[.val (.int p0), .val (.int p1), .val (.int p2), .val (.int ((p2 &&& (3 : Int32)) % (3 : Int32))), .val (.int ((((p2.toUInt32 >>> ((2 : Int32) &&& 31).toUInt32).toInt32) &&& (3 : Int32)) % (3 : Int32))), .val (.int ((((p2.toUInt32 >>> ((4 : Int32) &&& 31).toUInt32).toInt32) &&& (3 : Int32)) % (3 : Int32))), .val (.int ((((p2.toUInt32 >>> ((6 : Int32) &&& 31).toUInt32).toInt32) &&& (3 : Int32)) % (3 : Int32))), .val (.int (p0 &&& (255 : Int32))), .val (.int (((p0.toUInt32 >>> ((8 : Int32) &&& 31).toUInt32).toInt32) &&& (255 : Int32))), .val (.int (((p0.toUInt32 >>> ((16 : Int32) &&& 31).toUInt32).toInt32) &&& (255 : Int32))), .val (.int (((p0.toUInt32 >>> ((24 : Int32) &&& 31).toUInt32).toInt32) &&& (255 : Int32))), .val (.int (if (((p2.toUInt32 >>> ((8 : Int32) &&& 31).toUInt32).toInt32) &&& (1 : Int32)) = (0 : Int32) then (p1 &&& (255 : Int32)) else (p0 &&& (255 : Int32)))), .val (.int (if (((p2.toUInt32 >>> ((9 : Int32) &&& 31).toUInt32).toInt32) &&& (1 : Int32)) = (0 : Int32) then (((p1.toUInt32 >>> ((8 : Int32) &&& 31).toUInt32).toInt32) &&& (255 : Int32)) else (((p0.toUInt32 >>> ((8 : Int32) &&& 31).toUInt32).toInt32) &&& (255 : Int32)))), .unset, .unset, .unset, .unset, .unset, .unset, .unset] [(.int ((p2.toUInt32 >>> ((10 : Int32) &&& 31).toUInt32).toInt32))])) _
    refine XS.iconst X0.here hx rfl (hb hby at_120) ?_
    show Steps p.tables e below (s₁.setTop (mkF m 121 #[.val (.int p0), .val (.int p1), .val (.int p2), .val (.int ((p2 &&& (3 : Int32)) % (3 : Int32))), .val (.int ((((p2.toUInt32 >>> ((2 : Int32) &&& 31).toUInt32).toInt32) &&& (3 : Int32)) % (3 : Int32))), .val (.int ((((p2.toUInt32 >>> ((4 : Int32) &&& 31).toUInt32).toInt32) &&& (3 : Int32)) % (3 : Int32))), .val (.int ((((p2.toUInt32 >>> ((6 : Int32) &&& 31).toUInt32).toInt32) &&& (3 : Int32)) % (3 : Int32))), .val (.int (p0 &&& (255 : Int32))), .val (.int (((p0.toUInt32 >>> ((8 : Int32) &&& 31).toUInt32).toInt32) &&& (255 : Int32))), .val (.int (((p0.toUInt32 >>> ((16 : Int32) &&& 31).toUInt32).toInt32) &&& (255 : Int32))), .val (.int (((p0.toUInt32 >>> ((24 : Int32) &&& 31).toUInt32).toInt32) &&& (255 : Int32))), .val (.int (if (((p2.toUInt32 >>> ((8 : Int32) &&& 31).toUInt32).toInt32) &&& (1 : Int32)) = (0 : Int32) then (p1 &&& (255 : Int32)) else (p0 &&& (255 : Int32)))), .val (.int (if (((p2.toUInt32 >>> ((9 : Int32) &&& 31).toUInt32).toInt32) &&& (1 : Int32)) = (0 : Int32) then (((p1.toUInt32 >>> ((8 : Int32) &&& 31).toUInt32).toInt32) &&& (255 : Int32)) else (((p0.toUInt32 >>> ((8 : Int32) &&& 31).toUInt32).toInt32) &&& (255 : Int32)))), .unset, .unset, .unset, .unset, .unset, .unset, .unset] [(.int (1 : Int32)), (.int ((p2.toUInt32 >>> ((10 : Int32) &&& 31).toUInt32).toInt32))])) _
    refine XS.iand X0.here hx rfl (hb hby at_121) rfl ?_
    exact k
  have pre6 : ∀ t, Steps p.tables e below (s₁.setTop (mkF m 138 #[.val (.int p0), .val (.int p1), .val (.int p2), .val (.int ((p2 &&& (3 : Int32)) % (3 : Int32))), .val (.int ((((p2.toUInt32 >>> ((2 : Int32) &&& 31).toUInt32).toInt32) &&& (3 : Int32)) % (3 : Int32))), .val (.int ((((p2.toUInt32 >>> ((4 : Int32) &&& 31).toUInt32).toInt32) &&& (3 : Int32)) % (3 : Int32))), .val (.int ((((p2.toUInt32 >>> ((6 : Int32) &&& 31).toUInt32).toInt32) &&& (3 : Int32)) % (3 : Int32))), .val (.int (p0 &&& (255 : Int32))), .val (.int (((p0.toUInt32 >>> ((8 : Int32) &&& 31).toUInt32).toInt32) &&& (255 : Int32))), .val (.int (((p0.toUInt32 >>> ((16 : Int32) &&& 31).toUInt32).toInt32) &&& (255 : Int32))), .val (.int (((p0.toUInt32 >>> ((24 : Int32) &&& 31).toUInt32).toInt32) &&& (255 : Int32))), .val (.int (if (((p2.toUInt32 >>> ((8 : Int32) &&& 31).toUInt32).toInt32) &&& (1 : Int32)) = (0 : Int32) then (p1 &&& (255 : Int32)) else (p0 &&& (255 : Int32)))), .val (.int (if (((p2.toUInt32 >>> ((9 : Int32) &&& 31).toUInt32).toInt32) &&& (1 : Int32)) = (0 : Int32) then (((p1.toUInt32 >>> ((8 : Int32) &&& 31).toUInt32).toInt32) &&& (255 : Int32)) else (((p0.toUInt32 >>> ((8 : Int32) &&& 31).toUInt32).toInt32) &&& (255 : Int32)))), .unset, .unset, .unset, .unset, .unset, .unset, .unset] [(.int (if (((p2.toUInt32 >>> ((10 : Int32) &&& 31).toUInt32).toInt32) &&& (1 : Int32)) = (0 : Int32) then (((p1.toUInt32 >>> ((16 : Int32) &&& 31).toUInt32).toInt32) &&& (255 : Int32)) else (((p0.toUInt32 >>> ((16 : Int32) &&& 31).toUInt32).toInt32) &&& (255 : Int32))))])) t → Steps p.tables e below (s₁.setTop (entryFrame m #[(.int p0), (.int p1), (.int p2)] maxLocals)) t := by
    intro t k
    refine pre5 _ ?_
    by_cases hm6 : (((p2.toUInt32 >>> ((10 : Int32) &&& 31).toUInt32).toInt32) &&& (1 : Int32)) = (0 : Int32)
    · rw [if_pos hm6] at k
      show Steps p.tables e below (s₁.setTop (mkF m 122 #[.val (.int p0), .val (.int p1), .val (.int p2), .val (.int ((p2 &&& (3 : Int32)) % (3 : Int32))), .val (.int ((((p2.toUInt32 >>> ((2 : Int32) &&& 31).toUInt32).toInt32) &&& (3 : Int32)) % (3 : Int32))), .val (.int ((((p2.toUInt32 >>> ((4 : Int32) &&& 31).toUInt32).toInt32) &&& (3 : Int32)) % (3 : Int32))), .val (.int ((((p2.toUInt32 >>> ((6 : Int32) &&& 31).toUInt32).toInt32) &&& (3 : Int32)) % (3 : Int32))), .val (.int (p0 &&& (255 : Int32))), .val (.int (((p0.toUInt32 >>> ((8 : Int32) &&& 31).toUInt32).toInt32) &&& (255 : Int32))), .val (.int (((p0.toUInt32 >>> ((16 : Int32) &&& 31).toUInt32).toInt32) &&& (255 : Int32))), .val (.int (((p0.toUInt32 >>> ((24 : Int32) &&& 31).toUInt32).toInt32) &&& (255 : Int32))), .val (.int (if (((p2.toUInt32 >>> ((8 : Int32) &&& 31).toUInt32).toInt32) &&& (1 : Int32)) = (0 : Int32) then (p1 &&& (255 : Int32)) else (p0 &&& (255 : Int32)))), .val (.int (if (((p2.toUInt32 >>> ((9 : Int32) &&& 31).toUInt32).toInt32) &&& (1 : Int32)) = (0 : Int32) then (((p1.toUInt32 >>> ((8 : Int32) &&& 31).toUInt32).toInt32) &&& (255 : Int32)) else (((p0.toUInt32 >>> ((8 : Int32) &&& 31).toUInt32).toInt32) &&& (255 : Int32)))), .unset, .unset, .unset, .unset, .unset, .unset, .unset] [(.int (((p2.toUInt32 >>> ((10 : Int32) &&& 31).toUInt32).toInt32) &&& (1 : Int32)))])) _
      refine XS.ifYes X0.here hx rfl (pc0 := 122) (pc' := 130) rfl (hb hby at_122) rfl ((if0 _ _).trans (teq hm6).1) (by decide) (by decide) ?_
      show Steps p.tables e below (s₁.setTop (mkF m 130 #[.val (.int p0), .val (.int p1), .val (.int p2), .val (.int ((p2 &&& (3 : Int32)) % (3 : Int32))), .val (.int ((((p2.toUInt32 >>> ((2 : Int32) &&& 31).toUInt32).toInt32) &&& (3 : Int32)) % (3 : Int32))), .val (.int ((((p2.toUInt32 >>> ((4 : Int32) &&& 31).toUInt32).toInt32) &&& (3 : Int32)) % (3 : Int32))), .val (.int ((((p2.toUInt32 >>> ((6 : Int32) &&& 31).toUInt32).toInt32) &&& (3 : Int32)) % (3 : Int32))), .val (.int (p0 &&& (255 : Int32))), .val (.int (((p0.toUInt32 >>> ((8 : Int32) &&& 31).toUInt32).toInt32) &&& (255 : Int32))), .val (.int (((p0.toUInt32 >>> ((16 : Int32) &&& 31).toUInt32).toInt32) &&& (255 : Int32))), .val (.int (((p0.toUInt32 >>> ((24 : Int32) &&& 31).toUInt32).toInt32) &&& (255 : Int32))), .val (.int (if (((p2.toUInt32 >>> ((8 : Int32) &&& 31).toUInt32).toInt32) &&& (1 : Int32)) = (0 : Int32) then (p1 &&& (255 : Int32)) else (p0 &&& (255 : Int32)))), .val (.int (if (((p2.toUInt32 >>> ((9 : Int32) &&& 31).toUInt32).toInt32) &&& (1 : Int32)) = (0 : Int32) then (((p1.toUInt32 >>> ((8 : Int32) &&& 31).toUInt32).toInt32) &&& (255 : Int32)) else (((p0.toUInt32 >>> ((8 : Int32) &&& 31).toUInt32).toInt32) &&& (255 : Int32)))), .unset, .unset, .unset, .unset, .unset, .unset, .unset] [])) _
      refine XS.iloadN X0.here hx rfl (hb hby at_130) rfl ?_
      show Steps p.tables e below (s₁.setTop (mkF m 131 #[.val (.int p0), .val (.int p1), .val (.int p2), .val (.int ((p2 &&& (3 : Int32)) % (3 : Int32))), .val (.int ((((p2.toUInt32 >>> ((2 : Int32) &&& 31).toUInt32).toInt32) &&& (3 : Int32)) % (3 : Int32))), .val (.int ((((p2.toUInt32 >>> ((4 : Int32) &&& 31).toUInt32).toInt32) &&& (3 : Int32)) % (3 : Int32))), .val (.int ((((p2.toUInt32 >>> ((6 : Int32) &&& 31).toUInt32).toInt32) &&& (3 : Int32)) % (3 : Int32))), .val (.int (p0 &&& (255 : Int32))), .val (.int (((p0.toUInt32 >>> ((8 : Int32) &&& 31).toUInt32).toInt32) &&& (255 : Int32))), .val (.int (((p0.toUInt32 >>> ((16 : Int32) &&& 31).toUInt32).toInt32) &&& (255 : Int32))), .val (.int (((p0.toUInt32 >>> ((24 : Int32) &&& 31).toUInt32).toInt32) &&& (255 : Int32))), .val (.int (if (((p2.toUInt32 >>> ((8 : Int32) &&& 31).toUInt32).toInt32) &&& (1 : Int32)) = (0 : Int32) then (p1 &&& (255 : Int32)) else (p0 &&& (255 : Int32)))), .val (.int (if (((p2.toUInt32 >>> ((9 : Int32) &&& 31).toUInt32).toInt32) &&& (1 : Int32)) = (0 : Int32) then (((p1.toUInt32 >>> ((8 : Int32) &&& 31).toUInt32).toInt32) &&& (255 : Int32)) else (((p0.toUInt32 >>> ((8 : Int32) &&& 31).toUInt32).toInt32) &&& (255 : Int32)))), .unset, .unset, .unset, .unset, .unset, .unset, .unset] [(.int p1)])) _
      refine XS.bipush X0.here hx rfl (hb hby at_131) ?_
      show Steps p.tables e below (s₁.setTop (mkF m 133 #[.val (.int p0), .val (.int p1), .val (.int p2), .val (.int ((p2 &&& (3 : Int32)) % (3 : Int32))), .val (.int ((((p2.toUInt32 >>> ((2 : Int32) &&& 31).toUInt32).toInt32) &&& (3 : Int32)) % (3 : Int32))), .val (.int ((((p2.toUInt32 >>> ((4 : Int32) &&& 31).toUInt32).toInt32) &&& (3 : Int32)) % (3 : Int32))), .val (.int ((((p2.toUInt32 >>> ((6 : Int32) &&& 31).toUInt32).toInt32) &&& (3 : Int32)) % (3 : Int32))), .val (.int (p0 &&& (255 : Int32))), .val (.int (((p0.toUInt32 >>> ((8 : Int32) &&& 31).toUInt32).toInt32) &&& (255 : Int32))), .val (.int (((p0.toUInt32 >>> ((16 : Int32) &&& 31).toUInt32).toInt32) &&& (255 : Int32))), .val (.int (((p0.toUInt32 >>> ((24 : Int32) &&& 31).toUInt32).toInt32) &&& (255 : Int32))), .val (.int (if (((p2.toUInt32 >>> ((8 : Int32) &&& 31).toUInt32).toInt32) &&& (1 : Int32)) = (0 : Int32) then (p1 &&& (255 : Int32)) else (p0 &&& (255 : Int32)))), .val (.int (if (((p2.toUInt32 >>> ((9 : Int32) &&& 31).toUInt32).toInt32) &&& (1 : Int32)) = (0 : Int32) then (((p1.toUInt32 >>> ((8 : Int32) &&& 31).toUInt32).toInt32) &&& (255 : Int32)) else (((p0.toUInt32 >>> ((8 : Int32) &&& 31).toUInt32).toInt32) &&& (255 : Int32)))), .unset, .unset, .unset, .unset, .unset, .unset, .unset] [(.int (16 : Int32)), (.int p1)])) _
      refine XS.iushr X0.here hx rfl (hb hby at_133) rfl ?_
      show Steps p.tables e below (s₁.setTop (mkF m 134 #[.val (.int p0), .val (.int p1), .val (.int p2), .val (.int ((p2 &&& (3 : Int32)) % (3 : Int32))), .val (.int ((((p2.toUInt32 >>> ((2 : Int32) &&& 31).toUInt32).toInt32) &&& (3 : Int32)) % (3 : Int32))), .val (.int ((((p2.toUInt32 >>> ((4 : Int32) &&& 31).toUInt32).toInt32) &&& (3 : Int32)) % (3 : Int32))), .val (.int ((((p2.toUInt32 >>> ((6 : Int32) &&& 31).toUInt32).toInt32) &&& (3 : Int32)) % (3 : Int32))), .val (.int (p0 &&& (255 : Int32))), .val (.int (((p0.toUInt32 >>> ((8 : Int32) &&& 31).toUInt32).toInt32) &&& (255 : Int32))), .val (.int (((p0.toUInt32 >>> ((16 : Int32) &&& 31).toUInt32).toInt32) &&& (255 : Int32))), .val (.int (((p0.toUInt32 >>> ((24 : Int32) &&& 31).toUInt32).toInt32) &&& (255 : Int32))), .val (.int (if (((p2.toUInt32 >>> ((8 : Int32) &&& 31).toUInt32).toInt32) &&& (1 : Int32)) = (0 : Int32) then (p1 &&& (255 : Int32)) else (p0 &&& (255 : Int32)))), .val (.int (if (((p2.toUInt32 >>> ((9 : Int32) &&& 31).toUInt32).toInt32) &&& (1 : Int32)) = (0 : Int32) then (((p1.toUInt32 >>> ((8 : Int32) &&& 31).toUInt32).toInt32) &&& (255 : Int32)) else (((p0.toUInt32 >>> ((8 : Int32) &&& 31).toUInt32).toInt32) &&& (255 : Int32)))), .unset, .unset, .unset, .unset, .unset, .unset, .unset] [(.int ((p1.toUInt32 >>> ((16 : Int32) &&& 31).toUInt32).toInt32))])) _
      refine XS.sipush X0.here hx rfl (hb hby at_134) ?_
      show Steps p.tables e below (s₁.setTop (mkF m 137 #[.val (.int p0), .val (.int p1), .val (.int p2), .val (.int ((p2 &&& (3 : Int32)) % (3 : Int32))), .val (.int ((((p2.toUInt32 >>> ((2 : Int32) &&& 31).toUInt32).toInt32) &&& (3 : Int32)) % (3 : Int32))), .val (.int ((((p2.toUInt32 >>> ((4 : Int32) &&& 31).toUInt32).toInt32) &&& (3 : Int32)) % (3 : Int32))), .val (.int ((((p2.toUInt32 >>> ((6 : Int32) &&& 31).toUInt32).toInt32) &&& (3 : Int32)) % (3 : Int32))), .val (.int (p0 &&& (255 : Int32))), .val (.int (((p0.toUInt32 >>> ((8 : Int32) &&& 31).toUInt32).toInt32) &&& (255 : Int32))), .val (.int (((p0.toUInt32 >>> ((16 : Int32) &&& 31).toUInt32).toInt32) &&& (255 : Int32))), .val (.int (((p0.toUInt32 >>> ((24 : Int32) &&& 31).toUInt32).toInt32) &&& (255 : Int32))), .val (.int (if (((p2.toUInt32 >>> ((8 : Int32) &&& 31).toUInt32).toInt32) &&& (1 : Int32)) = (0 : Int32) then (p1 &&& (255 : Int32)) else (p0 &&& (255 : Int32)))), .val (.int (if (((p2.toUInt32 >>> ((9 : Int32) &&& 31).toUInt32).toInt32) &&& (1 : Int32)) = (0 : Int32) then (((p1.toUInt32 >>> ((8 : Int32) &&& 31).toUInt32).toInt32) &&& (255 : Int32)) else (((p0.toUInt32 >>> ((8 : Int32) &&& 31).toUInt32).toInt32) &&& (255 : Int32)))), .unset, .unset, .unset, .unset, .unset, .unset, .unset] [(.int (255 : Int32)), (.int ((p1.toUInt32 >>> ((16 : Int32) &&& 31).toUInt32).toInt32))])) _
      refine XS.iand X0.here hx rfl (hb hby at_137) rfl ?_
      exact k
    · rw [if_neg hm6] at k
      show Steps p.tables e below (s₁.setTop (mkF m 122 #[.val (.int p0), .val (.int p1), .val (.int p2), .val (.int ((p2 &&& (3 : Int32)) % (3 : Int32))), .val (.int ((((p2.toUInt32 >>> ((2 : Int32) &&& 31).toUInt32).toInt32) &&& (3 : Int32)) % (3 : Int32))), .val (.int ((((p2.toUInt32 >>> ((4 : Int32) &&& 31).toUInt32).toInt32) &&& (3 : Int32)) % (3 : Int32))), .val (.int ((((p2.toUInt32 >>> ((6 : Int32) &&& 31).toUInt32).toInt32) &&& (3 : Int32)) % (3 : Int32))), .val (.int (p0 &&& (255 : Int32))), .val (.int (((p0.toUInt32 >>> ((8 : Int32) &&& 31).toUInt32).toInt32) &&& (255 : Int32))), .val (.int (((p0.toUInt32 >>> ((16 : Int32) &&& 31).toUInt32).toInt32) &&& (255 : Int32))), .val (.int (((p0.toUInt32 >>> ((24 : Int32) &&& 31).toUInt32).toInt32) &&& (255 : Int32))), .val (.int (if (((p2.toUInt32 >>> ((8 : Int32) &&& 31).toUInt32).toInt32) &&& (1 : Int32)) = (0 : Int32) then (p1 &&& (255 : Int32)) else (p0 &&& (255 : Int32)))), .val (.int (if (((p2.toUInt32 >>> ((9 : Int32) &&& 31).toUInt32).toInt32) &&& (1 : Int32)) = (0 : Int32) then (((p1.toUInt32 >>> ((8 : Int32) &&& 31).toUInt32).toInt32) &&& (255 : Int32)) else (((p0.toUInt32 >>> ((8 : Int32) &&& 31).toUInt32).toInt32) &&& (255 : Int32)))), .unset, .unset, .unset, .unset, .unset, .unset, .unset] [(.int (((p2.toUInt32 >>> ((10 : Int32) &&& 31).toUInt32).toInt32) &&& (1 : Int32)))])) _
      refine XS.ifNo X0.here hx rfl (hb hby at_122) rfl ((if0 _ _).trans (feq hm6).1) ?_
      show Steps p.tables e below (s₁.setTop (mkF m 125 #[.val (.int p0), .val (.int p1), .val (.int p2), .val (.int ((p2 &&& (3 : Int32)) % (3 : Int32))), .val (.int ((((p2.toUInt32 >>> ((2 : Int32) &&& 31).toUInt32).toInt32) &&& (3 : Int32)) % (3 : Int32))), .val (.int ((((p2.toUInt32 >>> ((4 : Int32) &&& 31).toUInt32).toInt32) &&& (3 : Int32)) % (3 : Int32))), .val (.int ((((p2.toUInt32 >>> ((6 : Int32) &&& 31).toUInt32).toInt32) &&& (3 : Int32)) % (3 : Int32))), .val (.int (p0 &&& (255 : Int32))), .val (.int (((p0.toUInt32 >>> ((8 : Int32) &&& 31).toUInt32).toInt32) &&& (255 : Int32))), .val (.int (((p0.toUInt32 >>> ((16 : Int32) &&& 31).toUInt32).toInt32) &&& (255 : Int32))), .val (.int (((p0.toUInt32 >>> ((24 : Int32) &&& 31).toUInt32).toInt32) &&& (255 : Int32))), .val (.int (if (((p2.toUInt32 >>> ((8 : Int32) &&& 31).toUInt32).toInt32) &&& (1 : Int32)) = (0 : Int32) then (p1 &&& (255 : Int32)) else (p0 &&& (255 : Int32)))), .val (.int (if (((p2.toUInt32 >>> ((9 : Int32) &&& 31).toUInt32).toInt32) &&& (1 : Int32)) = (0 : Int32) then (((p1.toUInt32 >>> ((8 : Int32) &&& 31).toUInt32).toInt32) &&& (255 : Int32)) else (((p0.toUInt32 >>> ((8 : Int32) &&& 31).toUInt32).toInt32) &&& (255 : Int32)))), .unset, .unset, .unset, .unset, .unset, .unset, .unset] [])) _
      refine XS.iload X0.here hx rfl (hb hby at_125) rfl ?_
      show Steps p.tables e below (s₁.setTop (mkF m 127 #[.val (.int p0), .val (.int p1), .val (.int p2), .val (.int ((p2 &&& (3 : Int32)) % (3 : Int32))), .val (.int ((((p2.toUInt32 >>> ((2 : Int32) &&& 31).toUInt32).toInt32) &&& (3 : Int32)) % (3 : Int32))), .val (.int ((((p2.toUInt32 >>> ((4 : Int32) &&& 31).toUInt32).toInt32) &&& (3 : Int32)) % (3 : Int32))), .val (.int ((((p2.toUInt32 >>> ((6 : Int32) &&& 31).toUInt32).toInt32) &&& (3 : Int32)) % (3 : Int32))), .val (.int (p0 &&& (255 : Int32))), .val (.int (((p0.toUInt32 >>> ((8 : Int32) &&& 31).toUInt32).toInt32) &&& (255 : Int32))), .val (.int (((p0.toUInt32 >>> ((16 : Int32) &&& 31).toUInt32).toInt32) &&& (255 : Int32))), .val (.int (((p0.toUInt32 >>> ((24 : Int32) &&& 31).toUInt32).toInt32) &&& (255 : Int32))), .val (.int (if (((p2.toUInt32 >>> ((8 : Int32) &&& 31).toUInt32).toInt32) &&& (1 : Int32)) = (0 : Int32) then (p1 &&& (255 : Int32)) else (p0 &&& (255 : Int32)))), .val (.int (if (((p2.toUInt32 >>> ((9 : Int32) &&& 31).toUInt32).toInt32) &&& (1 : Int32)) = (0 : Int32) then (((p1.toUInt32 >>> ((8 : Int32) &&& 31).toUInt32).toInt32) &&& (255 : Int32)) else (((p0.toUInt32 >>> ((8 : Int32) &&& 31).toUInt32).toInt32) &&& (255 : Int32)))), .unset, .unset, .unset, .unset, .unset, .unset, .unset] [(.int (((p0.toUInt32 >>> ((16 : Int32) &&& 31).toUInt32).toInt32) &&& (255 : Int32)))])) _
      refine XS.goto X0.here hx rfl (pc0 := 127) (pc' := 138) rfl (hb hby at_127) (by decide) (by decide) ?_
      exact k
  have pre7 : ∀ t, Steps p.tables e below (s₁.setTop (mkF m 146 #[.val (.int p0), .val (.int p1), .val (.int p2), .val (.int ((p2 &&& (3 : Int32)) % (3 : Int32))), .val (.int ((((p2.toUInt32 >>> ((2 : Int32) &&& 31).toUInt32).toInt32) &&& (3 : Int32)) % (3 : Int32))), .val (.int ((((p2.toUInt32 >>> ((4 : Int32) &&& 31).toUInt32).toInt32) &&& (3 : Int32)) % (3 : Int32))), .val (.int ((((p2.toUInt32 >>> ((6 : Int32) &&& 31).toUInt32).toInt32) &&& (3 : Int32)) % (3 : Int32))), .val (.int (p0 &&& (255 : Int32))), .val (.int (((p0.toUInt32 >>> ((8 : Int32) &&& 31).toUInt32).toInt32) &&& (255 : Int32))), .val (.int (((p0.toUInt32 >>> ((16 : Int32) &&& 31).toUInt32).toInt32) &&& (255 : Int32))), .val (.int (((p0.toUInt32 >>> ((24 : Int32) &&& 31).toUInt32).toInt32) &&& (255 : Int32))), .val (.int (if (((p2.toUInt32 >>> ((8 : Int32) &&& 31).toUInt32).toInt32) &&& (1 : Int32)) = (0 : Int32) then (p1 &&& (255 : Int32)) else (p0 &&& (255 : Int32)))), .val (.int (if (((p2.toUInt32 >>> ((9 : Int32) &&& 31).toUInt32).toInt32) &&& (1 : Int32)) = (0 : Int32) then (((p1.toUInt32 >>> ((8 : Int32) &&& 31).toUInt32).toInt32) &&& (255 : Int32)) else (((p0.toUInt32 >>> ((8 : Int32) &&& 31).toUInt32).toInt32) &&& (255 : Int32)))), .val (.int (if (((p2.toUInt32 >>> ((10 : Int32) &&& 31).toUInt32).toInt32) &&& (1 : Int32)) = (0 : Int32) then (((p1.toUInt32 >>> ((16 : Int32) &&& 31).toUInt32).toInt32) &&& (255 : Int32)) else (((p0.toUInt32 >>> ((16 : Int32) &&& 31).toUInt32).toInt32) &&& (255 : Int32)))), .unset, .unset, .unset, .unset, .unset, .unset] [(.int (((p2.toUInt32 >>> ((11 : Int32) &&& 31).toUInt32).toInt32) &&& (1 : Int32)))])) t → Steps p.tables e below (s₁.setTop (entryFrame m #[(.int p0), (.int p1), (.int p2)] maxLocals)) t := by
    intro t k
    refine pre6 _ ?_
    show Steps p.tables e below (s₁.setTop (mkF m 138 #[.val (.int p0), .val (.int p1), .val (.int p2), .val (.int ((p2 &&& (3 : Int32)) % (3 : Int32))), .val (.int ((((p2.toUInt32 >>> ((2 : Int32) &&& 31).toUInt32).toInt32) &&& (3 : Int32)) % (3 : Int32))), .val (.int ((((p2.toUInt32 >>> ((4 : Int32) &&& 31).toUInt32).toInt32) &&& (3 : Int32)) % (3 : Int32))), .val (.int ((((p2.toUInt32 >>> ((6 : Int32) &&& 31).toUInt32).toInt32) &&& (3 : Int32)) % (3 : Int32))), .val (.int (p0 &&& (255 : Int32))), .val (.int (((p0.toUInt32 >>> ((8 : Int32) &&& 31).toUInt32).toInt32) &&& (255 : Int32))), .val (.int (((p0.toUInt32 >>> ((16 : Int32) &&& 31).toUInt32).toInt32) &&& (255 : Int32))), .val (.int (((p0.toUInt32 >>> ((24 : Int32) &&& 31).toUInt32).toInt32) &&& (255 : Int32))), .val (.int (if (((p2.toUInt32 >>> ((8 : Int32) &&& 31).toUInt32).toInt32) &&& (1 : Int32)) = (0 : Int32) then (p1 &&& (255 : Int32)) else (p0 &&& (255 : Int32)))), .val (.int (if (((p2.toUInt32 >>> ((9 : Int32) &&& 31).toUInt32).toInt32) &&& (1 : Int32)) = (0 : Int32) then (((p1.toUInt32 >>> ((8 : Int32) &&& 31).toUInt32).toInt32) &&& (255 : Int32)) else (((p0.toUInt32 >>> ((8 : Int32) &&& 31).toUInt32).toInt32) &&& (255 : Int32)))), .unset, .unset, .unset, .unset, .unset, .unset, .unset] [(.int (if (((p2.toUInt32 >>> ((10 : Int32) &&& 31).toUInt32).toInt32) &&& (1 : Int32)) = (0 : Int32) then (((p1.toUInt32 >>> ((16 : Int32) &&& 31).toUInt32).toInt32) &&& (255 : Int32)) else (((p0.toUInt32 >>> ((16 : Int32) &&& 31).toUInt32).toInt32) &&& (255 : Int32))))])) _
    refine XS.istore X0.here hx rfl (hb hby at_138) rfl (l' := #[.val (.int p0), .val (.int p1), .val (.int p2), .val (.int ((p2 &&& (3 : Int32)) % (3 : Int32))), .val (.int ((((p2.toUInt32 >>> ((2 : Int32) &&& 31).toUInt32).toInt32) &&& (3 : Int32)) % (3 : Int32))), .val (.int ((((p2.toUInt32 >>> ((4 : Int32) &&& 31).toUInt32).toInt32) &&& (3 : Int32)) % (3 : Int32))), .val (.int ((((p2.toUInt32 >>> ((6 : Int32) &&& 31).toUInt32).toInt32) &&& (3 : Int32)) % (3 : Int32))), .val (.int (p0 &&& (255 : Int32))), .val (.int (((p0.toUInt32 >>> ((8 : Int32) &&& 31).toUInt32).toInt32) &&& (255 : Int32))), .val (.int (((p0.toUInt32 >>> ((16 : Int32) &&& 31).toUInt32).toInt32) &&& (255 : Int32))), .val (.int (((p0.toUInt32 >>> ((24 : Int32) &&& 31).toUInt32).toInt32) &&& (255 : Int32))), .val (.int (if (((p2.toUInt32 >>> ((8 : Int32) &&& 31).toUInt32).toInt32) &&& (1 : Int32)) = (0 : Int32) then (p1 &&& (255 : Int32)) else (p0 &&& (255 : Int32)))), .val (.int (if (((p2.toUInt32 >>> ((9 : Int32) &&& 31).toUInt32).toInt32) &&& (1 : Int32)) = (0 : Int32) then (((p1.toUInt32 >>> ((8 : Int32) &&& 31).toUInt32).toInt32) &&& (255 : Int32)) else (((p0.toUInt32 >>> ((8 : Int32) &&& 31).toUInt32).toInt32) &&& (255 : Int32)))), .val (.int (if (((p2.toUInt32 >>> ((10 : Int32) &&& 31).toUInt32).toInt32) &&& (1 : Int32)) = (0 : Int32) then (((p1.toUInt32 >>> ((16 : Int32) &&& 31).toUInt32).toInt32) &&& (255 : Int32)) else (((p0.toUInt32 >>> ((16 : Int32) &&& 31).toUInt32).toInt32) &&& (255 : Int32)))), .unset, .unset, .unset, .unset, .unset, .unset]) rfl ?_
    show Steps p.tables e below (s₁.setTop (mkF m 140 #[.val (.int p0), .val (.int p1), .val (.int p2), .val (.int ((p2 &&& (3 : Int32)) % (3 : Int32))), .val (.int ((((p2.toUInt32 >>> ((2 : Int32) &&& 31).toUInt32).toInt32) &&& (3 : Int32)) % (3 : Int32))), .val (.int ((((p2.toUInt32 >>> ((4 : Int32) &&& 31).toUInt32).toInt32) &&& (3 : Int32)) % (3 : Int32))), .val (.int ((((p2.toUInt32 >>> ((6 : Int32) &&& 31).toUInt32).toInt32) &&& (3 : Int32)) % (3 : Int32))), .val (.int (p0 &&& (255 : Int32))), .val (.int (((p0.toUInt32 >>> ((8 : Int32) &&& 31).toUInt32).toInt32) &&& (255 : Int32))), .val (.int (((p0.toUInt32 >>> ((16 : Int32) &&& 31).toUInt32).toInt32) &&& (255 : Int32))), .val (.int (((p0.toUInt32 >>> ((24 : Int32) &&& 31).toUInt32).toInt32) &&& (255 : Int32))), .val (.int (if (((p2.toUInt32 >>> ((8 : Int32) &&& 31).toUInt32).toInt32) &&& (1 : Int32)) = (0 : Int32) then (p1 &&& (255 : Int32)) else (p0 &&& (255 : Int32)))), .val (.int (if (((p2.toUInt32 >>> ((9 : Int32) &&& 31).toUInt32).toInt32) &&& (1 : Int32)) = (0 : Int32) then (((p1.toUInt32 >>> ((8 : Int32) &&& 31).toUInt32).toInt32) &&& (255 : Int32)) else (((p0.toUInt32 >>> ((8 : Int32) &&& 31).toUInt32).toInt32) &&& (255 : Int32)))), .val (.int (if (((p2.toUInt32 >>> ((10 : Int32) &&& 31).toUInt32).toInt32) &&& (1 : Int32)) = (0 : Int32) then (((p1.toUInt32 >>> ((16 : Int32) &&& 31).toUInt32).toInt32) &&& (255 : Int32)) else (((p0.toUInt32 >>> ((16 : Int32) &&& 31).toUInt32).toInt32) &&& (255 : Int32)))), .unset, .unset, .unset, .unset, .unset, .unset] [])) _
    refine XS.iloadN X0.here hx rfl (hb hby at_140) rfl ?_
    show Steps p.tables e below (s₁.setTop (mkF m 141 #[.val (.int p0), .val (.int p1), .val (.int p2), .val (.int ((p2 &&& (3 : Int32)) % (3 : Int32))), .val (.int ((((p2.toUInt32 >>> ((2 : Int32) &&& 31).toUInt32).toInt32) &&& (3 : Int32)) % (3 : Int32))), .val (.int ((((p2.toUInt32 >>> ((4 : Int32) &&& 31).toUInt32).toInt32) &&& (3 : Int32)) % (3 : Int32))), .val (.int ((((p2.toUInt32 >>> ((6 : Int32) &&& 31).toUInt32).toInt32) &&& (3 : Int32)) % (3 : Int32))), .val (.int (p0 &&& (255 : Int32))), .val (.int (((p0.toUInt32 >>> ((8 : Int32) &&& 31).toUInt32).toInt32) &&& (255 : Int32))), .val (.int (((p0.toUInt32 >>> ((16 : Int32) &&& 31).toUInt32).toInt32) &&& (255 : Int32))), .val (.int (((p0.toUInt32 >>> ((24 : Int32) &&& 31).toUInt32).toInt32) &&& (255 : Int32))), .val (.int (if (((p2.toUInt32 >>> ((8 : Int32) &&& 31).toUInt32).toInt32) &&& (1 : Int32)) = (0 : Int32) then (p1 &&& (255 : Int32)) else (p0 &&& (255 : Int32)))), .val (.int (if (((p2.toUInt32 >>> ((9 : Int32) &&& 31).toUInt32).toInt32) &&& (1 : Int32)) = (0 : Int32) then (((p1.toUInt32 >>> ((8 : Int32) &&& 31).toUInt32).toInt32) &&& (255 : Int32)) else (((p0.toUInt32 >>> ((8 : Int32) &&& 31).toUInt32).toInt32) &&& (255 : Int32)))), .val (.int (if (((p2.toUInt32 >>> ((10 : Int32) &&& 31).toUInt32).toInt32) &&& (1 : Int32)) = (0 : Int32) then (((p1.toUInt32 >>> ((16 : Int32) &&& 31).toUInt32).toInt32) &&& (255 : Int32)) else (((p0.toUInt32 >>> ((16 : Int32) &&& 31).toUInt32).toInt32) &&& (255 : Int32)))), .unset, .unset, .unset, .unset, .unset, .unset] [(.int p2)])) _
    refine XS.bipush X0.here hx rfl (hb hby at_141) ?_
    show Steps p.tables e below (s₁.setTop (mkF m 143 #[.val (.int p0), .val (.int p1), .val (.int p2), .val (.int ((p2 &&& (3 : Int32)) % (3 : Int32))), .val (.int ((((p2.toUInt32 >>> ((2 : Int32) &&& 31).toUInt32).toInt32) &&& (3 : Int32)) % (3 : Int32))), .val (.int ((((p2.toUInt32 >>> ((4 : Int32) &&& 31).toUInt32).toInt32) &&& (3 : Int32)) % (3 : Int32))), .val (.int ((((p2.toUInt32 >>> ((6 : Int32) &&& 31).toUInt32).toInt32) &&& (3 : Int32)) % (3 : Int32))), .val (.int (p0 &&& (255 : Int32))), .val (.int (((p0.toUInt32 >>> ((8 : Int32) &&& 31).toUInt32).toInt32) &&& (255 : Int32))), .val (.int (((p0.toUInt32 >>> ((16 : Int32) &&& 31).toUInt32).toInt32) &&& (255 : Int32))), .val (.int (((p0.toUInt32 >>> ((24 : Int32) &&& 31).toUInt32).toInt32) &&& (255 : Int32))), .val (.int (if (((p2.toUInt32 >>> ((8 : Int32) &&& 31).toUInt32).toInt32) &&& (1 : Int32)) = (0 : Int32) then (p1 &&& (255 : Int32)) else (p0 &&& (255 : Int32)))), .val (.int (if (((p2.toUInt32 >>> ((9 : Int32) &&& 31).toUInt32).toInt32) &&& (1 : Int32)) = (0 : Int32) then (((p1.toUInt32 >>> ((8 : Int32) &&& 31).toUInt32).toInt32) &&& (255 : Int32)) else (((p0.toUInt32 >>> ((8 : Int32) &&& 31).toUInt32).toInt32) &&& (255 : Int32)))), .val (.int (if (((p2.toUInt32 >>> ((10 : Int32) &&& 31).toUInt32).toInt32) &&& (1 : Int32)) = (0 : Int32) then (((p1.toUInt32 >>> ((16 : Int32) &&& 31).toUInt32).toInt32) &&& (255 : Int32)) else (((p0.toUInt32 >>> ((16 : Int32) &&& 31).toUInt32).toInt32) &&& (255 : Int32)))), .unset, .unset, .unset, .unset, .unset, .unset] [(.int (11 : Int32)), (.int p2)])) _
    refine XS.iushr X0.here hx rfl (hb hby at_143) rfl ?_
    show Steps p.tables e below (s₁.setTop (mkF m 144 #[.val (.int p0), .val (.int p1), .val (.int p2), .val (.int ((p2 &&& (3 : Int32)) % (3 : Int32))), .val (.int ((((p2.toUInt32 >>> ((2 : Int32) &&& 31).toUInt32).toInt32) &&& (3 : Int32)) % (3 : Int32))), .val (.int ((((p2.toUInt32 >>> ((4 : Int32) &&& 31).toUInt32).toInt32) &&& (3 : Int32)) % (3 : Int32))), .val (.int ((((p2.toUInt32 >>> ((6 : Int32) &&& 31).toUInt32).toInt32) &&& (3 : Int32)) % (3 : Int32))), .val (.int (p0 &&& (255 : Int32))), .val (.int (((p0.toUInt32 >>> ((8 : Int32) &&& 31).toUInt32).toInt32) &&& (255 : Int32))), .val (.int (((p0.toUInt32 >>> ((16 : Int32) &&& 31).toUInt32).toInt32) &&& (255 : Int32))), .val (.int (((p0.toUInt32 >>> ((24 : Int32) &&& 31).toUInt32).toInt32) &&& (255 : Int32))), .val (.int (if (((p2.toUInt32 >>> ((8 : Int32) &&& 31).toUInt32).toInt32) &&& (1 : Int32)) = (0 : Int32) then (p1 &&& (255 : Int32)) else (p0 &&& (255 : Int32)))), .val (.int (if (((p2.toUInt32 >>> ((9 : Int32) &&& 31).toUInt32).toInt32) &&& (1 : Int32)) = (0 : Int32) then (((p1.toUInt32 >>> ((8 : Int32) &&& 31).toUInt32).toInt32) &&& (255 : Int32)) else (((p0.toUInt32 >>> ((8 : Int32) &&& 31).toUInt32).toInt32) &&& (255 : Int32)))), .val (.int (if (((p2.toUInt32 >>> ((10 : Int32) &&& 31).toUInt32).toInt32) &&& (1 : Int32)) = (0 : Int32) then (((p1.toUInt32 >>> ((16 : Int32) &&& 31).toUInt32).toInt32) &&& (255 : Int32)) else (((p0.toUInt32 >>> ((16 : Int32) &&& 31).toUInt32).toInt32) &&& (255 : Int32)))), .unset, .unset, .unset, .unset, .unset, .unset] [(.int ((p2.toUInt32 >>> ((11 : Int32) &&& 31).toUInt32).toInt32))])) _
    refine XS.iconst X0.here hx rfl (hb hby at_144) ?_
    show Steps p.tables e below (s₁.setTop (mkF m 145 #[.val (.int p0), .val (.int p1), .val (.int p2), .val (.int ((p2 &&& (3 : Int32)) % (3 : Int32))), .val (.int ((((p2.toUInt32 >>> ((2 : Int32) &&& 31).toUInt32).toInt32) &&& (3 : Int32)) % (3 : Int32))), .val (.int ((((p2.toUInt32 >>> ((4 : Int32) &&& 31).toUInt32).toInt32) &&& (3 : Int32)) % (3 : Int32))), .val (.int ((((p2.toUInt32 >>> ((6 : Int32) &&& 31).toUInt32).toInt32) &&& (3 : Int32)) % (3 : Int32))), .val (.int (p0 &&& (255 : Int32))), .val (.int (((p0.toUInt32 >>> ((8 : Int32) &&& 31).toUInt32).toInt32) &&& (255 : Int32))), .val (.int (((p0.toUInt32 >>> ((16 : Int32) &&& 31).toUInt32).toInt32) &&& (255 : Int32))), .val (.int (((p0.toUInt32 >>> ((24 : Int32) &&& 31).toUInt32).toInt32) &&& (255 : Int32))), .val (.int (if (((p2.toUInt32 >>> ((8 : Int32) &&& 31).toUInt32).toInt32) &&& (1 : Int32)) = (0 : Int32) then (p1 &&& (255 : Int32)) else (p0 &&& (255 : Int32)))), .val (.int (if (((p2.toUInt32 >>> ((9 : Int32) &&& 31).toUInt32).toInt32) &&& (1 : Int32)) = (0 : Int32) then (((p1.toUInt32 >>> ((8 : Int32) &&& 31).toUInt32).toInt32) &&& (255 : Int32)) else (((p0.toUInt32 >>> ((8 : Int32) &&& 31).toUInt32).toInt32) &&& (255 : Int32)))), .val (.int (if (((p2.toUInt32 >>> ((10 : Int32) &&& 31).toUInt32).toInt32) &&& (1 : Int32)) = (0 : Int32) then (((p1.toUInt32 >>> ((16 : Int32) &&& 31).toUInt32).toInt32) &&& (255 : Int32)) else (((p0.toUInt32 >>> ((16 : Int32) &&& 31).toUInt32).toInt32) &&& (255 : Int32)))), .unset, .unset, .unset, .unset, .unset, .unset] [(.int (1 : Int32)), (.int ((p2.toUInt32 >>> ((11 : Int32) &&& 31).toUInt32).toInt32))])) _
    refine XS.iand X0.here hx rfl (hb hby at_145) rfl ?_
    exact k
  have pre8 : ∀ t, Steps p.tables e below (s₁.setTop (mkF m 162 #[.val (.int p0), .val (.int p1), .val (.int p2), .val (.int ((p2 &&& (3 : Int32)) % (3 : Int32))), .val (.int ((((p2.toUInt32 >>> ((2 : Int32) &&& 31).toUInt32).toInt32) &&& (3 : Int32)) % (3 : Int32))), .val (.int ((((p2.toUInt32 >>> ((4 : Int32) &&& 31).toUInt32).toInt32) &&& (3 : Int32)) % (3 : Int32))), .val (.int ((((p2.toUInt32 >>> ((6 : Int32) &&& 31).toUInt32).toInt32) &&& (3 : Int32)) % (3 : Int32))), .val (.int (p0 &&& (255 : Int32))), .val (.int (((p0.toUInt32 >>> ((8 : Int32) &&& 31).toUInt32).toInt32) &&& (255 : Int32))), .val (.int (((p0.toUInt32 >>> ((16 : Int32) &&& 31).toUInt32).toInt32) &&& (255 : Int32))), .val (.int (((p0.toUInt32 >>> ((24 : Int32) &&& 31).toUInt32).toInt32) &&& (255 : Int32))), .val (.int (if (((p2.toUInt32 >>> ((8 : Int32) &&& 31).toUInt32).toInt32) &&& (1 : Int32)) = (0 : Int32) then (p1 &&& (255 : Int32)) else (p0 &&& (255 : Int32)))), .val (.int (if (((p2.toUInt32 >>> ((9 : Int32) &&& 31).toUInt32).toInt32) &&& (1 : Int32)) = (0 : Int32) then (((p1.toUInt32 >>> ((8 : Int32) &&& 31).toUInt32).toInt32) &&& (255 : Int32)) else (((p0.toUInt32 >>> ((8 : Int32) &&& 31).toUInt32).toInt32) &&& (255 : Int32)))), .val (.int (if (((p2.toUInt32 >>> ((10 : Int32) &&& 31).toUInt32).toInt32) &&& (1 : Int32)) = (0 : Int32) then (((p1.toUInt32 >>> ((16 : Int32) &&& 31).toUInt32).toInt32) &&& (255 : Int32)) else (((p0.toUInt32 >>> ((16 : Int32) &&& 31).toUInt32).toInt32) &&& (255 : Int32)))), .unset, .unset, .unset, .unset, .unset, .unset] [(.int (if (((p2.toUInt32 >>> ((11 : Int32) &&& 31).toUInt32).toInt32) &&& (1 : Int32)) = (0 : Int32) then (((p1.toUInt32 >>> ((24 : Int32) &&& 31).toUInt32).toInt32) &&& (255 : Int32)) else (((p0.toUInt32 >>> ((24 : Int32) &&& 31).toUInt32).toInt32) &&& (255 : Int32))))])) t → Steps p.tables e below (s₁.setTop (entryFrame m #[(.int p0), (.int p1), (.int p2)] maxLocals)) t := by
    intro t k
    refine pre7 _ ?_
    by_cases hm8 : (((p2.toUInt32 >>> ((11 : Int32) &&& 31).toUInt32).toInt32) &&& (1 : Int32)) = (0 : Int32)
    · rw [if_pos hm8] at k
      show Steps p.tables e below (s₁.setTop (mkF m 146 #[.val (.int p0), .val (.int p1), .val (.int p2), .val (.int ((p2 &&& (3 : Int32)) % (3 : Int32))), .val (.int ((((p2.toUInt32 >>> ((2 : Int32) &&& 31).toUInt32).toInt32) &&& (3 : Int32)) % (3 : Int32))), .val (.int ((((p2.toUInt32 >>> ((4 : Int32) &&& 31).toUInt32).toInt32) &&& (3 : Int32)) % (3 : Int32))), .val (.int ((((p2.toUInt32 >>> ((6 : Int32) &&& 31).toUInt32).toInt32) &&& (3 : Int32)) % (3 : Int32))), .val (.int (p0 &&& (255 : Int32))), .val (.int (((p0.toUInt32 >>> ((8 : Int32) &&& 31).toUInt32).toInt32) &&& (255 : Int32))), .val (.int (((p0.toUInt32 >>> ((16 : Int32) &&& 31).toUInt32).toInt32) &&& (255 : Int32))), .val (.int (((p0.toUInt32 >>> ((24 : Int32) &&& 31).toUInt32).toInt32) &&& (255 : Int32))), .val (.int (if (((p2.toUInt32 >>> ((8 : Int32) &&& 31).toUInt32).toInt32) &&& (1 : Int32)) = (0 : Int32) then (p1 &&& (255 : Int32)) else (p0 &&& (255 : Int32)))), .val (.int (if (((p2.toUInt32 >>> ((9 : Int32) &&& 31).toUInt32).toInt32) &&& (1 : Int32)) = (0 : Int32) then (((p1.toUInt32 >>> ((8 : Int32) &&& 31).toUInt32).toInt32) &&& (255 : Int32)) else (((p0.toUInt32 >>> ((8 : Int32) &&& 31).toUInt32).toInt32) &&& (255 : Int32)))), .val (.int (if (((p2.toUInt32 >>> ((10 : Int32) &&& 31).toUInt32).toInt32) &&& (1 : Int32)) = (0 : Int32) then (((p1.toUInt32 >>> ((16 : Int32) &&& 31).toUInt32).toInt32) &&& (255 : Int32)) else (((p0.toUInt32 >>> ((16 : Int32) &&& 31).toUInt32).toInt32) &&& (255 : Int32)))), .unset, .unset, .unset, .unset, .unset, .unset] [(.int (((p2.toUInt32 >>> ((11 : Int32) &&& 31).toUInt32).toInt32) &&& (1 : Int32)))])) _
      refine XS.ifYes X0.here hx rfl (pc0 := 146) (pc' := 154) rfl (hb hby at_146) rfl ((if0 _ _).trans (teq hm8).1) (by decide) (by decide) ?_
      show Steps p.tables e below (s₁.setTop (mkF m 154 #[.val (.int p0), .val (.int p1), .val (.int p2), .val (.int ((p2 &&& (3 : Int32)) % (3 : Int32))), .val (.int ((((p2.toUInt32 >>> ((2 : Int32) &&& 31).toUInt32).toInt32) &&& (3 : Int32)) % (3 : Int32))), .val (.int ((((p2.toUInt32 >>> ((4 : Int32) &&& 31).toUInt32).toInt32) &&& (3 : Int32)) % (3 : Int32))), .val (.int ((((p2.toUInt32 >>> ((6 : Int32) &&& 31).toUInt32).toInt32) &&& (3 : Int32)) % (3 : Int32))), .val (.int (p0 &&& (255 : Int32))), .val (.int (((p0.toUInt32 >>> ((8 : Int32) &&& 31).toUInt32).toInt32) &&& (255 : Int32))), .val (.int (((p0.toUInt32 >>> ((16 : Int32) &&& 31).toUInt32).toInt32) &&& (255 : Int32))), .val (.int (((p0.toUInt32 >>> ((24 : Int32) &&& 31).toUInt32).toInt32) &&& (255 : Int32))), .val (.int (if (((p2.toUInt32 >>> ((8 : Int32) &&& 31).toUInt32).toInt32) &&& (1 : Int32)) = (0 : Int32) then (p1 &&& (255 : Int32)) else (p0 &&& (255 : Int32)))), .val (.int (if (((p2.toUInt32 >>> ((9 : Int32) &&& 31).toUInt32).toInt32) &&& (1 : Int32)) = (0 : Int32) then (((p1.toUInt32 >>> ((8 : Int32) &&& 31).toUInt32).toInt32) &&& (255 : Int32)) else (((p0.toUInt32 >>> ((8 : Int32) &&& 31).toUInt32).toInt32) &&& (255 : Int32)))), .val (.int (if (((p2.toUInt32 >>> ((10 : Int32) &&& 31).toUInt32).toInt32) &&& (1 : Int32)) = (0 : Int32) then (((p1.toUInt32 >>> ((16 : Int32) &&& 31).toUInt32).toInt32) &&& (255 : Int32)) else (((p0.toUInt32 >>> ((16 : Int32) &&& 31).toUInt32).toInt32) &&& (255 : Int32)))), .unset, .unset, .unset, .unset, .unset, .unset] [])) _
      refine XS.iloadN X0.here hx rfl (hb hby at_154) rfl ?_
      show Steps p.tables e below (s₁.setTop (mkF m 155 #[.val (.int p0), .val (.int p1), .val (.int p2), .val (.int ((p2 &&& (3 : Int32)) % (3 : Int32))), .val (.int ((((p2.toUInt32 >>> ((2 : Int32) &&& 31).toUInt32).toInt32) &&& (3 : Int32)) % (3 : Int32))), .val (.int ((((p2.toUInt32 >>> ((4 : Int32) &&& 31).toUInt32).toInt32) &&& (3 : Int32)) % (3 : Int32))), .val (.int ((((p2.toUInt32 >>> ((6 : Int32) &&& 31).toUInt32).toInt32) &&& (3 : Int32)) % (3 : Int32))), .val (.int (p0 &&& (255 : Int32))), .val (.int (((p0.toUInt32 >>> ((8 : Int32) &&& 31).toUInt32).toInt32) &&& (255 : Int32))), .val (.int (((p0.toUInt32 >>> ((16 : Int32) &&& 31).toUInt32).toInt32) &&& (255 : Int32))), .val (.int (((p0.toUInt32 >>> ((24 : Int32) &&& 31).toUInt32).toInt32) &&& (255 : Int32))), .val (.int (if (((p2.toUInt32 >>> ((8 : Int32) &&& 31).toUInt32).toInt32) &&& (1 : Int32)) = (0 : Int32) then (p1 &&& (255 : Int32)) else (p0 &&& (255 : Int32)))), .val (.int (if (((p2.toUInt32 >>> ((9 : Int32) &&& 31).toUInt32).toInt32) &&& (1 : Int32)) = (0 : Int32) then (((p1.toUInt32 >>> ((8 : Int32) &&& 31).toUInt32).toInt32) &&& (255 : Int32)) else (((p0.toUInt32 >>> ((8 : Int32) &&& 31).toUInt32).toInt32) &&& (255 : Int32)))), .val (.int (if (((p2.toUInt32 >>> ((10 : Int32) &&& 31).toUInt32).toInt32) &&& (1 : Int32)) = (0 : Int32) then (((p1.toUInt32 >>> ((16 : Int32) &&& 31).toUInt32).toInt32) &&& (255 : Int32)) else (((p0.toUInt32 >>> ((16 : Int32) &&& 31).toUInt32).toInt32) &&& (255 : Int32)))), .unset, .unset, .unset, .unset, .unset, .unset] [(.int p1)])) _
      refine XS.bipush X0.here hx rfl (hb hby at_155) ?_
      show Steps p.tables e below (s₁.setTop (mkF m 157 #[.val (.int p0), .val (.int p1), .val (.int p2), .val (.int ((p2 &&& (3 : Int32)) % (3 : Int32))), .val (.int ((((p2.toUInt32 >>> ((2 : Int32) &&& 31).toUInt32).toInt32) &&& (3 : Int32)) % (3 : Int32))), .val (.int ((((p2.toUInt32 >>> ((4 : Int32) &&& 31).toUInt32).toInt32) &&& (3 : Int32)) % (3 : Int32))), .val (.int ((((p2.toUInt32 >>> ((6 : Int32) &&& 31).toUInt32).toInt32) &&& (3 : Int32)) % (3 : Int32))), .val (.int (p0 &&& (255 : Int32))), .val (.int (((p0.toUInt32 >>> ((8 : Int32) &&& 31).toUInt32).toInt32) &&& (255 : Int32))), .val (.int (((p0.toUInt32 >>> ((16 : Int32) &&& 31).toUInt32).toInt32) &&& (255 : Int32))), .val (.int (((p0.toUInt32 >>> ((24 : Int32) &&& 31).toUInt32).toInt32) &&& (255 : Int32))), .val (.int (if (((p2.toUInt32 >>> ((8 : Int32) &&& 31).toUInt32).toInt32) &&& (1 : Int32)) = (0 : Int32) then (p1 &&& (255 : Int32)) else (p0 &&& (255 : Int32)))), .val (.int (if (((p2.toUInt32 >>> ((9 : Int32) &&& 31).toUInt32).toInt32) &&& (1 : Int32)) = (0 : Int32) then (((p1.toUInt32 >>> ((8 : Int32) &&& 31).toUInt32).toInt32) &&& (255 : Int32)) else (((p0.toUInt32 >>> ((8 : Int32) &&& 31).toUInt32).toInt32) &&& (255 : Int32)))), .val (.int (if (((p2.toUInt32 >>> ((10 : Int32) &&& 31).toUInt32).toInt32) &&& (1 : Int32)) = (0 : Int32) then (((p1.toUInt32 >>> ((16 : Int32) &&& 31).toUInt32).toInt32) &&& (255 : Int32)) else (((p0.toUInt32 >>> ((16 : Int32) &&& 31).toUInt32).toInt32) &&& (255 : Int32)))), .unset, .unset, .unset, .unset, .unset, .unset] [(.int (24 : Int32)), (.int p1)])) _
      refine XS.iushr X0.here hx rfl (hb hby at_157) rfl ?_
      show Steps p.tables e below (s₁.setTop (mkF m 158 #[.val (.int p0), .val (.int p1), .val (.int p2), .val (.int ((p2 &&& (3 : Int32)) % (3 : Int32))), .val (.int ((((p2.toUInt32 >>> ((2 : Int32) &&& 31).toUInt32).toInt32) &&& (3 : Int32)) % (3 : Int32))), .val (.int ((((p2.toUInt32 >>> ((4 : Int32) &&& 31).toUInt32).toInt32) &&& (3 : Int32)) % (3 : Int32))), .val (.int ((((p2.toUInt32 >>> ((6 : Int32) &&& 31).toUInt32).toInt32) &&& (3 : Int32)) % (3 : Int32))), .val (.int (p0 &&& (255 : Int32))), .val (.int (((p0.toUInt32 >>> ((8 : Int32) &&& 31).toUInt32).toInt32) &&& (255 : Int32))), .val (.int (((p0.toUInt32 >>> ((16 : Int32) &&& 31).toUInt32).toInt32) &&& (255 : Int32))), .val (.int (((p0.toUInt32 >>> ((24 : Int32) &&& 31).toUInt32).toInt32) &&& (255 : Int32))), .val (.int (if (((p2.toUInt32 >>> ((8 : Int32) &&& 31).toUInt32).toInt32) &&& (1 : Int32)) = (0 : Int32) then (p1 &&& (255 : Int32)) else (p0 &&& (255 : Int32)))), .val (.int (if (((p2.toUInt32 >>> ((9 : Int32) &&& 31).toUInt32).toInt32) &&& (1 : Int32)) = (0 : Int32) then (((p1.toUInt32 >>> ((8 : Int32) &&& 31).toUInt32).toInt32) &&& (255 : Int32)) else (((p0.toUInt32 >>> ((8 : Int32) &&& 31).toUInt32).toInt32) &&& (255 : Int32)))), .val (.int (if (((p2.toUInt32 >>> ((10 : Int32) &&& 31).toUInt32).toInt32) &&& (1 : Int32)) = (0 : Int32) then (((p1.toUInt32 >>> ((16 : Int32) &&& 31).toUInt32).toInt32) &&& (255 : Int32)) else (((p0.toUInt32 >>> ((16 : Int32) &&& 31).toUInt32).toInt32) &&& (255 : Int32)))), .unset, .unset, .unset, .unset, .unset, .unset] [(.int ((p1.toUInt32 >>> ((24 : Int32) &&& 31).toUInt32).toInt32))])) _
      refine XS.sipush X0.here hx rfl (hb hby at_158) ?_
      show Steps p.tables e below (s₁.setTop (mkF m 161 #[.val (.int p0), .val (.int p1), .val (.int p2), .val (.int ((p2 &&& (3 : Int32)) % (3 : Int32))), .val (.int ((((p2.toUInt32 >>> ((2 : Int32) &&& 31).toUInt32).toInt32) &&& (3 : Int32)) % (3 : Int32))), .val (.int ((((p2.toUInt32 >>> ((4 : Int32) &&& 31).toUInt32).toInt32) &&& (3 : Int32)) % (3 : Int32))), .val (.int ((((p2.toUInt32 >>> ((6 : Int32) &&& 31).toUInt32).toInt32) &&& (3 : Int32)) % (3 : Int32))), .val (.int (p0 &&& (255 : Int32))), .val (.int (((p0.toUInt32 >>> ((8 : Int32) &&& 31).toUInt32).toInt32) &&& (255 : Int32))), .val (.int (((p0.toUInt32 >>> ((16 : Int32) &&& 31).toUInt32).toInt32) &&& (255 : Int32))), .val (.int (((p0.toUInt32 >>> ((24 : Int32) &&& 31).toUInt32).toInt32) &&& (255 : Int32))), .val (.int (if (((p2.toUInt32 >>> ((8 : Int32) &&& 31).toUInt32).toInt32) &&& (1 : Int32)) = (0 : Int32) then (p1 &&& (255 : Int32)) else (p0 &&& (255 : Int32)))), .val (.int (if (((p2.toUInt32 >>> ((9 : Int32) &&& 31).toUInt32).toInt32) &&& (1 : Int32)) = (0 : Int32) then (((p1.toUInt32 >>> ((8 : Int32) &&& 31).toUInt32).toInt32) &&& (255 : Int32)) else (((p0.toUInt32 >>> ((8 : Int32) &&& 31).toUInt32).toInt32) &&& (255 : Int32)))), .val (.int (if (((p2.toUInt32 >>> ((10 : Int32) &&& 31).toUInt32).toInt32) &&& (1 : Int32)) = (0 : Int32) then (((p1.toUInt32 >>> ((16 : Int32) &&& 31).toUInt32).toInt32) &&& (255 : Int32)) else (((p0.toUInt32 >>> ((16 : Int32) &&& 31).toUInt32).toInt32) &&& (255 : Int32)))), .unset, .unset, .unset, .unset, .unset, .unset] [(.int (255 : Int32)), (.int ((p1.toUInt32 >>> ((24 : Int32) &&& 31).toUInt32).toInt32))])) _
      refine XS.iand X0.here hx rfl (hb hby at_161) rfl ?_
      exact k
    · rw [if_neg hm8] at k
      show Steps p.tables e below (s₁.setTop (mkF m 146 #[.val (.int p0), .val (.int p1), .val (.int p2), .val (.int ((p2 &&& (3 : Int32)) % (3 : Int32))), .val (.int ((((p2.toUInt32 >>> ((2 : Int32) &&& 31).toUInt32).toInt32) &&& (3 : Int32)) % (3 : Int32))), .val (.int ((((p2.toUInt32 >>> ((4 : Int32) &&& 31).toUInt32).toInt32) &&& (3 : Int32)) % (3 : Int32))), .val (.int ((((p2.toUInt32 >>> ((6 : Int32) &&& 31).toUInt32).toInt32) &&& (3 : Int32)) % (3 : Int32))), .val (.int (p0 &&& (255 : Int32))), .val (.int (((p0.toUInt32 >>> ((8 : Int32) &&& 31).toUInt32).toInt32) &&& (255 : Int32))), .val (.int (((p0.toUInt32 >>> ((16 : Int32) &&& 31).toUInt32).toInt32) &&& (255 : Int32))), .val (.int (((p0.toUInt32 >>> ((24 : Int32) &&& 31).toUInt32).toInt32) &&& (255 : Int32))), .val (.int (if (((p2.toUInt32 >>> ((8 : Int32) &&& 31).toUInt32).toInt32) &&& (1 : Int32)) = (0 : Int32) then (p1 &&& (255 : Int32)) else (p0 &&& (255 : Int32)))), .val (.int (if (((p2.toUInt32 >>> ((9 : Int32) &&& 31).toUInt32).toInt32) &&& (1 : Int32)) = (0 : Int32) then (((p1.toUInt32 >>> ((8 : Int32) &&& 31).toUInt32).toInt32) &&& (255 : Int32)) else (((p0.toUInt32 >>> ((8 : Int32) &&& 31).toUInt32).toInt32) &&& (255 : Int32)))), .val (.int (if (((p2.toUInt32 >>> ((10 : Int32) &&& 31).toUInt32).toInt32) &&& (1 : Int32)) = (0 : Int32) then (((p1.toUInt32 >>> ((16 : Int32) &&& 31).toUInt32).toInt32) &&& (255 : Int32)) else (((p0.toUInt32 >>> ((16 : Int32) &&& 31).toUInt32).toInt32) &&& (255 : Int32)))), .unset, .unset, .unset, .unset, .unset, .unset] [(.int (((p2.toUInt32 >>> ((11 : Int32) &&& 31).toUInt32).toInt32) &&& (1 : Int32)))])) _
      refine XS.ifNo X0.here hx rfl (hb hby at_146) rfl ((if0 _ _).trans (feq hm8).1) ?_
      show Steps p.tables e below (s₁.setTop (mkF m 149 #[.val (.int p0), .val (.int p1), .val (.int p2), .val (.int ((p2 &&& (3 : Int32)) % (3 : Int32))), .val (.int ((((p2.toUInt32 >>> ((2 : Int32) &&& 31).toUInt32).toInt32) &&& (3 : Int32)) % (3 : Int32))), .val (.int ((((p2.toUInt32 >>> ((4 : Int32) &&& 31).toUInt32).toInt32) &&& (3 : Int32)) % (3 : Int32))), .val (.int ((((p2.toUInt32 >>> ((6 : Int32) &&& 31).toUInt32).toInt32) &&& (3 : Int32)) % (3 : Int32))), .val (.int (p0 &&& (255 : Int32))), .val (.int (((p0.toUInt32 >>> ((8 : Int32) &&& 31).toUInt32).toInt32) &&& (255 : Int32))), .val (.int (((p0.toUInt32 >>> ((16 : Int32) &&& 31).toUInt32).toInt32) &&& (255 : Int32))), .val (.int (((p0.toUInt32 >>> ((24 : Int32) &&& 31).toUInt32).toInt32) &&& (255 : Int32))), .val (.int (if (((p2.toUInt32 >>> ((8 : Int32) &&& 31).toUInt32).toInt32) &&& (1 : Int32)) = (0 : Int32) then (p1 &&& (255 : Int32)) else (p0 &&& (255 : Int32)))), .val (.int (if (((p2.toUInt32 >>> ((9 : Int32) &&& 31).toUInt32).toInt32) &&& (1 : Int32)) = (0 : Int32) then (((p1.toUInt32 >>> ((8 : Int32) &&& 31).toUInt32).toInt32) &&& (255 : Int32)) else (((p0.toUInt32 >>> ((8 : Int32) &&& 31).toUInt32).toInt32) &&& (255 : Int32)))), .val (.int (if (((p2.toUInt32 >>> ((10 : Int32) &&& 31).toUInt32).toInt32) &&& (1 : Int32)) = (0 : Int32) then (((p1.toUInt32 >>> ((16 : Int32) &&& 31).toUInt32).toInt32) &&& (255 : Int32)) else (((p0.toUInt32 >>> ((16 : Int32) &&& 31).toUInt32).toInt32) &&& (255 : Int32)))), .unset, .unset, .unset, .unset, .unset, .unset] [])) _
      refine XS.iload X0.here hx rfl (hb hby at_149) rfl ?_
      show Steps p.tables e below (s₁.setTop (mkF m 151 #[.val (.int p0), .val (.int p1), .val (.int p2), .val (.int ((p2 &&& (3 : Int32)) % (3 : Int32))), .val (.int ((((p2.toUInt32 >>> ((2 : Int32) &&& 31).toUInt32).toInt32) &&& (3 : Int32)) % (3 : Int32))), .val (.int ((((p2.toUInt32 >>> ((4 : Int32) &&& 31).toUInt32).toInt32) &&& (3 : Int32)) % (3 : Int32))), .val (.int ((((p2.toUInt32 >>> ((6 : Int32) &&& 31).toUInt32).toInt32) &&& (3 : Int32)) % (3 : Int32))), .val (.int (p0 &&& (255 : Int32))), .val (.int (((p0.toUInt32 >>> ((8 : Int32) &&& 31).toUInt32).toInt32) &&& (255 : Int32))), .val (.int (((p0.toUInt32 >>> ((16 : Int32) &&& 31).toUInt32).toInt32) &&& (255 : Int32))), .val (.int (((p0.toUInt32 >>> ((24 : Int32) &&& 31).toUInt32).toInt32) &&& (255 : Int32))), .val (.int (if (((p2.toUInt32 >>> ((8 : Int32) &&& 31).toUInt32).toInt32) &&& (1 : Int32)) = (0 : Int32) then (p1 &&& (255 : Int32)) else (p0 &&& (255 : Int32)))), .val (.int (if (((p2.toUInt32 >>> ((9 : Int32) &&& 31).toUInt32).toInt32) &&& (1 : Int32)) = (0 : Int32) then (((p1.toUInt32 >>> ((8 : Int32) &&& 31).toUInt32).toInt32) &&& (255 : Int32)) else (((p0.toUInt32 >>> ((8 : Int32) &&& 31).toUInt32).toInt32) &&& (255 : Int32)))), .val (.int (if (((p2.toUInt32 >>> ((10 : Int32) &&& 31).toUInt32).toInt32) &&& (1 : Int32)) = (0 : Int32) then (((p1.toUInt32 >>> ((16 : Int32) &&& 31).toUInt32).toInt32) &&& (255 : Int32)) else (((p0.toUInt32 >>> ((16 : Int32) &&& 31).toUInt32).toInt32) &&& (255 : Int32)))), .unset, .unset, .unset, .unset, .unset, .unset] [(.int (((p0.toUInt32 >>> ((24 : Int32) &&& 31).toUInt32).toInt32) &&& (255 : Int32)))])) _
      refine XS.goto X0.here hx rfl (pc0 := 151) (pc' := 162) rfl (hb hby at_151) (by decide) (by decide) ?_
      exact k
  have pre9 : ∀ t, Steps p.tables e below (s₁.setTop (mkF m 164 #[.val (.int p0), .val (.int p1), .val (.int p2), .val (.int ((p2 &&& (3 : Int32)) % (3 : Int32))), .val (.int ((((p2.toUInt32 >>> ((2 : Int32) &&& 31).toUInt32).toInt32) &&& (3 : Int32)) % (3 : Int32))), .val (.int ((((p2.toUInt32 >>> ((4 : Int32) &&& 31).toUInt32).toInt32) &&& (3 : Int32)) % (3 : Int32))), .val (.int ((((p2.toUInt32 >>> ((6 : Int32) &&& 31).toUInt32).toInt32) &&& (3 : Int32)) % (3 : Int32))), .val (.int (p0 &&& (255 : Int32))), .val (.int (((p0.toUInt32 >>> ((8 : Int32) &&& 31).toUInt32).toInt32) &&& (255 : Int32))), .val (.int (((p0.toUInt32 >>> ((16 : Int32) &&& 31).toUInt32).toInt32) &&& (255 : Int32))), .val (.int (((p0.toUInt32 >>> ((24 : Int32) &&& 31).toUInt32).toInt32) &&& (255 : Int32))), .val (.int (if (((p2.toUInt32 >>> ((8 : Int32) &&& 31).toUInt32).toInt32) &&& (1 : Int32)) = (0 : Int32) then (p1 &&& (255 : Int32)) else (p0 &&& (255 : Int32)))), .val (.int (if (((p2.toUInt32 >>> ((9 : Int32) &&& 31).toUInt32).toInt32) &&& (1 : Int32)) = (0 : Int32) then (((p1.toUInt32 >>> ((8 : Int32) &&& 31).toUInt32).toInt32) &&& (255 : Int32)) else (((p0.toUInt32 >>> ((8 : Int32) &&& 31).toUInt32).toInt32) &&& (255 : Int32)))), .val (.int (if (((p2.toUInt32 >>> ((10 : Int32) &&& 31).toUInt32).toInt32) &&& (1 : Int32)) = (0 : Int32) then (((p1.toUInt32 >>> ((16 : Int32) &&& 31).toUInt32).toInt32) &&& (255 : Int32)) else (((p0.toUInt32 >>> ((16 : Int32) &&& 31).toUInt32).toInt32) &&& (255 : Int32)))), .val (.int (if (((p2.toUInt32 >>> ((11 : Int32) &&& 31).toUInt32).toInt32) &&& (1 : Int32)) = (0 : Int32) then (((p1.toUInt32 >>> ((24 : Int32) &&& 31).toUInt32).toInt32) &&& (255 : Int32)) else (((p0.toUInt32 >>> ((24 : Int32) &&& 31).toUInt32).toInt32) &&& (255 : Int32)))), .unset, .unset, .unset, .unset, .unset] [])) t → Steps p.tables e below (s₁.setTop (entryFrame m #[(.int p0), (.int p1), (.int p2)] maxLocals)) t := by
    intro t k
    refine pre8 _ ?_
    show Steps p.tables e below (s₁.setTop (mkF m 162 #[.val (.int p0), .val (.int p1), .val (.int p2), .val (.int ((p2 &&& (3 : Int32)) % (3 : Int32))), .val (.int ((((p2.toUInt32 >>> ((2 : Int32) &&& 31).toUInt32).toInt32) &&& (3 : Int32)) % (3 : Int32))), .val (.int ((((p2.toUInt32 >>> ((4 : Int32) &&& 31).toUInt32).toInt32) &&& (3 : Int32)) % (3 : Int32))), .val (.int ((((p2.toUInt32 >>> ((6 : Int32) &&& 31).toUInt32).toInt32) &&& (3 : Int32)) % (3 : Int32))), .val (.int (p0 &&& (255 : Int32))), .val (.int (((p0.toUInt32 >>> ((8 : Int32) &&& 31).toUInt32).toInt32) &&& (255 : Int32))), .val (.int (((p0.toUInt32 >>> ((16 : Int32) &&& 31).toUInt32).toInt32) &&& (255 : Int32))), .val (.int (((p0.toUInt32 >>> ((24 : Int32) &&& 31).toUInt32).toInt32) &&& (255 : Int32))), .val (.int (if (((p2.toUInt32 >>> ((8 : Int32) &&& 31).toUInt32).toInt32) &&& (1 : Int32)) = (0 : Int32) then (p1 &&& (255 : Int32)) else (p0 &&& (255 : Int32)))), .val (.int (if (((p2.toUInt32 >>> ((9 : Int32) &&& 31).toUInt32).toInt32) &&& (1 : Int32)) = (0 : Int32) then (((p1.toUInt32 >>> ((8 : Int32) &&& 31).toUInt32).toInt32) &&& (255 : Int32)) else (((p0.toUInt32 >>> ((8 : Int32) &&& 31).toUInt32).toInt32) &&& (255 : Int32)))), .val (.int (if (((p2.toUInt32 >>> ((10 : Int32) &&& 31).toUInt32).toInt32) &&& (1 : Int32)) = (0 : Int32) then (((p1.toUInt32 >>> ((16 : Int32) &&& 31).toUInt32).toInt32) &&& (255 : Int32)) else (((p0.toUInt32 >>> ((16 : Int32) &&& 31).toUInt32).toInt32) &&& (255 : Int32)))), .unset, .unset, .unset, .unset, .unset, .unset] [(.int (if (((p2.toUInt32 >>> ((11 : Int32) &&& 31).toUInt32).toInt32) &&& (1 : Int32)) = (0 : Int32) then (((p1.toUInt32 >>> ((24 : Int32) &&& 31).toUInt32).toInt32) &&& (255 : Int32)) else (((p0.toUInt32 >>> ((24 : Int32) &&& 31).toUInt32).toInt32) &&& (255 : Int32))))])) _
    refine XS.istore X0.here hx rfl (hb hby at_162) rfl (l' := #[.val (.int p0), .val (.int p1), .val (.int p2), .val (.int ((p2 &&& (3 : Int32)) % (3 : Int32))), .val (.int ((((p2.toUInt32 >>> ((2 : Int32) &&& 31).toUInt32).toInt32) &&& (3 : Int32)) % (3 : Int32))), .val (.int ((((p2.toUInt32 >>> ((4 : Int32) &&& 31).toUInt32).toInt32) &&& (3 : Int32)) % (3 : Int32))), .val (.int ((((p2.toUInt32 >>> ((6 : Int32) &&& 31).toUInt32).toInt32) &&& (3 : Int32)) % (3 : Int32))), .val (.int (p0 &&& (255 : Int32))), .val (.int (((p0.toUInt32 >>> ((8 : Int32) &&& 31).toUInt32).toInt32) &&& (255 : Int32))), .val (.int (((p0.toUInt32 >>> ((16 : Int32) &&& 31).toUInt32).toInt32) &&& (255 : Int32))), .val (.int (((p0.toUInt32 >>> ((24 : Int32) &&& 31).toUInt32).toInt32) &&& (255 : Int32))), .val (.int (if (((p2.toUInt32 >>> ((8 : Int32) &&& 31).toUInt32).toInt32) &&& (1 : Int32)) = (0 : Int32) then (p1 &&& (255 : Int32)) else (p0 &&& (255 : Int32)))), .val (.int (if (((p2.toUInt32 >>> ((9 : Int32) &&& 31).toUInt32).toInt32) &&& (1 : Int32)) = (0 : Int32) then (((p1.toUInt32 >>> ((8 : Int32) &&& 31).toUInt32).toInt32) &&& (255 : Int32)) else (((p0.toUInt32 >>> ((8 : Int32) &&& 31).toUInt32).toInt32) &&& (255 : Int32)))), .val (.int (if (((p2.toUInt32 >>> ((10 : Int32) &&& 31).toUInt32).toInt32) &&& (1 : Int32)) = (0 : Int32) then (((p1.toUInt32 >>> ((16 : Int32) &&& 31).toUInt32).toInt32) &&& (255 : Int32)) else (((p0.toUInt32 >>> ((16 : Int32) &&& 31).toUInt32).toInt32) &&& (255 : Int32)))), .val (.int (if (((p2.toUInt32 >>> ((11 : Int32) &&& 31).toUInt32).toInt32) &&& (1 : Int32)) = (0 : Int32) then (((p1.toUInt32 >>> ((24 : Int32) &&& 31).toUInt32).toInt32) &&& (255 : Int32)) else (((p0.toUInt32 >>> ((24 : Int32) &&& 31).toUInt32).toInt32) &&& (255 : Int32)))), .unset, .unset, .unset, .unset, .unset]) rfl ?_
    exact k
  obtain ⟨la1, hla1⟩ : ∃ z, z = ((p2 &&& (3 : Int32)) % (3 : Int32)) := ⟨_, rfl⟩
  have pre10 : ∀ t, Steps p.tables e below (s₁.setTop (mkF m 164 #[.val (.int p0), .val (.int p1), .val (.int p2), .val (.int la1), .val (.int ((((p2.toUInt32 >>> ((2 : Int32) &&& 31).toUInt32).toInt32) &&& (3 : Int32)) % (3 : Int32))), .val (.int ((((p2.toUInt32 >>> ((4 : Int32) &&& 31).toUInt32).toInt32) &&& (3 : Int32)) % (3 : Int32))), .val (.int ((((p2.toUInt32 >>> ((6 : Int32) &&& 31).toUInt32).toInt32) &&& (3 : Int32)) % (3 : Int32))), .val (.int (p0 &&& (255 : Int32))), .val (.int (((p0.toUInt32 >>> ((8 : Int32) &&& 31).toUInt32).toInt32) &&& (255 : Int32))), .val (.int (((p0.toUInt32 >>> ((16 : Int32) &&& 31).toUInt32).toInt32) &&& (255 : Int32))), .val (.int (((p0.toUInt32 >>> ((24 : Int32) &&& 31).toUInt32).toInt32) &&& (255 : Int32))), .val (.int (if (((p2.toUInt32 >>> ((8 : Int32) &&& 31).toUInt32).toInt32) &&& (1 : Int32)) = (0 : Int32) then (p1 &&& (255 : Int32)) else (p0 &&& (255 : Int32)))), .val (.int (if (((p2.toUInt32 >>> ((9 : Int32) &&& 31).toUInt32).toInt32) &&& (1 : Int32)) = (0 : Int32) then (((p1.toUInt32 >>> ((8 : Int32) &&& 31).toUInt32).toInt32) &&& (255 : Int32)) else (((p0.toUInt32 >>> ((8 : Int32) &&& 31).toUInt32).toInt32) &&& (255 : Int32)))), .val (.int (if (((p2.toUInt32 >>> ((10 : Int32) &&& 31).toUInt32).toInt32) &&& (1 : Int32)) = (0 : Int32) then (((p1.toUInt32 >>> ((16 : Int32) &&& 31).toUInt32).toInt32) &&& (255 : Int32)) else (((p0.toUInt32 >>> ((16 : Int32) &&& 31).toUInt32).toInt32) &&& (255 : Int32)))), .val (.int (if (((p2.toUInt32 >>> ((11 : Int32) &&& 31).toUInt32).toInt32) &&& (1 : Int32)) = (0 : Int32) then (((p1.toUInt32 >>> ((24 : Int32) &&& 31).toUInt32).toInt32) &&& (255 : Int32)) else (((p0.toUInt32 >>> ((24 : Int32) &&& 31).toUInt32).toInt32) &&& (255 : Int32)))), .unset, .unset, .unset, .unset, .unset] [])) t → Steps p.tables e below (s₁.setTop (entryFrame m #[(.int p0), (.int p1), (.int p2)] maxLocals)) t := by rw [hla1]; exact pre9
  obtain ⟨la2, hla2⟩ : ∃ z, z = ((((p2.toUInt32 >>> ((2 : Int32) &&& 31).toUInt32).toInt32) &&& (3 : Int32)) % (3 : Int32)) := ⟨_, rfl⟩
  have pre11 : ∀ t, Steps p.tables e below (s₁.setTop (mkF m 164 #[.val (.int p0), .val (.int p1), .val (.int p2), .val (.int la1), .val (.int la2), .val (.int ((((p2.toUInt32 >>> ((4 : Int32) &&& 31).toUInt32).toInt32) &&& (3 : Int32)) % (3 : Int32))), .val (.int ((((p2.toUInt32 >>> ((6 : Int32) &&& 31).toUInt32).toInt32) &&& (3 : Int32)) % (3 : Int32))), .val (.int (p0 &&& (255 : Int32))), .val (.int (((p0.toUInt32 >>> ((8 : Int32) &&& 31).toUInt32).toInt32) &&& (255 : Int32))), .val (.int (((p0.toUInt32 >>> ((16 : Int32) &&& 31).toUInt32).toInt32) &&& (255 : Int32))), .val (.int (((p0.toUInt32 >>> ((24 : Int32) &&& 31).toUInt32).toInt32) &&& (255 : Int32))), .val (.int (if (((p2.toUInt32 >>> ((8 : Int32) &&& 31).toUInt32).toInt32) &&& (1 : Int32)) = (0 : Int32) then (p1 &&& (255 : Int32)) else (p0 &&& (255 : Int32)))), .val (.int (if (((p2.toUInt32 >>> ((9 : Int32) &&& 31).toUInt32).toInt32) &&& (1 : Int32)) = (0 : Int32) then (((p1.toUInt32 >>> ((8 : Int32) &&& 31).toUInt32).toInt32) &&& (255 : Int32)) else (((p0.toUInt32 >>> ((8 : Int32) &&& 31).toUInt32).toInt32) &&& (255 : Int32)))), .val (.int (if (((p2.toUInt32 >>> ((10 : Int32) &&& 31).toUInt32).toInt32) &&& (1 : Int32)) = (0 : Int32) then (((p1.toUInt32 >>> ((16 : Int32) &&& 31).toUInt32).toInt32) &&& (255 : Int32)) else (((p0.toUInt32 >>> ((16 : Int32) &&& 31).toUInt32).toInt32) &&& (255 : Int32)))), .val (.int (if (((p2.toUInt32 >>> ((11 : Int32) &&& 31).toUInt32).toInt32) &&& (1 : Int32)) = (0 : Int32) then (((p1.toUInt32 >>> ((24 : Int32) &&& 31).toUInt32).toInt32) &&& (255 : Int32)) else (((p0.toUInt32 >>> ((24 : Int32) &&& 31).toUInt32).toInt32) &&& (255 : Int32)))), .unset, .unset, .unset, .unset, .unset] [])) t → Steps p.tables e below (s₁.setTop (entryFrame m #[(.int p0), (.int p1), (.int p2)] maxLocals)) t := by rw [hla2]; exact pre10
  obtain ⟨lo1, hlo1⟩ : ∃ z, z = ((((p2.toUInt32 >>> ((4 : Int32) &&& 31).toUInt32).toInt32) &&& (3 : Int32)) % (3 : Int32)) := ⟨_, rfl⟩
  have pre12 : ∀ t, Steps p.tables e below (s₁.setTop (mkF m 164 #[.val (.int p0), .val (.int p1), .val (.int p2), .val (.int la1), .val (.int la2), .val (.int lo1), .val (.int ((((p2.toUInt32 >>> ((6 : Int32) &&& 31).toUInt32).toInt32) &&& (3 : Int32)) % (3 : Int32))), .val (.int (p0 &&& (255 : Int32))), .val (.int (((p0.toUInt32 >>> ((8 : Int32) &&& 31).toUInt32).toInt32) &&& (255 : Int32))), .val (.int (((p0.toUInt32 >>> ((16 : Int32) &&& 31).toUInt32).toInt32) &&& (255 : Int32))), .val (.int (((p0.toUInt32 >>> ((24 : Int32) &&& 31).toUInt32).toInt32) &&& (255 : Int32))), .val (.int (if (((p2.toUInt32 >>> ((8 : Int32) &&& 31).toUInt32).toInt32) &&& (1 : Int32)) = (0 : Int32) then (p1 &&& (255 : Int32)) else (p0 &&& (255 : Int32)))), .val (.int (if (((p2.toUInt32 >>> ((9 : Int32) &&& 31).toUInt32).toInt32) &&& (1 : Int32)) = (0 : Int32) then (((p1.toUInt32 >>> ((8 : Int32) &&& 31).toUInt32).toInt32) &&& (255 : Int32)) else (((p0.toUInt32 >>> ((8 : Int32) &&& 31).toUInt32).toInt32) &&& (255 : Int32)))), .val (.int (if (((p2.toUInt32 >>> ((10 : Int32) &&& 31).toUInt32).toInt32) &&& (1 : Int32)) = (0 : Int32) then (((p1.toUInt32 >>> ((16 : Int32) &&& 31).toUInt32).toInt32) &&& (255 : Int32)) else (((p0.toUInt32 >>> ((16 : Int32) &&& 31).toUInt32).toInt32) &&& (255 : Int32)))), .val (.int (if (((p2.toUInt32 >>> ((11 : Int32) &&& 31).toUInt32).toInt32) &&& (1 : Int32)) = (0 : Int32) then (((p1.toUInt32 >>> ((24 : Int32) &&& 31).toUInt32).toInt32) &&& (255 : Int32)) else (((p0.toUInt32 >>> ((24 : Int32) &&& 31).toUInt32).toInt32) &&& (255 : Int32)))), .unset, .unset, .unset, .unset, .unset] [])) t → Steps p.tables e below (s₁.setTop (entryFrame m #[(.int p0), (.int p1), (.int p2)] maxLocals)) t := by rw [hlo1]; exact pre11
  obtain ⟨lo2, hlo2⟩ : ∃ z, z = ((((p2.toUInt32 >>> ((6 : Int32) &&& 31).toUInt32).toInt32) &&& (3 : Int32)) % (3 : Int32)) := ⟨_, rfl⟩
  have pre13 : ∀ t, Steps p.tables e below (s₁.setTop (mkF m 164 #[.val (.int p0), .val (.int p1), .val (.int p2), .val (.int la1), .val (.int la2), .val (.int lo1), .val (.int lo2), .val (.int (p0 &&& (255 : Int32))), .val (.int (((p0.toUInt32 >>> ((8 : Int32) &&& 31).toUInt32).toInt32) &&& (255 : Int32))), .val (.int (((p0.toUInt32 >>> ((16 : Int32) &&& 31).toUInt32).toInt32) &&& (255 : Int32))), .val (.int (((p0.toUInt32 >>> ((24 : Int32) &&& 31).toUInt32).toInt32) &&& (255 : Int32))), .val (.int (if (((p2.toUInt32 >>> ((8 : Int32) &&& 31).toUInt32).toInt32) &&& (1 : Int32)) = (0 : Int32) then (p1 &&& (255 : Int32)) else (p0 &&& (255 : Int32)))), .val (.int (if (((p2.toUInt32 >>> ((9 : Int32) &&& 31).toUInt32).toInt32) &&& (1 : Int32)) = (0 : Int32) then (((p1.toUInt32 >>> ((8 : Int32) &&& 31).toUInt32).toInt32) &&& (255 : Int32)) else (((p0.toUInt32 >>> ((8 : Int32) &&& 31).toUInt32).toInt32) &&& (255 : Int32)))), .val (.int (if (((p2.toUInt32 >>> ((10 : Int32) &&& 31).toUInt32).toInt32) &&& (1 : Int32)) = (0 : Int32) then (((p1.toUInt32 >>> ((16 : Int32) &&& 31).toUInt32).toInt32) &&& (255 : Int32)) else (((p0.toUInt32 >>> ((16 : Int32) &&& 31).toUInt32).toInt32) &&& (255 : Int32)))), .val (.int (if (((p2.toUInt32 >>> ((11 : Int32) &&& 31).toUInt32).toInt32) &&& (1 : Int32)) = (0 : Int32) then (((p1.toUInt32 >>> ((24 : Int32) &&& 31).toUInt32).toInt32) &&& (255 : Int32)) else (((p0.toUInt32 >>> ((24 : Int32) &&& 31).toUInt32).toInt32) &&& (255 : Int32)))), .unset, .unset, .unset, .unset, .unset] [])) t → Steps p.tables e below (s₁.setTop (entryFrame m #[(.int p0), (.int p1), (.int p2)] maxLocals)) t := by rw [hlo2]; exact pre12
  obtain ⟨x0, hx0⟩ : ∃ z, z = (p0 &&& (255 : Int32)) := ⟨_, rfl⟩
  have pre14 : ∀ t, Steps p.tables e below (s₁.setTop (mkF m 164 #[.val (.int p0), .val (.int p1), .val (.int p2), .val (.int la1), .val (.int la2), .val (.int lo1), .val (.int lo2), .val (.int x0), .val (.int (((p0.toUInt32 >>> ((8 : Int32) &&& 31).toUInt32).toInt32) &&& (255 : Int32))), .val (.int (((p0.toUInt32 >>> ((16 : Int32) &&& 31).toUInt32).toInt32) &&& (255 : Int32))), .val (.int (((p0.toUInt32 >>> ((24 : Int32) &&& 31).toUInt32).toInt32) &&& (255 : Int32))), .val (.int (if (((p2.toUInt32 >>> ((8 : Int32) &&& 31).toUInt32).toInt32) &&& (1 : Int32)) = (0 : Int32) then (p1 &&& (255 : Int32)) else (p0 &&& (255 : Int32)))), .val (.int (if (((p2.toUInt32 >>> ((9 : Int32) &&& 31).toUInt32).toInt32) &&& (1 : Int32)) = (0 : Int32) then (((p1.toUInt32 >>> ((8 : Int32) &&& 31).toUInt32).toInt32) &&& (255 : Int32)) else (((p0.toUInt32 >>> ((8 : Int32) &&& 31).toUInt32).toInt32) &&& (255 : Int32)))), .val (.int (if (((p2.toUInt32 >>> ((10 : Int32) &&& 31).toUInt32).toInt32) &&& (1 : Int32)) = (0 : Int32) then (((p1.toUInt32 >>> ((16 : Int32) &&& 31).toUInt32).toInt32) &&& (255 : Int32)) else (((p0.toUInt32 >>> ((16 : Int32) &&& 31).toUInt32).toInt32) &&& (255 : Int32)))), .val (.int (if (((p2.toUInt32 >>> ((11 : Int32) &&& 31).toUInt32).toInt32) &&& (1 : Int32)) = (0 : Int32) then (((p1.toUInt32 >>> ((24 : Int32) &&& 31).toUInt32).toInt32) &&& (255 : Int32)) else (((p0.toUInt32 >>> ((24 : Int32) &&& 31).toUInt32).toInt32) &&& (255 : Int32)))), .unset, .unset, .unset, .unset, .unset] [])) t → Steps p.tables e below (s₁.setTop (entryFrame m #[(.int p0), (.int p1), (.int p2)] maxLocals)) t := by rw [hx0]; exact pre13
  obtain ⟨x1, hx1⟩ : ∃ z, z = (((p0.toUInt32 >>> ((8 : Int32) &&& 31).toUInt32).toInt32) &&& (255 : Int32)) := ⟨_, rfl⟩
  have pre15 : ∀ t, Steps p.tables e below (s₁.setTop (mkF m 164 #[.val (.int p0), .val (.int p1), .val (.int p2), .val (.int la1), .val (.int la2), .val (.int lo1), .val (.int lo2), .val (.int x0), .val (.int x1), .val (.int (((p0.toUInt32 >>> ((16 : Int32) &&& 31).toUInt32).toInt32) &&& (255 : Int32))), .val (.int (((p0.toUInt32 >>> ((24 : Int32) &&& 31).toUInt32).toInt32) &&& (255 : Int32))), .val (.int (if (((p2.toUInt32 >>> ((8 : Int32) &&& 31).toUInt32).toInt32) &&& (1 : Int32)) = (0 : Int32) then (p1 &&& (255 : Int32)) else (p0 &&& (255 : Int32)))), .val (.int (if (((p2.toUInt32 >>> ((9 : Int32) &&& 31).toUInt32).toInt32) &&& (1 : Int32)) = (0 : Int32) then (((p1.toUInt32 >>> ((8 : Int32) &&& 31).toUInt32).toInt32) &&& (255 : Int32)) else (((p0.toUInt32 >>> ((8 : Int32) &&& 31).toUInt32).toInt32) &&& (255 : Int32)))), .val (.int (if (((p2.toUInt32 >>> ((10 : Int32) &&& 31).toUInt32).toInt32) &&& (1 : Int32)) = (0 : Int32) then (((p1.toUInt32 >>> ((16 : Int32) &&& 31).toUInt32).toInt32) &&& (255 : Int32)) else (((p0.toUInt32 >>> ((16 : Int32) &&& 31).toUInt32).toInt32) &&& (255 : Int32)))), .val (.int (if (((p2.toUInt32 >>> ((11 : Int32) &&& 31).toUInt32).toInt32) &&& (1 : Int32)) = (0 : Int32) then (((p1.toUInt32 >>> ((24 : Int32) &&& 31).toUInt32).toInt32) &&& (255 : Int32)) else (((p0.toUInt32 >>> ((24 : Int32) &&& 31).toUInt32).toInt32) &&& (255 : Int32)))), .unset, .unset, .unset, .unset, .unset] [])) t → Steps p.tables e below (s₁.setTop (entryFrame m #[(.int p0), (.int p1), (.int p2)] maxLocals)) t := by rw [hx1]; exact pre14
  obtain ⟨o0, ho0⟩ : ∃ z, z = (((p0.toUInt32 >>> ((16 : Int32) &&& 31).toUInt32).toInt32) &&& (255 : Int32)) := ⟨_, rfl⟩
  have pre16 : ∀ t, Steps p.tables e below (s₁.setTop (mkF m 164 #[.val (.int p0), .val (.int p1), .val (.int p2), .val (.int la1), .val (.int la2), .val (.int lo1), .val (.int lo2), .val (.int x0), .val (.int x1), .val (.int o0), .val (.int (((p0.toUInt32 >>> ((24 : Int32) &&& 31).toUInt32).toInt32) &&& (255 : Int32))), .val (.int (if (((p2.toUInt32 >>> ((8 : Int32) &&& 31).toUInt32).toInt32) &&& (1 : Int32)) = (0 : Int32) then (p1 &&& (255 : Int32)) else (p0 &&& (255 : Int32)))), .val (.int (if (((p2.toUInt32 >>> ((9 : Int32) &&& 31).toUInt32).toInt32) &&& (1 : Int32)) = (0 : Int32) then (((p1.toUInt32 >>> ((8 : Int32) &&& 31).toUInt32).toInt32) &&& (255 : Int32)) else (((p0.toUInt32 >>> ((8 : Int32) &&& 31).toUInt32).toInt32) &&& (255 : Int32)))), .val (.int (if (((p2.toUInt32 >>> ((10 : Int32) &&& 31).toUInt32).toInt32) &&& (1 : Int32)) = (0 : Int32) then (((p1.toUInt32 >>> ((16 : Int32) &&& 31).toUInt32).toInt32) &&& (255 : Int32)) else (((p0.toUInt32 >>> ((16 : Int32) &&& 31).toUInt32).toInt32) &&& (255 : Int32)))), .val (.int (if (((p2.toUInt32 >>> ((11 : Int32) &&& 31).toUInt32).toInt32) &&& (1 : Int32)) = (0 : Int32) then (((p1.toUInt32 >>> ((24 : Int32) &&& 31).toUInt32).toInt32) &&& (255 : Int32)) else (((p0.toUInt32 >>> ((24 : Int32) &&& 31).toUInt32).toInt32) &&& (255 : Int32)))), .unset, .unset, .unset, .unset, .unset] [])) t → Steps p.tables e below (s₁.setTop (entryFrame m #[(.int p0), (.int p1), (.int p2)] maxLocals)) t := by rw [ho0]; exact pre15
  obtain ⟨o1, ho1⟩ : ∃ z, z = (((p0.toUInt32 >>> ((24 : Int32) &&& 31).toUInt32).toInt32) &&& (255 : Int32)) := ⟨_, rfl⟩
  have pre17 : ∀ t, Steps p.tables e below (s₁.setTop (mkF m 164 #[.val (.int p0), .val (.int p1), .val (.int p2), .val (.int la1), .val (.int la2), .val (.int lo1), .val (.int lo2), .val (.int x0), .val (.int x1), .val (.int o0), .val (.int o1), .val (.int (if (((p2.toUInt32 >>> ((8 : Int32) &&& 31).toUInt32).toInt32) &&& (1 : Int32)) = (0 : Int32) then (p1 &&& (255 : Int32)) else (p0 &&& (255 : Int32)))), .val (.int (if (((p2.toUInt32 >>> ((9 : Int32) &&& 31).toUInt32).toInt32) &&& (1 : Int32)) = (0 : Int32) then (((p1.toUInt32 >>> ((8 : Int32) &&& 31).toUInt32).toInt32) &&& (255 : Int32)) else (((p0.toUInt32 >>> ((8 : Int32) &&& 31).toUInt32).toInt32) &&& (255 : Int32)))), .val (.int (if (((p2.toUInt32 >>> ((10 : Int32) &&& 31).toUInt32).toInt32) &&& (1 : Int32)) = (0 : Int32) then (((p1.toUInt32 >>> ((16 : Int32) &&& 31).toUInt32).toInt32) &&& (255 : Int32)) else (((p0.toUInt32 >>> ((16 : Int32) &&& 31).toUInt32).toInt32) &&& (255 : Int32)))), .val (.int (if (((p2.toUInt32 >>> ((11 : Int32) &&& 31).toUInt32).toInt32) &&& (1 : Int32)) = (0 : Int32) then (((p1.toUInt32 >>> ((24 : Int32) &&& 31).toUInt32).toInt32) &&& (255 : Int32)) else (((p0.toUInt32 >>> ((24 : Int32) &&& 31).toUInt32).toInt32) &&& (255 : Int32)))), .unset, .unset, .unset, .unset, .unset] [])) t → Steps p.tables e below (s₁.setTop (entryFrame m #[(.int p0), (.int p1), (.int p2)] maxLocals)) t := by rw [ho1]; exact pre16
  obtain ⟨y0, hy0⟩ : ∃ z, z = (if (((p2.toUInt32 >>> ((8 : Int32) &&& 31).toUInt32).toInt32) &&& (1 : Int32)) = (0 : Int32) then (p1 &&& (255 : Int32)) else (p0 &&& (255 : Int32))) := ⟨_, rfl⟩
  have pre18 : ∀ t, Steps p.tables e below (s₁.setTop (mkF m 164 #[.val (.int p0), .val (.int p1), .val (.int p2), .val (.int la1), .val (.int la2), .val (.int lo1), .val (.int lo2), .val (.int x0), .val (.int x1), .val (.int o0), .val (.int o1), .val (.int y0), .val (.int (if (((p2.toUInt32 >>> ((9 : Int32) &&& 31).toUInt32).toInt32) &&& (1 : Int32)) = (0 : Int32) then (((p1.toUInt32 >>> ((8 : Int32) &&& 31).toUInt32).toInt32) &&& (255 : Int32)) else (((p0.toUInt32 >>> ((8 : Int32) &&& 31).toUInt32).toInt32) &&& (255 : Int32)))), .val (.int (if (((p2.toUInt32 >>> ((10 : Int32) &&& 31).toUInt32).toInt32) &&& (1 : Int32)) = (0 : Int32) then (((p1.toUInt32 >>> ((16 : Int32) &&& 31).toUInt32).toInt32) &&& (255 : Int32)) else (((p0.toUInt32 >>> ((16 : Int32) &&& 31).toUInt32).toInt32) &&& (255 : Int32)))), .val (.int (if (((p2.toUInt32 >>> ((11 : Int32) &&& 31).toUInt32).toInt32) &&& (1 : Int32)) = (0 : Int32) then (((p1.toUInt32 >>> ((24 : Int32) &&& 31).toUInt32).toInt32) &&& (255 : Int32)) else (((p0.toUInt32 >>> ((24 : Int32) &&& 31).toUInt32).toInt32) &&& (255 : Int32)))), .unset, .unset, .unset, .unset, .unset] [])) t → Steps p.tables e below (s₁.setTop (entryFrame m #[(.int p0), (.int p1), (.int p2)] maxLocals)) t := by rw [hy0]; exact pre17
  obtain ⟨y1, hy1⟩ : ∃ z, z = (if (((p2.toUInt32 >>> ((9 : Int32) &&& 31).toUInt32).toInt32) &&& (1 : Int32)) = (0 : Int32) then (((p1.toUInt32 >>> ((8 : Int32) &&& 31).toUInt32).toInt32) &&& (255 : Int32)) else (((p0.toUInt32 >>> ((8 : Int32) &&& 31).toUInt32).toInt32) &&& (255 : Int32))) := ⟨_, rfl⟩
  have pre19 : ∀ t, Steps p.tables e below (s₁.setTop (mkF m 164 #[.val (.int p0), .val (.int p1), .val (.int p2), .val (.int la1), .val (.int la2), .val (.int lo1), .val (.int lo2), .val (.int x0), .val (.int x1), .val (.int o0), .val (.int o1), .val (.int y0), .val (.int y1), .val (.int (if (((p2.toUInt32 >>> ((10 : Int32) &&& 31).toUInt32).toInt32) &&& (1 : Int32)) = (0 : Int32) then (((p1.toUInt32 >>> ((16 : Int32) &&& 31).toUInt32).toInt32) &&& (255 : Int32)) else (((p0.toUInt32 >>> ((16 : Int32) &&& 31).toUInt32).toInt32) &&& (255 : Int32)))), .val (.int (if (((p2.toUInt32 >>> ((11 : Int32) &&& 31).toUInt32).toInt32) &&& (1 : Int32)) = (0 : Int32) then (((p1.toUInt32 >>> ((24 : Int32) &&& 31).toUInt32).toInt32) &&& (255 : Int32)) else (((p0.toUInt32 >>> ((24 : Int32) &&& 31).toUInt32).toInt32) &&& (255 : Int32)))), .unset, .unset, .unset, .unset, .unset] [])) t → Steps p.tables e below (s₁.setTop (entryFrame m #[(.int p0), (.int p1), (.int p2)] maxLocals)) t := by rw [hy1]; exact pre18
  obtain ⟨u0, hu0⟩ : ∃ z, z = (if (((p2.toUInt32 >>> ((10 : Int32) &&& 31).toUInt32).toInt32) &&& (1 : Int32)) = (0 : Int32) then (((p1.toUInt32 >>> ((16 : Int32) &&& 31).toUInt32).toInt32) &&& (255 : Int32)) else (((p0.toUInt32 >>> ((16 : Int32) &&& 31).toUInt32).toInt32) &&& (255 : Int32))) := ⟨_, rfl⟩
  have pre20 : ∀ t, Steps p.tables e below (s₁.setTop (mkF m 164 #[.val (.int p0), .val (.int p1), .val (.int p2), .val (.int la1), .val (.int la2), .val (.int lo1), .val (.int lo2), .val (.int x0), .val (.int x1), .val (.int o0), .val (.int o1), .val (.int y0), .val (.int y1), .val (.int u0), .val (.int (if (((p2.toUInt32 >>> ((11 : Int32) &&& 31).toUInt32).toInt32) &&& (1 : Int32)) = (0 : Int32) then (((p1.toUInt32 >>> ((24 : Int32) &&& 31).toUInt32).toInt32) &&& (255 : Int32)) else (((p0.toUInt32 >>> ((24 : Int32) &&& 31).toUInt32).toInt32) &&& (255 : Int32)))), .unset, .unset, .unset, .unset, .unset] [])) t → Steps p.tables e below (s₁.setTop (entryFrame m #[(.int p0), (.int p1), (.int p2)] maxLocals)) t := by rw [hu0]; exact pre19
  obtain ⟨u1, hu1⟩ : ∃ z, z = (if (((p2.toUInt32 >>> ((11 : Int32) &&& 31).toUInt32).toInt32) &&& (1 : Int32)) = (0 : Int32) then (((p1.toUInt32 >>> ((24 : Int32) &&& 31).toUInt32).toInt32) &&& (255 : Int32)) else (((p0.toUInt32 >>> ((24 : Int32) &&& 31).toUInt32).toInt32) &&& (255 : Int32))) := ⟨_, rfl⟩
  have pre21 : ∀ t, Steps p.tables e below (s₁.setTop (mkF m 164 #[.val (.int p0), .val (.int p1), .val (.int p2), .val (.int la1), .val (.int la2), .val (.int lo1), .val (.int lo2), .val (.int x0), .val (.int x1), .val (.int o0), .val (.int o1), .val (.int y0), .val (.int y1), .val (.int u0), .val (.int u1), .unset, .unset, .unset, .unset, .unset] [])) t → Steps p.tables e below (s₁.setTop (entryFrame m #[(.int p0), (.int p1), (.int p2)] maxLocals)) t := by rw [hu1]; exact pre20
  have h8_x0 : B8 x0 := by rw [hx0]; exact own_b8 _
  have h8_x1 : B8 x1 := by rw [hx1]; exact own_b8 _
  have h8_o0 : B8 o0 := by rw [ho0]; exact own_b8 _
  have h8_o1 : B8 o1 := by rw [ho1]; exact own_b8 _
  have h8_y0 : B8 y0 := by rw [hy0]; split <;> first | exact own_b8 _ | assumption
  have h8_y1 : B8 y1 := by rw [hy1]; split <;> first | exact own_b8 _ | assumption
  have h8_u0 : B8 u0 := by rw [hu0]; split <;> first | exact own_b8 _ | assumption
  have h8_u1 : B8 u1 := by rw [hu1]; split <;> first | exact own_b8 _ | assumption
  have h3_la1 : la1 = 0 ∨ la1 = 1 ∨ la1 = 2 := by rw [hla1]; exact own_m3 _
  have h3_la2 : la2 = 0 ∨ la2 = 1 ∨ la2 = 2 := by rw [hla2]; exact own_m3 _
  have h3_lo1 : lo1 = 0 ∨ lo1 = 1 ∨ lo1 = 2 := by rw [hlo1]; exact own_m3 _
  have h3_lo2 : lo2 = 0 ∨ lo2 = 1 ∨ lo2 = 2 := by rw [hlo2]; exact own_m3 _
  obtain ⟨_, _, ⟨T22, L22, k22, n22⟩, -, X22, hSi22, hgr22, ⟨Lc22, hQ22, l22, y22, z22, C22⟩, st22⟩ := callSS X0 hx (y := (⟨"com/example/grotti/grotti/OperationEqualsPinLaw", "mk", "(III)Ljava/lang/String;"⟩ : MethodName)) hown (mvT hZ (hw _ (List.mem_of_getElem? (i := 0) rfl))) (mvT hZ (hw _ (List.mem_of_getElem? (i := 1) rfl))) (mvT hZ (hw _ (List.mem_of_getElem? (i := 2) rfl))) (mvT hZ (hw _ (List.mem_of_getElem? (i := 3) rfl))) (by decide) (backOfSH (W := 0) (rm1 l Z ar0 hw [] la2 y0 y1 i_COMPACT_STRINGS  h0 n0 O0 F (h8_y0) (h8_y1)) hZ (hw _ (List.mem_of_getElem? (i := 3) rfl)) (hw _ (List.mem_of_getElem? (i := 2) rfl)) (by decide) (by decide) hEL hCH) (g := (mkF m 170 #[.val (.int p0), .val (.int p1), .val (.int p2), .val (.int la1), .val (.int la2), .val (.int lo1), .val (.int lo2), .val (.int x0), .val (.int x1), .val (.int o0), .val (.int o1), .val (.int y0), .val (.int y1), .val (.int u0), .val (.int u1), .unset, .unset, .unset, .unset, .unset] [(.int y1), (.int y0), (.int la2)])) rfl (by rw [hml]; rfl) (argsL := [(.int la2), (.int y0), (.int y1)]) (rest := []) (lenOf pd_0_170 rfl) rfl (by show 2 * 0 + _ ≤ _; exact Nat.le_of_eq rfl) (hb hby at_170) (fun _ _ => ⟨rfl, e0, (by decide : 0 + 3 ≤ _), (by decide : 0 + 8 ≤ _)⟩)
  dsimp only [Pt.U, Pt.locs, Pt.cells, Pt.slots] at X22 l22 y22 z22 st22 hQ22 C22 hSi22 hgr22
  subst l22 y22 z22
  have hkT22 := Nat.le_trans hk (Nat.le_of_eq (congrArg Array.size e0.symm))
  obtain ⟨X22, hS, hZ, hown⟩ := rebS hS hkT22 X22 hSi22 hgr22 hZ hown
  have hk := Nat.le_refl T22.heap.size
  have CR22 := CR0.trans C22
  obtain ⟨r22, t22, kb22, rfl, N22q, O22, Kc22, Eq22, Cq22, Vq22, Aq22⟩ := hQ22
  have N22 := Fr.app N0 N22q
  have K22 : Keep h0 T22.heap [] := K0.trans Kc22 all0
  have E_r22 := Eq22
  have F_coder_r22 := Cq22
  have F_value_r22 := Vq22
  have V_t22 := Aq22
  obtain ⟨T24, h24, X24, e24, E24, A24, D24, -, st24⟩ := newO X22 hx hZ hown (hw _ (List.mem_of_getElem? (i := 12) rfl)) (hw _ (List.mem_of_getElem? (i := 13) rfl)) (hw _ (List.mem_of_getElem? (i := 14) rfl)) rfl (g := (mkF m 175 #[.val (.int p0), .val (.int p1), .val (.int p2), .val (.int la1), .val (.int la2), .val (.int lo1), .val (.int lo2), .val (.int x0), .val (.int x1), .val (.int o0), .val (.int o1), .val (.int y0), .val (.int y1), .val (.int u0), .val (.int u1), .val (.ref r22), .unset, .unset, .unset, .unset] [])) rfl (hb hby at_175) (by decide) (by decide)
  obtain ⟨b24, g24⟩ : ∃ z, z = T22.heap.size := ⟨_, rfl⟩
  rw [← g24] at A24 D24 st24
  have ne_r22_b24 : r22 ≠ b24 := Nat.ne_of_lt (Nat.lt_of_lt_of_le E_r22.lt (Nat.le_of_eq g24.symm))
  have ne_t22_b24 : t22 ≠ b24 := Nat.ne_of_lt (Nat.lt_of_lt_of_le V_t22.lt (Nat.le_of_eq g24.symm))
  have g_b24 : n0 ≤ b24 := Nat.le_trans (own_old_le O22) (Nat.le_of_eq g24.symm)
  have sz_b24 : h0.size ≤ b24 := Nat.le_trans K22.1 (Nat.le_of_eq g24.symm)
  have O24 : Old Z n0 h24 := O22.ext E24
  have K24 : Keep h0 h24 [] := K22.ext E24
  have CH25 := CHv.ext E24 C22.1
  have CR25 := CR22.trans (CHr.ext E24 C22.1)
  have hk := Nat.le_trans hk E24.1
  have E_r22 := (E_r22.ext E24)
  have F_coder_r22 := (F_coder_r22.ext E24)
  have F_value_r22 := (F_value_r22.ext E24)
  have V_t22 := (V_t22.ext E24)
  have E_b24 := A24
  have F_app_b24 : Fld Z h24 b24 "com/example/grotti/grotti/Operation" "app" "Ljava/lang/String;" .null := D24 (Or.inr (hw _ (List.mem_of_getElem? (i := 45) rfl))) (ty := (.object "java/lang/String")) (by decide)
  have F_op_b24 : Fld Z h24 b24 "com/example/grotti/grotti/Operation" "op" "Ljava/lang/String;" .null := D24 (Or.inr (hw _ (List.mem_of_getElem? (i := 47) rfl))) (ty := (.object "java/lang/String")) (by decide)
  obtain ⟨_, _, ⟨T26, L26, k26, n26⟩, -, X26, hSi26, hgr26, ⟨Lc26, hQ26, l26, y26, z26, C26⟩, st26⟩ := callSS X24 hx (y := (⟨"com/example/grotti/grotti/OperationEqualsPinLaw", "mk", "(III)Ljava/lang/String;"⟩ : MethodName)) hown (mvT hZ (hw _ (List.mem_of_getElem? (i := 0) rfl))) (mvT hZ (hw _ (List.mem_of_getElem? (i := 1) rfl))) (mvT hZ (hw _ (List.mem_of_getElem? (i := 2) rfl))) (mvT hZ (hw _ (List.mem_of_getElem? (i := 3) rfl))) (by decide) (backOfSH (W := 2) (rm1 l Z ar0 hw [] la1 x0 x1 i_COMPACT_STRINGS  h24 n0 O24 F (h8_x0) (h8_x1)) hZ (hw _ (List.mem_of_getElem? (i := 3) rfl)) (hw _ (List.mem_of_getElem? (i := 2) rfl)) (by decide) (by decide) hEL CH25) (g := (mkF m 184 #[.val (.int p0), .val (.int p1), .val (.int p2), .val (.int la1), .val (.int la2), .val (.int lo1), .val (.int lo2), .val (.int x0), .val (.int x1), .val (.int o0), .val (.int o1), .val (.int y0), .val (.int y1), .val (.int u0), .val (.int u1), .val (.ref r22), .unset, .unset, .unset, .unset] [(.int x1), (.int x0), (.int la1), (.ref b24), (.ref b24)])) rfl (by rw [hml]; rfl) (argsL := [(.int la1), (.int x0), (.int x1)]) (rest := [(.ref b24), (.ref b24)]) (lenOf pd_0_184 rfl) rfl (by show 2 * 0 + _ ≤ _; exact Nat.le_of_eq rfl) (hb hby at_184) (fun _ _ => ⟨rfl, e24, (by decide : 4 + 3 ≤ _), (by decide : 10 + 8 ≤ _)⟩)
  dsimp only [Pt.U, Pt.locs, Pt.cells, Pt.slots] at X26 l26 y26 z26 st26 hQ26 C26 hSi26 hgr26
  subst l26 y26 z26
  have hkT26 := Nat.le_trans hk (Nat.le_of_eq (congrArg Array.size e24.symm))
  obtain ⟨X26, hS, hZ, hown⟩ := rebS hS hkT26 X26 hSi26 hgr26 hZ hown
  have hk := Nat.le_refl T26.heap.size
  have CR26 := CR25.trans C26
  obtain ⟨r26, t26, kb26, rfl, N26q, O26, Kc26, Eq26, Cq26, Vq26, Aq26⟩ := hQ26
  have N26 := Fr.app N22 N26q
  have K26 : Keep h0 T26.heap [] := K24.trans Kc26 all0
  have E_r22 := (E_r22.keep Kc26)
  have F_coder_r22 := (F_coder_r22.keep Kc26 nin0)
  have F_value_r22 := (F_value_r22.keep Kc26 nin0)
  have V_t22 := (V_t22.keep Kc26 nin0)
  have E_b24 := (E_b24.keep Kc26)
  have F_app_b24 := (F_app_b24.keep Kc26 nin0)
  have F_op_b24 := (F_op_b24.keep Kc26 nin0)
  have E_r26 := Eq26
  have F_coder_r26 := Cq26
  have F_value_r26 := Vq26
  have V_t26 := Aq26
  obtain ⟨_, _, ⟨T28, L28, k28, n28⟩, -, X28, hSi28, hgr28, ⟨Lc28, hQ28, l28, y28, z28, C28⟩, st28⟩ := callSS X26 hx (y := (⟨"com/example/grotti/grotti/OperationEqualsPinLaw", "mk", "(III)Ljava/lang/String;"⟩ : MethodName)) hown (mvT hZ (hw _ (List.mem_of_getElem? (i := 0) rfl))) (mvT hZ (hw _ (List.mem_of_getElem? (i := 1) rfl))) (mvT hZ (hw _ (List.mem_of_getElem? (i := 2) rfl))) (mvT hZ (hw _ (List.mem_of_getElem? (i := 3) rfl))) (by decide) (backOfSH (W := 3) (rm1 l Z ar0 hw [] lo1 o0 o1 i_COMPACT_STRINGS  T26.heap n0 O26 F (h8_o0) (h8_o1)) hZ (hw _ (List.mem_of_getElem? (i := 3) rfl)) (hw _ (List.mem_of_getElem? (i := 2) rfl)) (by decide) (by decide) hEL C26.1) (g := (mkF m 193 #[.val (.int p0), .val (.int p1), .val (.int p2), .val (.int la1), .val (.int la2), .val (.int lo1), .val (.int lo2), .val (.int x0), .val (.int x1), .val (.int o0), .val (.int o1), .val (.int y0), .val (.int y1), .val (.int u0), .val (.int u1), .val (.ref r22), .unset, .unset, .unset, .unset] [(.int o1), (.int o0), (.int lo1), (.ref r26), (.ref b24), (.ref b24)])) rfl (by rw [hml]; rfl) (argsL := [(.int lo1), (.int o0), (.int o1)]) (rest := [(.ref r26), (.ref b24), (.ref b24)]) (lenOf pd_0_193 rfl) rfl (by show 2 * 0 + _ ≤ _; exact Nat.le_of_eq rfl) (hb hby at_193) (fun _ _ => ⟨rfl, rfl, (by decide : 7 + 3 ≤ _), (by decide : 18 + 8 ≤ _)⟩)
  dsimp only [Pt.U, Pt.locs, Pt.cells, Pt.slots] at X28 l28 y28 z28 st28 hQ28 C28 hSi28 hgr28
  subst l28 y28 z28
  have hkT28 := hk
  obtain ⟨X28, hS, hZ, hown⟩ := rebS hS hkT28 X28 hSi28 hgr28 hZ hown
  have hk := Nat.le_refl T28.heap.size
  have CR28 := CR26.trans C28
  obtain ⟨r28, t28, kb28, rfl, N28q, O28, Kc28, Eq28, Cq28, Vq28, Aq28⟩ := hQ28
  have N28 := Fr.app N26 N28q
  have K28 : Keep h0 T28.heap [] := K26.trans Kc28 all0
  have E_r22 := (E_r22.keep Kc28)
  have F_coder_r22 := (F_coder_r22.keep Kc28 nin0)
  have F_value_r22 := (F_value_r22.keep Kc28 nin0)
  have V_t22 := (V_t22.keep Kc28 nin0)
  have E_b24 := (E_b24.keep Kc28)
  have F_app_b24 := (F_app_b24.keep Kc28 nin0)
  have F_op_b24 := (F_op_b24.keep Kc28 nin0)
  have E_r26 := (E_r26.keep Kc28)
  have F_coder_r26 := (F_coder_r26.keep Kc28 nin0)
  have F_value_r26 := (F_value_r26.keep Kc28 nin0)
  have V_t26 := (V_t26.keep Kc28 nin0)
  have E_r28 := Eq28
  have F_coder_r28 := Cq28
  have F_value_r28 := Vq28
  have V_t28 := Aq28
  obtain ⟨_, _, ⟨T30, L30, k30, n30⟩, -, X30, ⟨Lc30, hQ30, l30, y30, z30⟩, st30⟩ := X28.specialBack hx (y := (⟨"com/example/grotti/grotti/Operation", "<init>", "(Ljava/lang/String;Ljava/lang/String;)V"⟩ : MethodName)) rfl hown (mvT hZ (hw _ (List.mem_of_getElem? (i := 40) rfl))) (mvT hZ (hw _ (List.mem_of_getElem? (i := 41) rfl))) (mvT hZ (hw _ (List.mem_of_getElem? (i := 42) rfl))) (by decide) (backOf (W := 1) (rm8 l Z ar0 hw [] b24 r26 r28 i_COMPACT_STRINGS .null .null T28.heap n0 O28 F E_b24 F_app_b24 g_b24 F_op_b24) hZ (hw _ (List.mem_of_getElem? (i := 42) rfl)) (hw _ (List.mem_of_getElem? (i := 14) rfl)) (by decide) (by decide)) (g := (mkF m 196 #[.val (.int p0), .val (.int p1), .val (.int p2), .val (.int la1), .val (.int la2), .val (.int lo1), .val (.int lo2), .val (.int x0), .val (.int x1), .val (.int o0), .val (.int o1), .val (.int y0), .val (.int y1), .val (.int u0), .val (.int u1), .val (.ref r22), .unset, .unset, .unset, .unset] [(.ref r28), (.ref r26), (.ref b24), (.ref b24)])) rfl (by rw [hml]; rfl) (Steps.refl _) (a := b24) (argsL := [(.ref r26), (.ref r28)]) (rest := [(.ref b24)]) (lenOf pd_0_196 rfl) rfl (by show 2 * 0 + _ ≤ _; exact Nat.le_of_eq rfl) (hb hby at_196) (fun _ _ => ⟨rfl, rfl, (by decide : 10 + 0 ≤ _), (by decide : 26 + 0 ≤ _)⟩)
  dsimp only [Pt.U, Pt.locs, Pt.cells, Pt.slots] at X30 l30 y30 z30 st30 hQ30
  subst l30 y30 z30
  obtain ⟨rfl, N30q, O30, Kc30, fq30_0, fq30_1⟩ := hQ30
  have N30 := Fr.app N28 N30q
  have K30 : Keep h0 T30.heap [] := K28.trans Kc30 (allS (Or.inr sz_b24) all0)
  have sfw31 : Safe Z EL T28.vm _ b24 := (Safe.exa (hZ.alike : Z.vm.Alike T28.vm) E_b24 (by decide) (by decide))
  have ne_r26_b24 : r26 ≠ b24 := (ne_exa E_r26 E_b24 (by decide))
  have ne_t26_b24 : t26 ≠ b24 := (Ne.symm (ne_exa_arv E_b24 (hw _ (List.mem_of_getElem? (i := 13) rfl)) V_t26))
  have ne_r28_b24 : r28 ≠ b24 := (ne_exa E_r28 E_b24 (by decide))
  have ne_t28_b24 : t28 ≠ b24 := (Ne.symm (ne_exa_arv E_b24 (hw _ (List.mem_of_getElem? (i := 13) rfl)) V_t28))
  have CH32 := CHv.keep Kc30 (allS sfw31 all0) C28.1
  have CR32 := CR28.trans (CHr.keep Kc30 (allS sfw31 all0) C28.1)
  have hk := Nat.le_trans hk Kc30.1
  have E_r22 := (E_r22.keep Kc30)
  have F_coder_r22 := (F_coder_r22.keep Kc30 (ninS ne_r22_b24 nin0))
  have F_value_r22 := (F_value_r22.keep Kc30 (ninS ne_r22_b24 nin0))
  have V_t22 := (V_t22.keep Kc30 (ninS ne_t22_b24 nin0))
  have E_b24 := (E_b24.keep Kc30)
  have E_r26 := (E_r26.keep Kc30)
  have F_coder_r26 := (F_coder_r26.keep Kc30 (ninS ne_r26_b24 nin0))
  have F_value_r26 := (F_value_r26.keep Kc30 (ninS ne_r26_b24 nin0))
  have V_t26 := (V_t26.keep Kc30 (ninS ne_t26_b24 nin0))
  have E_r28 := (E_r28.keep Kc30)
  have F_coder_r28 := (F_coder_r28.keep Kc30 (ninS ne_r28_b24 nin0))
  have F_value_r28 := (F_value_r28.keep Kc30 (ninS ne_r28_b24 nin0))
  have V_t28 := (V_t28.keep Kc30 (ninS ne_t28_b24 nin0))
  have F_app_b24 := fq30_0
  have F_op_b24 := fq30_1
  obtain ⟨T33, h33, X33, e33, E33, A33, D33, -, st33⟩ := newO X30 hx hZ hown (hw _ (List.mem_of_getElem? (i := 12) rfl)) (hw _ (List.mem_of_getElem? (i := 13) rfl)) (hw _ (List.mem_of_getElem? (i := 14) rfl)) rfl (g := (mkF m 201 #[.val (.int p0), .val (.int p1), .val (.int p2), .val (.int la1), .val (.int la2), .val (.int lo1), .val (.int lo2), .val (.int x0), .val (.int x1), .val (.int o0), .val (.int o1), .val (.int y0), .val (.int y1), .val (.int u0), .val (.int u1), .val (.ref r22), .val (.ref b24), .unset, .unset, .unset] [])) rfl (hb hby at_201) (by decide) (by decide)
  obtain ⟨b33, g33⟩ : ∃ z, z = T30.heap.size := ⟨_, rfl⟩
  rw [← g33] at A33 D33 st33
  have ne_r22_b33 : r22 ≠ b33 := Nat.ne_of_lt (Nat.lt_of_lt_of_le E_r22.lt (Nat.le_of_eq g33.symm))
  have ne_t22_b33 : t22 ≠ b33 := Nat.ne_of_lt (Nat.lt_of_lt_of_le V_t22.lt (Nat.le_of_eq g33.symm))
  have ne_b24_b33 : b24 ≠ b33 := Nat.ne_of_lt (Nat.lt_of_lt_of_le E_b24.lt (Nat.le_of_eq g33.symm))
  have ne_r26_b33 : r26 ≠ b33 := Nat.ne_of_lt (Nat.lt_of_lt_of_le E_r26.lt (Nat.le_of_eq g33.symm))
  have ne_t26_b33 : t26 ≠ b33 := Nat.ne_of_lt (Nat.lt_of_lt_of_le V_t26.lt (Nat.le_of_eq g33.symm))
  have ne_r28_b33 : r28 ≠ b33 := Nat.ne_of_lt (Nat.lt_of_lt_of_le E_r28.lt (Nat.le_of_eq g33.symm))
  have ne_t28_b33 : t28 ≠ b33 := Nat.ne_of_lt (Nat.lt_of_lt_of_le V_t28.lt (Nat.le_of_eq g33.symm))
  have g_b33 : n0 ≤ b33 := Nat.le_trans (own_old_le O30) (Nat.le_of_eq g33.symm)
  have sz_b33 : h0.size ≤ b33 := Nat.le_trans K30.1 (Nat.le_of_eq g33.symm)
  have O33 : Old Z n0 h33 := O30.ext E33
  have K33 : Keep h0 h33 [] := K30.ext E33
  have CH34 := CHv.ext E33 CH32
  have CR34 := CR32.trans (CHr.ext E33 CH32)
  have hk := Nat.le_trans hk E33.1
  have E_r22 := (E_r22.ext E33)
  have F_coder_r22 := (F_coder_r22.ext E33)
  have F_value_r22 := (F_value_r22.ext E33)
  have V_t22 := (V_t22.ext E33)
  have E_b24 := (E_b24.ext E33)
  have E_r26 := (E_r26.ext E33)
  have F_coder_r26 := (F_coder_r26.ext E33)
  have F_value_r26 := (F_value_r26.ext E33)
  have V_t26 := (V_t26.ext E33)
  have E_r28 := (E_r28.ext E33)
  have F_coder_r28 := (F_coder_r28.ext E33)
  have F_value_r28 := (F_value_r28.ext E33)
  have V_t28 := (V_t28.ext E33)
  have F_app_b24 := (F_app_b24.ext E33)
  have F_op_b24 := (F_op_b24.ext E33)
  have E_b33 := A33
  have F_app_b33 : Fld Z h33 b33 "com/example/grotti/grotti/Operation" "app" "Ljava/lang/String;" .null := D33 (Or.inr (hw _ (List.mem_of_getElem? (i := 45) rfl))) (ty := (.object "java/lang/String")) (by decide)
  have F_op_b33 : Fld Z h33 b33 "com/example/grotti/grotti/Operation" "op" "Ljava/lang/String;" .null := D33 (Or.inr (hw _ (List.mem_of_getElem? (i := 47) rfl))) (ty := (.object "java/lang/String")) (by decide)
  obtain ⟨_, _, ⟨T35, L35, k35, n35⟩, -, X35, hSi35, hgr35, ⟨Lc35, hQ35, l35, y35, z35, C35⟩, st35⟩ := callSS X33 hx (y := (⟨"com/example/grotti/grotti/OperationEqualsPinLaw", "mk", "(III)Ljava/lang/String;"⟩ : MethodName)) hown (mvT hZ (hw _ (List.mem_of_getElem? (i := 0) rfl))) (mvT hZ (hw _ (List.mem_of_getElem? (i := 1) rfl))) (mvT hZ (hw _ (List.mem_of_getElem? (i := 2) rfl))) (mvT hZ (hw _ (List.mem_of_getElem? (i := 3) rfl))) (by decide) (backOfSH (W := 3) (rm1 l Z ar0 hw [] lo2 u0 u1 i_COMPACT_STRINGS  h33 n0 O33 F (h8_u0) (h8_u1)) hZ (hw _ (List.mem_of_getElem? (i := 3) rfl)) (hw _ (List.mem_of_getElem? (i := 2) rfl)) (by decide) (by decide) hEL CH34) (g := (mkF m 213 #[.val (.int p0), .val (.int p1), .val (.int p2), .val (.int la1), .val (.int la2), .val (.int lo1), .val (.int lo2), .val (.int x0), .val (.int x1), .val (.int o0), .val (.int o1), .val (.int y0), .val (.int y1), .val (.int u0), .val (.int u1), .val (.ref r22), .val (.ref b24), .unset, .unset, .unset] [(.int u1), (.int u0), (.int lo2), (.ref r22), (.ref b33), (.ref b33)])) rfl (by rw [hml]; rfl) (argsL := [(.int lo2), (.int u0), (.int u1)]) (rest := [(.ref r22), (.ref b33), (.ref b33)]) (lenOf pd_0_213 rfl) rfl (by show 2 * 0 + _ ≤ _; exact Nat.le_of_eq rfl) (hb hby at_213) (fun _ _ => ⟨rfl, e33, (by decide : 11 + 3 ≤ _), (by decide : 28 + 8 ≤ _)⟩)
  dsimp only [Pt.U, Pt.locs, Pt.cells, Pt.slots] at X35 l35 y35 z35 st35 hQ35 C35 hSi35 hgr35
  subst l35 y35 z35
  have hkT35 := Nat.le_trans hk (Nat.le_of_eq (congrArg Array.size e33.symm))
  obtain ⟨X35, hS, hZ, hown⟩ := rebS hS hkT35 X35 hSi35 hgr35 hZ hown
  have hk := Nat.le_refl T35.heap.size
  have CR35 := CR34.trans C35
  obtain ⟨r35, t35, kb35, rfl, N35q, O35, Kc35, Eq35, Cq35, Vq35, Aq35⟩ := hQ35
  have N35 := Fr.app N30 N35q
  have K35 : Keep h0 T35.heap [] := K33.trans Kc35 all0
  have E_r22 := (E_r22.keep Kc35)
  have F_coder_r22 := (F_coder_r22.keep Kc35 nin0)
  have F_value_r22 := (F_value_r22.keep Kc35 nin0)
  have V_t22 := (V_t22.keep Kc35 nin0)
  have E_b24 := (E_b24.keep Kc35)
  have E_r26 := (E_r26.keep Kc35)
  have F_coder_r26 := (F_coder_r26.keep Kc35 nin0)
  have F_value_r26 := (F_value_r26.keep Kc35 nin0)
  have V_t26 := (V_t26.keep Kc35 nin0)
  have E_r28 := (E_r28.keep Kc35)
  have F_coder_r28 := (F_coder_r28.keep Kc35 nin0)
  have F_value_r28 := (F_value_r28.keep Kc35 nin0)
  have V_t28 := (V_t28.keep Kc35 nin0)
  have F_app_b24 := (F_app_b24.keep Kc35 nin0)
  have F_op_b24 := (F_op_b24.keep Kc35 nin0)
  have E_b33 := (E_b33.keep Kc35)
  have F_app_b33 := (F_app_b33.keep Kc35 nin0)
  have F_op_b33 := (F_op_b33.keep Kc35 nin0)
  have E_r35 := Eq35
  have F_coder_r35 := Cq35
  have F_value_r35 := Vq35
  have V_t35 := Aq35
  obtain ⟨_, _, ⟨T37, L37, k37, n37⟩, -, X37, ⟨Lc37, hQ37, l37, y37, z37⟩, st37⟩ := X35.specialBack hx (y := (⟨"com/example/grotti/grotti/Operation", "<init>", "(Ljava/lang/String;Ljava/lang/String;)V"⟩ : MethodName)) rfl hown (mvT hZ (hw _ (List.mem_of_getElem? (i := 40) rfl))) (mvT hZ (hw _ (List.mem_of_getElem? (i := 41) rfl))) (mvT hZ (hw _ (List.mem_of_getElem? (i := 42) rfl))) (by decide) (backOf (W := 1) (rm8 l Z ar0 hw [] b33 r22 r35 i_COMPACT_STRINGS .null .null T35.heap n0 O35 F E_b33 F_app_b33 g_b33 F_op_b33) hZ (hw _ (List.mem_of_getElem? (i := 42) rfl)) (hw _ (List.mem_of_getElem? (i := 14) rfl)) (by decide) (by decide)) (g := (mkF m 216 #[.val (.int p0), .val (.int p1), .val (.int p2), .val (.int la1), .val (.int la2), .val (.int lo1), .val (.int lo2), .val (.int x0), .val (.int x1), .val (.int o0), .val (.int o1), .val (.int y0), .val (.int y1), .val (.int u0), .val (.int u1), .val (.ref r22), .val (.ref b24), .unset, .unset, .unset] [(.ref r35), (.ref r22), (.ref b33), (.ref b33)])) rfl (by rw [hml]; rfl) (Steps.refl _) (a := b33) (argsL := [(.ref r22), (.ref r35)]) (rest := [(.ref b33)]) (lenOf pd_0_216 rfl) rfl (by show 2 * 0 + _ ≤ _; exact Nat.le_of_eq rfl) (hb hby at_216) (fun _ _ => ⟨rfl, rfl, (by decide : 14 + 0 ≤ _), (by decide : 36 + 0 ≤ _)⟩)
  dsimp only [Pt.U, Pt.locs, Pt.cells, Pt.slots] at X37 l37 y37 z37 st37 hQ37
  subst l37 y37 z37
  obtain ⟨rfl, N37q, O37, Kc37, fq37_0, fq37_1⟩ := hQ37
  have N37 := Fr.app N35 N37q
  have K37 : Keep h0 T37.heap [] := K35.trans Kc37 (allS (Or.inr sz_b33) all0)
  have sfw38 : Safe Z EL T35.vm _ b33 := (Safe.exa (hZ.alike : Z.vm.Alike T35.vm) E_b33 (by decide) (by decide))
  have ne_r35_b33 : r35 ≠ b33 := (ne_exa E_r35 E_b33 (by decide))
  have ne_t35_b33 : t35 ≠ b33 := (Ne.symm (ne_exa_arv E_b33 (hw _ (List.mem_of_getElem? (i := 13) rfl)) V_t35))
  have CH39 := CHv.keep Kc37 (allS sfw38 all0) C35.1
  have CR39 := CR35.trans (CHr.keep Kc37 (allS sfw38 all0) C35.1)
  have hk := Nat.le_trans hk Kc37.1
  have E_r22 := (E_r22.keep Kc37)
  have F_coder_r22 := (F_coder_r22.keep Kc37 (ninS ne_r22_b33 nin0))
  have F_value_r22 := (F_value_r22.keep Kc37 (ninS ne_r22_b33 nin0))
  have V_t22 := (V_t22.keep Kc37 (ninS ne_t22_b33 nin0))
  have E_b24 := (E_b24.keep Kc37)
  have E_r26 := (E_r26.keep Kc37)
  have F_coder_r26 := (F_coder_r26.keep Kc37 (ninS ne_r26_b33 nin0))
  have F_value_r26 := (F_value_r26.keep Kc37 (ninS ne_r26_b33 nin0))
  have V_t26 := (V_t26.keep Kc37 (ninS ne_t26_b33 nin0))
  have E_r28 := (E_r28.keep Kc37)
  have F_coder_r28 := (F_coder_r28.keep Kc37 (ninS ne_r28_b33 nin0))
  have F_value_r28 := (F_value_r28.keep Kc37 (ninS ne_r28_b33 nin0))
  have V_t28 := (V_t28.keep Kc37 (ninS ne_t28_b33 nin0))
  have F_app_b24 := (F_app_b24.keep Kc37 (ninS ne_b24_b33 nin0))
  have F_op_b24 := (F_op_b24.keep Kc37 (ninS ne_b24_b33 nin0))
  have E_b33 := (E_b33.keep Kc37)
  have E_r35 := (E_r35.keep Kc37)
  have F_coder_r35 := (F_coder_r35.keep Kc37 (ninS ne_r35_b33 nin0))
  have F_value_r35 := (F_value_r35.keep Kc37 (ninS ne_r35_b33 nin0))
  have V_t35 := (V_t35.keep Kc37 (ninS ne_t35_b33 nin0))
  have F_app_b33 := fq37_0
  have F_op_b33 := fq37_1
  obtain ⟨_, _, ⟨T40, L40, k40, n40⟩, -, X40, ⟨Lc40, hQ40, l40, y40, z40⟩, st40⟩ := Jvm.LawKit.callS X37 hx (y := (⟨"com/example/grotti/grotti/OperationEqualsPinLaw", "same", "(IIIIII)Z"⟩ : MethodName)) hown (mvT hZ (hw _ (List.mem_of_getElem? (i := 48) rfl))) (mvT hZ (hw _ (List.mem_of_getElem? (i := 49) rfl))) (mvT hZ (hw _ (List.mem_of_getElem? (i := 2) rfl))) (mvT hZ (hw _ (List.mem_of_getElem? (i := 50) rfl))) (by decide) (backOf (W := 0) (rm9 l Z ar0 hw [] la1 x0 x1 la2 y0 y1 i_COMPACT_STRINGS  T37.heap n0 O37 F ) hZ (hw _ (List.mem_of_getElem? (i := 50) rfl)) (hw _ (List.mem_of_getElem? (i := 2) rfl)) (by decide) (by decide)) (g := (mkF m 232 #[.val (.int p0), .val (.int p1), .val (.int p2), .val (.int la1), .val (.int la2), .val (.int lo1), .val (.int lo2), .val (.int x0), .val (.int x1), .val (.int o0), .val (.int o1), .val (.int y0), .val (.int y1), .val (.int u0), .val (.int u1), .val (.ref r22), .val (.ref b24), .val (.ref b33), .unset, .unset] [(.int y1), (.int y0), (.int la2), (.int x1), (.int x0), (.int la1)])) rfl (by rw [hml]; rfl) (argsL := [(.int la1), (.int x0), (.int x1), (.int la2), (.int y0), (.int y1)]) (rest := []) (lenOf pd_0_232 rfl) rfl (by show 2 * 0 + _ ≤ _; exact Nat.le_of_eq rfl) (hb hby at_232) (fun _ _ => ⟨rfl, rfl, (by decide : 14 + 0 ≤ _), (by decide : 36 + 0 ≤ _)⟩)
  dsimp only [Pt.U, Pt.locs, Pt.cells, Pt.slots] at X40 l40 y40 z40 st40 hQ40
  subst l40 y40 z40
  obtain ⟨rfl, N40q, O40, Kc40⟩ := hQ40
  have N40 := Fr.app N37 N40q
  have K40 : Keep h0 T40.heap [] := K37.trans Kc40 all0
  have CH41 := CHv.keep Kc40 all0 CH39
  have CR41 := CR39.trans (CHr.keep Kc40 all0 CH39)
  have hk := Nat.le_trans hk Kc40.1
  have E_r22 := (E_r22.keep Kc40)
  have F_coder_r22 := (F_coder_r22.keep Kc40 nin0)
  have F_value_r22 := (F_value_r22.keep Kc40 nin0)
  have V_t22 := (V_t22.keep Kc40 nin0)
  have E_b24 := (E_b24.keep Kc40)
  have E_r26 := (E_r26.keep Kc40)
  have F_coder_r26 := (F_coder_r26.keep Kc40 nin0)
  have F_value_r26 := (F_value_r26.keep Kc40 nin0)
  have V_t26 := (V_t26.keep Kc40 nin0)
  have E_r28 := (E_r28.keep Kc40)
  have F_coder_r28 := (F_coder_r28.keep Kc40 nin0)
  have F_value_r28 := (F_value_r28.keep Kc40 nin0)
  have V_t28 := (V_t28.keep Kc40 nin0)
  have F_app_b24 := (F_app_b24.keep Kc40 nin0)
  have F_op_b24 := (F_op_b24.keep Kc40 nin0)
  have E_b33 := (E_b33.keep Kc40)
  have E_r35 := (E_r35.keep Kc40)
  have F_coder_r35 := (F_coder_r35.keep Kc40 nin0)
  have F_value_r35 := (F_value_r35.keep Kc40 nin0)
  have V_t35 := (V_t35.keep Kc40 nin0)
  have F_app_b33 := (F_app_b33.keep Kc40 nin0)
  have F_op_b33 := (F_op_b33.keep Kc40 nin0)
  have pre42 : ∀ t, Steps p.tables e below (T40.setTop (mkF m 235 #[.val (.int p0), .val (.int p1), .val (.int p2), .val (.int la1), .val (.int la2), .val (.int lo1), .val (.int lo2), .val (.int x0), .val (.int x1), .val (.int o0), .val (.int o1), .val (.int y0), .val (.int y1), .val (.int u0), .val (.int u1), .val (.ref r22), .val (.ref b24), .val (.ref b33), .unset, .unset] [(.int (v9 la1 x0 x1 la2 y0 y1))])) t → Steps p.tables e below (s₁.setTop (entryFrame m #[(.int p0), (.int p1), (.int p2)] maxLocals)) t := by
    intro t k
    refine pre21 _ ?_
    show Steps p.tables e below (s₁.setTop (mkF m 164 #[.val (.int p0), .val (.int p1), .val (.int p2), .val (.int la1), .val (.int la2), .val (.int lo1), .val (.int lo2), .val (.int x0), .val (.int x1), .val (.int o0), .val (.int o1), .val (.int y0), .val (.int y1), .val (.int u0), .val (.int u1), .unset, .unset, .unset, .unset, .unset] [])) _
    refine XS.iload X0.here hx rfl (hb hby at_164) rfl ?_
    show Steps p.tables e below (s₁.setTop (mkF m 166 #[.val (.int p0), .val (.int p1), .val (.int p2), .val (.int la1), .val (.int la2), .val (.int lo1), .val (.int lo2), .val (.int x0), .val (.int x1), .val (.int o0), .val (.int o1), .val (.int y0), .val (.int y1), .val (.int u0), .val (.int u1), .unset, .unset, .unset, .unset, .unset] [(.int la2)])) _
    refine XS.iload X0.here hx rfl (hb hby at_166) rfl ?_
    show Steps p.tables e below (s₁.setTop (mkF m 168 #[.val (.int p0), .val (.int p1), .val (.int p2), .val (.int la1), .val (.int la2), .val (.int lo1), .val (.int lo2), .val (.int x0), .val (.int x1), .val (.int o0), .val (.int o1), .val (.int y0), .val (.int y1), .val (.int u0), .val (.int u1), .unset, .unset, .unset, .unset, .unset] [(.int y0), (.int la2)])) _
    refine XS.iload X0.here hx rfl (hb hby at_168) rfl ?_
    show Steps p.tables e below (s₁.setTop (mkF m 170 #[.val (.int p0), .val (.int p1), .val (.int p2), .val (.int la1), .val (.int la2), .val (.int lo1), .val (.int lo2), .val (.int x0), .val (.int x1), .val (.int o0), .val (.int o1), .val (.int y0), .val (.int y1), .val (.int u0), .val (.int u1), .unset, .unset, .unset, .unset, .unset] [(.int y1), (.int y0), (.int la2)])) _
    refine st22.trans ?_
    show Steps p.tables e below (T22.setTop (mkF m 173 #[.val (.int p0), .val (.int p1), .val (.int p2), .val (.int la1), .val (.int la2), .val (.int lo1), .val (.int lo2), .val (.int x0), .val (.int x1), .val (.int o0), .val (.int o1), .val (.int y0), .val (.int y1), .val (.int u0), .val (.int u1), .unset, .unset, .unset, .unset, .unset] [(.ref r22)])) _
    refine XS.astore X22.here hx rfl (hb hby at_173) rfl rfl (l' := #[.val (.int p0), .val (.int p1), .val (.int p2), .val (.int la1), .val (.int la2), .val (.int lo1), .val (.int lo2), .val (.int x0), .val (.int x1), .val (.int o0), .val (.int o1), .val (.int y0), .val (.int y1), .val (.int u0), .val (.int u1), .val (.ref r22), .unset, .unset, .unset, .unset]) rfl ?_
    show Steps p.tables e below (T22.setTop (mkF m 175 #[.val (.int p0), .val (.int p1), .val (.int p2), .val (.int la1), .val (.int la2), .val (.int lo1), .val (.int lo2), .val (.int x0), .val (.int x1), .val (.int o0), .val (.int o1), .val (.int y0), .val (.int y1), .val (.int u0), .val (.int u1), .val (.ref r22), .unset, .unset, .unset, .unset] [])) _
    refine st24 _ ?_
    show Steps p.tables e below (T24.setTop (mkF m 178 #[.val (.int p0), .val (.int p1), .val (.int p2), .val (.int la1), .val (.int la2), .val (.int lo1), .val (.int lo2), .val (.int x0), .val (.int x1), .val (.int o0), .val (.int o1), .val (.int y0), .val (.int y1), .val (.int u0), .val (.int u1), .val (.ref r22), .unset, .unset, .unset, .unset] [(.ref b24)])) _
    refine XS.dup X24.here hx rfl (hb hby at_178) rfl rfl ?_
    show Steps p.tables e below (T24.setTop (mkF m 179 #[.val (.int p0), .val (.int p1), .val (.int p2), .val (.int la1), .val (.int la2), .val (.int lo1), .val (.int lo2), .val (.int x0), .val (.int x1), .val (.int o0), .val (.int o1), .val (.int y0), .val (.int y1), .val (.int u0), .val (.int u1), .val (.ref r22), .unset, .unset, .unset, .unset] [(.ref b24), (.ref b24)])) _
    refine XS.iloadN X24.here hx rfl (hb hby at_179) rfl ?_
    show Steps p.tables e below (T24.setTop (mkF m 180 #[.val (.int p0), .val (.int p1), .val (.int p2), .val (.int la1), .val (.int la2), .val (.int lo1), .val (.int lo2), .val (.int x0), .val (.int x1), .val (.int o0), .val (.int o1), .val (.int y0), .val (.int y1), .val (.int u0), .val (.int u1), .val (.ref r22), .unset, .unset, .unset, .unset] [(.int la1), (.ref b24), (.ref b24)])) _
    refine XS.iload X24.here hx rfl (hb hby at_180) rfl ?_
    show Steps p.tables e below (T24.setTop (mkF m 182 #[.val (.int p0), .val (.int p1), .val (.int p2), .val (.int la1), .val (.int la2), .val (.int lo1), .val (.int lo2), .val (.int x0), .val (.int x1), .val (.int o0), .val (.int o1), .val (.int y0), .val (.int y1), .val (.int u0), .val (.int u1), .val (.ref r22), .unset, .unset, .unset, .unset] [(.int x0), (.int la1), (.ref b24), (.ref b24)])) _
    refine XS.iload X24.here hx rfl (hb hby at_182) rfl ?_
    show Steps p.tables e below (T24.setTop (mkF m 184 #[.val (.int p0), .val (.int p1), .val (.int p2), .val (.int la1), .val (.int la2), .val (.int lo1), .val (.int lo2), .val (.int x0), .val (.int x1), .val (.int o0), .val (.int o1), .val (.int y0), .val (.int y1), .val (.int u0), .val (.int u1), .val (.ref r22), .unset, .unset, .unset, .unset] [(.int x1), (.int x0), (.int la1), (.ref b24), (.ref b24)])) _
    refine st26.trans ?_
    show Steps p.tables e below (T26.setTop (mkF m 187 #[.val (.int p0), .val (.int p1), .val (.int p2), .val (.int la1), .val (.int la2), .val (.int lo1), .val (.int lo2), .val (.int x0), .val (.int x1), .val (.int o0), .val (.int o1), .val (.int y0), .val (.int y1), .val (.int u0), .val (.int u1), .val (.ref r22), .unset, .unset, .unset, .unset] [(.ref r26), (.ref b24), (.ref b24)])) _
    refine XS.iload X26.here hx rfl (hb hby at_187) rfl ?_
    show Steps p.tables e below (T26.setTop (mkF m 189 #[.val (.int p0), .val (.int p1), .val (.int p2), .val (.int la1), .val (.int la2), .val (.int lo1), .val (.int lo2), .val (.int x0), .val (.int x1), .val (.int o0), .val (.int o1), .val (.int y0), .val (.int y1), .val (.int u0), .val (.int u1), .val (.ref r22), .unset, .unset, .unset, .unset] [(.int lo1), (.ref r26), (.ref b24), (.ref b24)])) _
    refine XS.iload X26.here hx rfl (hb hby at_189) rfl ?_
    show Steps p.tables e below (T26.setTop (mkF m 191 #[.val (.int p0), .val (.int p1), .val (.int p2), .val (.int la1), .val (.int la2), .val (.int lo1), .val (.int lo2), .val (.int x0), .val (.int x1), .val (.int o0), .val (.int o1), .val (.int y0), .val (.int y1), .val (.int u0), .val (.int u1), .val (.ref r22), .unset, .unset, .unset, .unset] [(.int o0), (.int lo1), (.ref r26), (.ref b24), (.ref b24)])) _
    refine XS.iload X26.here hx rfl (hb hby at_191) rfl ?_
    show Steps p.tables e below (T26.setTop (mkF m 193 #[.val (.int p0), .val (.int p1), .val (.int p2), .val (.int la1), .val (.int la2), .val (.int lo1), .val (.int lo2), .val (.int x0), .val (.int x1), .val (.int o0), .val (.int o1), .val (.int y0), .val (.int y1), .val (.int u0), .val (.int u1), .val (.ref r22), .unset, .unset, .unset, .unset] [(.int o1), (.int o0), (.int lo1), (.ref r26), (.ref b24), (.ref b24)])) _
    refine st28.trans ?_
    show Steps p.tables e below (T28.setTop (mkF m 196 #[.val (.int p0), .val (.int p1), .val (.int p2), .val (.int la1), .val (.int la2), .val (.int lo1), .val (.int lo2), .val (.int x0), .val (.int x1), .val (.int o0), .val (.int o1), .val (.int y0), .val (.int y1), .val (.int u0), .val (.int u1), .val (.ref r22), .unset, .unset, .unset, .unset] [(.ref r28), (.ref r26), (.ref b24), (.ref b24)])) _
    refine st30.trans ?_
    show Steps p.tables e below (T30.setTop (mkF m 199 #[.val (.int p0), .val (.int p1), .val (.int p2), .val (.int la1), .val (.int la2), .val (.int lo1), .val (.int lo2), .val (.int x0), .val (.int x1), .val (.int o0), .val (.int o1), .val (.int y0), .val (.int y1), .val (.int u0), .val (.int u1), .val (.ref r22), .unset, .unset, .unset, .unset] [(.ref b24)])) _
    refine XS.astore X30.here hx rfl (hb hby at_199) rfl rfl (l' := #[.val (.int p0), .val (.int p1), .val (.int p2), .val (.int la1), .val (.int la2), .val (.int lo1), .val (.int lo2), .val (.int x0), .val (.int x1), .val (.int o0), .val (.int o1), .val (.int y0), .val (.int y1), .val (.int u0), .val (.int u1), .val (.ref r22), .val (.ref b24), .unset, .unset, .unset]) rfl ?_
    show Steps p.tables e below (T30.setTop (mkF m 201 #[.val (.int p0), .val (.int p1), .val (.int p2), .val (.int la1), .val (.int la2), .val (.int lo1), .val (.int lo2), .val (.int x0), .val (.int x1), .val (.int o0), .val (.int o1), .val (.int y0), .val (.int y1), .val (.int u0), .val (.int u1), .val (.ref r22), .val (.ref b24), .unset, .unset, .unset] [])) _
    refine st33 _ ?_
    show Steps p.tables e below (T33.setTop (mkF m 204 #[.val (.int p0), .val (.int p1), .val (.int p2), .val (.int la1), .val (.int la2), .val (.int lo1), .val (.int lo2), .val (.int x0), .val (.int x1), .val (.int o0), .val (.int o1), .val (.int y0), .val (.int y1), .val (.int u0), .val (.int u1), .val (.ref r22), .val (.ref b24), .unset, .unset, .unset] [(.ref b33)])) _
    refine XS.dup X33.here hx rfl (hb hby at_204) rfl rfl ?_
    show Steps p.tables e below (T33.setTop (mkF m 205 #[.val (.int p0), .val (.int p1), .val (.int p2), .val (.int la1), .val (.int la2), .val (.int lo1), .val (.int lo2), .val (.int x0), .val (.int x1), .val (.int o0), .val (.int o1), .val (.int y0), .val (.int y1), .val (.int u0), .val (.int u1), .val (.ref r22), .val (.ref b24), .unset, .unset, .unset] [(.ref b33), (.ref b33)])) _
    refine XS.aload X33.here hx rfl (hb hby at_205) rfl rfl ?_
    show Steps p.tables e below (T33.setTop (mkF m 207 #[.val (.int p0), .val (.int p1), .val (.int p2), .val (.int la1), .val (.int la2), .val (.int lo1), .val (.int lo2), .val (.int x0), .val (.int x1), .val (.int o0), .val (.int o1), .val (.int y0), .val (.int y1), .val (.int u0), .val (.int u1), .val (.ref r22), .val (.ref b24), .unset, .unset, .unset] [(.ref r22), (.ref b33), (.ref b33)])) _
    refine XS.iload X33.here hx rfl (hb hby at_207) rfl ?_
    show Steps p.tables e below (T33.setTop (mkF m 209 #[.val (.int p0), .val (.int p1), .val (.int p2), .val (.int la1), .val (.int la2), .val (.int lo1), .val (.int lo2), .val (.int x0), .val (.int x1), .val (.int o0), .val (.int o1), .val (.int y0), .val (.int y1), .val (.int u0), .val (.int u1), .val (.ref r22), .val (.ref b24), .unset, .unset, .unset] [(.int lo2), (.ref r22), (.ref b33), (.ref b33)])) _
    refine XS.iload X33.here hx rfl (hb hby at_209) rfl ?_
    show Steps p.tables e below (T33.setTop (mkF m 211 #[.val (.int p0), .val (.int p1), .val (.int p2), .val (.int la1), .val (.int la2), .val (.int lo1), .val (.int lo2), .val (.int x0), .val (.int x1), .val (.int o0), .val (.int o1), .val (.int y0), .val (.int y1), .val (.int u0), .val (.int u1), .val (.ref r22), .val (.ref b24), .unset, .unset, .unset] [(.int u0), (.int lo2), (.ref r22), (.ref b33), (.ref b33)])) _
    refine XS.iload X33.here hx rfl (hb hby at_211) rfl ?_
    show Steps p.tables e below (T33.setTop (mkF m 213 #[.val (.int p0), .val (.int p1), .val (.int p2), .val (.int la1), .val (.int la2), .val (.int lo1), .val (.int lo2), .val (.int x0), .val (.int x1), .val (.int o0), .val (.int o1), .val (.int y0), .val (.int y1), .val (.int u0), .val (.int u1), .val (.ref r22), .val (.ref b24), .unset, .unset, .unset] [(.int u1), (.int u0), (.int lo2), (.ref r22), (.ref b33), (.ref b33)])) _
    refine st35.trans ?_
    show Steps p.tables e below (T35.setTop (mkF m 216 #[.val (.int p0), .val (.int p1), .val (.int p2), .val (.int la1), .val (.int la2), .val (.int lo1), .val (.int lo2), .val (.int x0), .val (.int x1), .val (.int o0), .val (.int o1), .val (.int y0), .val (.int y1), .val (.int u0), .val (.int u1), .val (.ref r22), .val (.ref b24), .unset, .unset, .unset] [(.ref r35), (.ref r22), (.ref b33), (.ref b33)])) _
    refine st37.trans ?_
    show Steps p.tables e below (T37.setTop (mkF m 219 #[.val (.int p0), .val (.int p1), .val (.int p2), .val (.int la1), .val (.int la2), .val (.int lo1), .val (.int lo2), .val (.int x0), .val (.int x1), .val (.int o0), .val (.int o1), .val (.int y0), .val (.int y1), .val (.int u0), .val (.int u1), .val (.ref r22), .val (.ref b24), .unset, .unset, .unset] [(.ref b33)])) _
    refine XS.astore X37.here hx rfl (hb hby at_219) rfl rfl (l' := #[.val (.int p0), .val (.int p1), .val (.int p2), .val (.int la1), .val (.int la2), .val (.int lo1), .val (.int lo2), .val (.int x0), .val (.int x1), .val (.int o0), .val (.int o1), .val (.int y0), .val (.int y1), .val (.int u0), .val (.int u1), .val (.ref r22), .val (.ref b24), .val (.ref b33), .unset, .unset]) rfl ?_
    show Steps p.tables e below (T37.setTop (mkF m 221 #[.val (.int p0), .val (.int p1), .val (.int p2), .val (.int la1), .val (.int la2), .val (.int lo1), .val (.int lo2), .val (.int x0), .val (.int x1), .val (.int o0), .val (.int o1), .val (.int y0), .val (.int y1), .val (.int u0), .val (.int u1), .val (.ref r22), .val (.ref b24), .val (.ref b33), .unset, .unset] [])) _
    refine XS.iloadN X37.here hx rfl (hb hby at_221) rfl ?_
    show Steps p.tables e below (T37.setTop (mkF m 222 #[.val (.int p0), .val (.int p1), .val (.int p2), .val (.int la1), .val (.int la2), .val (.int lo1), .val (.int lo2), .val (.int x0), .val (.int x1), .val (.int o0), .val (.int o1), .val (.int y0), .val (.int y1), .val (.int u0), .val (.int u1), .val (.ref r22), .val (.ref b24), .val (.ref b33), .unset, .unset] [(.int la1)])) _
    refine XS.iload X37.here hx rfl (hb hby at_222) rfl ?_
    show Steps p.tables e below (T37.setTop (mkF m 224 #[.val (.int p0), .val (.int p1), .val (.int p2), .val (.int la1), .val (.int la2), .val (.int lo1), .val (.int lo2), .val (.int x0), .val (.int x1), .val (.int o0), .val (.int o1), .val (.int y0), .val (.int y1), .val (.int u0), .val (.int u1), .val (.ref r22), .val (.ref b24), .val (.ref b33), .unset, .unset] [(.int x0), (.int la1)])) _
    refine XS.iload X37.here hx rfl (hb hby at_224) rfl ?_
    show Steps p.tables e below (T37.setTop (mkF m 226 #[.val (.int p0), .val (.int p1), .val (.int p2), .val (.int la1), .val (.int la2), .val (.int lo1), .val (.int lo2), .val (.int x0), .val (.int x1), .val (.int o0), .val (.int o1), .val (.int y0), .val (.int y1), .val (.int u0), .val (.int u1), .val (.ref r22), .val (.ref b24), .val (.ref b33), .unset, .unset] [(.int x1), (.int x0), (.int la1)])) _
    refine XS.iload X37.here hx rfl (hb hby at_226) rfl ?_
    show Steps p.tables e below (T37.setTop (mkF m 228 #[.val (.int p0), .val (.int p1), .val (.int p2), .val (.int la1), .val (.int la2), .val (.int lo1), .val (.int lo2), .val (.int x0), .val (.int x1), .val (.int o0), .val (.int o1), .val (.int y0), .val (.int y1), .val (.int u0), .val (.int u1), .val (.ref r22), .val (.ref b24), .val (.ref b33), .unset, .unset] [(.int la2), (.int x1), (.int x0), (.int la1)])) _
    refine XS.iload X37.here hx rfl (hb hby at_228) rfl ?_
    show Steps p.tables e below (T37.setTop (mkF m 230 #[.val (.int p0), .val (.int p1), .val (.int p2), .val (.int la1), .val (.int la2), .val (.int lo1), .val (.int lo2), .val (.int x0), .val (.int x1), .val (.int o0), .val (.int o1), .val (.int y0), .val (.int y1), .val (.int u0), .val (.int u1), .val (.ref r22), .val (.ref b24), .val (.ref b33), .unset, .unset] [(.int y0), (.int la2), (.int x1), (.int x0), (.int la1)])) _
    refine XS.iload X37.here hx rfl (hb hby at_230) rfl ?_
    show Steps p.tables e below (T37.setTop (mkF m 232 #[.val (.int p0), .val (.int p1), .val (.int p2), .val (.int la1), .val (.int la2), .val (.int lo1), .val (.int lo2), .val (.int x0), .val (.int x1), .val (.int o0), .val (.int o1), .val (.int y0), .val (.int y1), .val (.int u0), .val (.int u1), .val (.ref r22), .val (.ref b24), .val (.ref b33), .unset, .unset] [(.int y1), (.int y0), (.int la2), (.int x1), (.int x0), (.int la1)])) _
    refine st40 _ ?_
    exact k
  by_cases hc43 : (v9 la1 x0 x1 la2 y0 y1) = (0 : Int32)
  ·
    obtain ⟨cq44, kq44, q44a, q44b, q44c⟩ := isOf hZ rfl E_b24
    obtain ⟨_, _, ⟨T44, L44, k44, n44⟩, -, X44, ⟨Lc44, hQ44, l44, y44, z44⟩, st44⟩ := X40.virtualBack hx (y := (⟨"com/example/grotti/grotti/Operation", "equals", "(Ljava/lang/Object;)Z"⟩ : MethodName)) (z := (⟨"com/example/grotti/grotti/Operation", "equals", "(Ljava/lang/Object;)Z"⟩ : MethodName)) hown (mvT hZ (hw _ (List.mem_of_getElem? (i := 51) rfl))) (mvT hZ (hw _ (List.mem_of_getElem? (i := 52) rfl))) (notFace_of_selects (args := #[]) (mvT hZ (hw _ (List.mem_of_getElem? (i := 54) rfl)))) (mvT hZ (hw _ (List.mem_of_getElem? (i := 54) rfl))) (mvT hZ (hw _ (List.mem_of_getElem? (i := 53) rfl))) (by decide) (backOf (W := 0) (rm10e l Z ar0 hw [] b24 b24 i_COMPACT_STRINGS r26 t26 kb26 (csOf la1 x0 x1) r28 t28 kb28 (csOf lo1 o0 o1) r26 t26 kb26 (csOf la1 x0 x1) r28 t28 kb28 (csOf lo1 o0 o1) T40.heap n0 O40 F ((own_cs255 h8_x0 h8_x1)) ((own_cslen _ _ _)) ((own_cs255 h8_o0 h8_o1)) ((own_cslen _ _ _)) ((own_cs255 h8_x0 h8_x1)) ((own_cslen _ _ _)) ((own_cs255 h8_o0 h8_o1)) ((own_cslen _ _ _)) E_b24 F_app_b24 E_r26 F_coder_r26 F_value_r26 V_t26 F_op_b24 E_r28 F_coder_r28 F_value_r28 V_t28 F_app_b24 E_r26 F_coder_r26 F_value_r26 V_t26 F_op_b24 E_r28 F_coder_r28 F_value_r28 V_t28) hZ (hw _ (List.mem_of_getElem? (i := 55) rfl)) (hw _ (List.mem_of_getElem? (i := 14) rfl)) (by decide) (by decide)) q44a q44c (g := (mkF m 275 #[.val (.int p0), .val (.int p1), .val (.int p2), .val (.int la1), .val (.int la2), .val (.int lo1), .val (.int lo2), .val (.int x0), .val (.int x1), .val (.int o0), .val (.int o1), .val (.int y0), .val (.int y1), .val (.int u0), .val (.int u1), .val (.ref r22), .val (.ref b24), .val (.ref b33), .val (.int (0 : Int32)), .val (.int (((p2.toUInt32 >>> ((12 : Int32) &&& 31).toUInt32).toInt32) &&& (3 : Int32)))] [(.ref b24), (.ref b24)])) rfl (by rw [hml]; rfl) (Steps.refl _) (argsL := [(.ref b24)]) (rest := []) (lenOf pd_0_275 rfl) rfl (by show 2 * 0 + _ ≤ _; exact Nat.le_of_eq rfl) (hb hby at_275) (fun _ _ => ⟨rfl, rfl, (by decide : 14 + 0 ≤ _), (by decide : 36 + 0 ≤ _)⟩)
    dsimp only [Pt.U, Pt.locs, Pt.cells, Pt.slots] at X44 l44 y44 z44 st44 hQ44
    subst l44 y44 z44
    obtain ⟨rfl, N44q, O44, Kc44⟩ := hQ44
    have N44 := Fr.app N40 N44q
    have K44 : Keep h0 T44.heap [] := K40.trans Kc44 all0
    have CH45 := CHv.keep Kc44 all0 CH41
    have CR45 := CR41.trans (CHr.keep Kc44 all0 CH41)
    have hk := Nat.le_trans hk Kc44.1
    have E_r22 := (E_r22.keep Kc44)
    have F_coder_r22 := (F_coder_r22.keep Kc44 nin0)
    have F_value_r22 := (F_value_r22.keep Kc44 nin0)
    have V_t22 := (V_t22.keep Kc44 nin0)
    have E_b24 := (E_b24.keep Kc44)
    have E_r26 := (E_r26.keep Kc44)
    have F_coder_r26 := (F_coder_r26.keep Kc44 nin0)
    have F_value_r26 := (F_value_r26.keep Kc44 nin0)
    have V_t26 := (V_t26.keep Kc44 nin0)
    have E_r28 := (E_r28.keep Kc44)
    have F_coder_r28 := (F_coder_r28.keep Kc44 nin0)
    have F_value_r28 := (F_value_r28.keep Kc44 nin0)
    have V_t28 := (V_t28.keep Kc44 nin0)
    have F_app_b24 := (F_app_b24.keep Kc44 nin0)
    have F_op_b24 := (F_op_b24.keep Kc44 nin0)
    have E_b33 := (E_b33.keep Kc44)
    have E_r35 := (E_r35.keep Kc44)
    have F_coder_r35 := (F_coder_r35.keep Kc44 nin0)
    have F_value_r35 := (F_value_r35.keep Kc44 nin0)
    have V_t35 := (V_t35.keep Kc44 nin0)
    have F_app_b33 := (F_app_b33.keep Kc44 nin0)
    have F_op_b33 := (F_op_b33.keep Kc44 nin0)
    have hk46 : ¬ ((eqR ((csOf la1 x0 x1)) ((csOf la1 x0 x1)) ((csOf lo1 o0 o1)) ((csOf lo1 o0 o1))) = (0 : Int32)) := by rw [own_eqR_self]; decide
    have pre47 : ∀ t, Steps p.tables e below (T44.setTop (mkF m 286 #[.val (.int p0), .val (.int p1), .val (.int p2), .val (.int la1), .val (.int la2), .val (.int lo1), .val (.int lo2), .val (.int x0), .val (.int x1), .val (.int o0), .val (.int o1), .val (.int y0), .val (.int y1), .val (.int u0), .val (.int u1), .val (.ref r22), .val (.ref b24), .val (.ref b33), .val (.int (0 : Int32)), .val (.int (((p2.toUInt32 >>> ((12 : Int32) &&& 31).toUInt32).toInt32) &&& (3 : Int32)))] [(.int (1 : Int32)), (.int (((p2.toUInt32 >>> ((12 : Int32) &&& 31).toUInt32).toInt32) &&& (3 : Int32)))])) t → Steps p.tables e below (s₁.setTop (entryFrame m #[(.int p0), (.int p1), (.int p2)] maxLocals)) t := by
      intro t k
      refine pre42 _ ?_
      show Steps p.tables e below (T40.setTop (mkF m 235 #[.val (.int p0), .val (.int p1), .val (.int p2), .val (.int la1), .val (.int la2), .val (.int lo1), .val (.int lo2), .val (.int x0), .val (.int x1), .val (.int o0), .val (.int o1), .val (.int y0), .val (.int y1), .val (.int u0), .val (.int u1), .val (.ref r22), .val (.ref b24), .val (.ref b33), .unset, .unset] [(.int (v9 la1 x0 x1 la2 y0 y1))])) _
      refine XS.ifYes X40.here hx rfl (pc0 := 235) (pc' := 260) rfl (hb hby at_235) rfl ((if0 _ _).trans (teq hc43).1) (by decide) (by decide) ?_
      show Steps p.tables e below (T40.setTop (mkF m 260 #[.val (.int p0), .val (.int p1), .val (.int p2), .val (.int la1), .val (.int la2), .val (.int lo1), .val (.int lo2), .val (.int x0), .val (.int x1), .val (.int o0), .val (.int o1), .val (.int y0), .val (.int y1), .val (.int u0), .val (.int u1), .val (.ref r22), .val (.ref b24), .val (.ref b33), .unset, .unset] [])) _
      refine XS.iconst X40.here hx rfl (hb hby at_260) ?_
      show Steps p.tables e below (T40.setTop (mkF m 261 #[.val (.int p0), .val (.int p1), .val (.int p2), .val (.int la1), .val (.int la2), .val (.int lo1), .val (.int lo2), .val (.int x0), .val (.int x1), .val (.int o0), .val (.int o1), .val (.int y0), .val (.int y1), .val (.int u0), .val (.int u1), .val (.ref r22), .val (.ref b24), .val (.ref b33), .unset, .unset] [(.int (0 : Int32))])) _
      refine XS.istore X40.here hx rfl (hb hby at_261) rfl (l' := #[.val (.int p0), .val (.int p1), .val (.int p2), .val (.int la1), .val (.int la2), .val (.int lo1), .val (.int lo2), .val (.int x0), .val (.int x1), .val (.int o0), .val (.int o1), .val (.int y0), .val (.int y1), .val (.int u0), .val (.int u1), .val (.ref r22), .val (.ref b24), .val (.ref b33), .val (.int (0 : Int32)), .unset]) rfl ?_
      show Steps p.tables e below (T40.setTop (mkF m 263 #[.val (.int p0), .val (.int p1), .val (.int p2), .val (.int la1), .val (.int la2), .val (.int lo1), .val (.int lo2), .val (.int x0), .val (.int x1), .val (.int o0), .val (.int o1), .val (.int y0), .val (.int y1), .val (.int u0), .val (.int u1), .val (.ref r22), .val (.ref b24), .val (.ref b33), .val (.int (0 : Int32)), .unset] [])) _
      refine XS.iloadN X40.here hx rfl (hb hby at_263) rfl ?_
      show Steps p.tables e below (T40.setTop (mkF m 264 #[.val (.int p0), .val (.int p1), .val (.int p2), .val (.int la1), .val (.int la2), .val (.int lo1), .val (.int lo2), .val (.int x0), .val (.int x1), .val (.int o0), .val (.int o1), .val (.int y0), .val (.int y1), .val (.int u0), .val (.int u1), .val (.ref r22), .val (.ref b24), .val (.ref b33), .val (.int (0 : Int32)), .unset] [(.int p2)])) _
      refine XS.bipush X40.here hx rfl (hb hby at_264) ?_
      show Steps p.tables e below (T40.setTop (mkF m 266 #[.val (.int p0), .val (.int p1), .val (.int p2), .val (.int la1), .val (.int la2), .val (.int lo1), .val (.int lo2), .val (.int x0), .val (.int x1), .val (.int o0), .val (.int o1), .val (.int y0), .val (.int y1), .val (.int u0), .val (.int u1), .val (.ref r22), .val (.ref b24), .val (.ref b33), .val (.int (0 : Int32)), .unset] [(.int (12 : Int32)), (.int p2)])) _
      refine XS.iushr X40.here hx rfl (hb hby at_266) rfl ?_
      show Steps p.tables e below (T40.setTop (mkF m 267 #[.val (.int p0), .val (.int p1), .val (.int p2), .val (.int la1), .val (.int la2), .val (.int lo1), .val (.int lo2), .val (.int x0), .val (.int x1), .val (.int o0), .val (.int o1), .val (.int y0), .val (.int y1), .val (.int u0), .val (.int u1), .val (.ref r22), .val (.ref b24), .val (.ref b33), .val (.int (0 : Int32)), .unset] [(.int ((p2.toUInt32 >>> ((12 : Int32) &&& 31).toUInt32).toInt32))])) _
      refine XS.iconst X40.here hx rfl (hb hby at_267) ?_
      show Steps p.tables e below (T40.setTop (mkF m 268 #[.val (.int p0), .val (.int p1), .val (.int p2), .val (.int la1), .val (.int la2), .val (.int lo1), .val (.int lo2), .val (.int x0), .val (.int x1), .val (.int o0), .val (.int o1), .val (.int y0), .val (.int y1), .val (.int u0), .val (.int u1), .val (.ref r22), .val (.ref b24), .val (.ref b33), .val (.int (0 : Int32)), .unset] [(.int (3 : Int32)), (.int ((p2.toUInt32 >>> ((12 : Int32) &&& 31).toUInt32).toInt32))])) _
      refine XS.iand X40.here hx rfl (hb hby at_268) rfl ?_
      show Steps p.tables e below (T40.setTop (mkF m 269 #[.val (.int p0), .val (.int p1), .val (.int p2), .val (.int la1), .val (.int la2), .val (.int lo1), .val (.int lo2), .val (.int x0), .val (.int x1), .val (.int o0), .val (.int o1), .val (.int y0), .val (.int y1), .val (.int u0), .val (.int u1), .val (.ref r22), .val (.ref b24), .val (.ref b33), .val (.int (0 : Int32)), .unset] [(.int (((p2.toUInt32 >>> ((12 : Int32) &&& 31).toUInt32).toInt32) &&& (3 : Int32)))])) _
      refine XS.istore X40.here hx rfl (hb hby at_269) rfl (l' := #[.val (.int p0), .val (.int p1), .val (.int p2), .val (.int la1), .val (.int la2), .val (.int lo1), .val (.int lo2), .val (.int x0), .val (.int x1), .val (.int o0), .val (.int o1), .val (.int y0), .val (.int y1), .val (.int u0), .val (.int u1), .val (.ref r22), .val (.ref b24), .val (.ref b33), .val (.int (0 : Int32)), .val (.int (((p2.toUInt32 >>> ((12 : Int32) &&& 31).toUInt32).toInt32) &&& (3 : Int32)))]) rfl ?_
      show Steps p.tables e below (T40.setTop (mkF m 271 #[.val (.int p0), .val (.int p1), .val (.int p2), .val (.int la1), .val (.int la2), .val (.int lo1), .val (.int lo2), .val (.int x0), .val (.int x1), .val (.int o0), .val (.int o1), .val (.int y0), .val (.int y1), .val (.int u0), .val (.int u1), .val (.ref r22), .val (.ref b24), .val (.ref b33), .val (.int (0 : Int32)), .val (.int (((p2.toUInt32 >>> ((12 : Int32) &&& 31).toUInt32).toInt32) &&& (3 : Int32)))] [])) _
      refine XS.aload X40.here hx rfl (hb hby at_271) rfl rfl ?_
      show Steps p.tables e below (T40.setTop (mkF m 273 #[.val (.int p0), .val (.int p1), .val (.int p2), .val (.int la1), .val (.int la2), .val (.int lo1), .val (.int lo2), .val (.int x0), .val (.int x1), .val (.int o0), .val (.int o1), .val (.int y0), .val (.int y1), .val (.int u0), .val (.int u1), .val (.ref r22), .val (.ref b24), .val (.ref b33), .val (.int (0 : Int32)), .val (.int (((p2.toUInt32 >>> ((12 : Int32) &&& 31).toUInt32).toInt32) &&& (3 : Int32)))] [(.ref b24)])) _
      refine XS.aload X40.here hx rfl (hb hby at_273) rfl rfl ?_
      show Steps p.tables e below (T40.setTop (mkF m 275 #[.val (.int p0), .val (.int p1), .val (.int p2), .val (.int la1), .val (.int la2), .val (.int lo1), .val (.int lo2), .val (.int x0), .val (.int x1), .val (.int o0), .val (.int o1), .val (.int y0), .val (.int y1), .val (.int u0), .val (.int u1), .val (.ref r22), .val (.ref b24), .val (.ref b33), .val (.int (0 : Int32)), .val (.int (((p2.toUInt32 >>> ((12 : Int32) &&& 31).toUInt32).toInt32) &&& (3 : Int32)))] [(.ref b24), (.ref b24)])) _
      refine st44.trans ?_
      show Steps p.tables e below (T44.setTop (mkF m 278 #[.val (.int p0), .val (.int p1), .val (.int p2), .val (.int la1), .val (.int la2), .val (.int lo1), .val (.int lo2), .val (.int x0), .val (.int x1), .val (.int o0), .val (.int o1), .val (.int y0), .val (.int y1), .val (.int u0), .val (.int u1), .val (.ref r22), .val (.ref b24), .val (.ref b33), .val (.int (0 : Int32)), .val (.int (((p2.toUInt32 >>> ((12 : Int32) &&& 31).toUInt32).toInt32) &&& (3 : Int32)))] [(.int (eqR ((csOf la1 x0 x1)) ((csOf la1 x0 x1)) ((csOf lo1 o0 o1)) ((csOf lo1 o0 o1))))])) _
      refine XS.ifYes X44.here hx rfl (pc0 := 278) (pc' := 283) rfl (hb hby at_278) rfl ((if0 _ _).trans (feq hk46).2) (by decide) (by decide) ?_
      show Steps p.tables e below (T44.setTop (mkF m 283 #[.val (.int p0), .val (.int p1), .val (.int p2), .val (.int la1), .val (.int la2), .val (.int lo1), .val (.int lo2), .val (.int x0), .val (.int x1), .val (.int o0), .val (.int o1), .val (.int y0), .val (.int y1), .val (.int u0), .val (.int u1), .val (.ref r22), .val (.ref b24), .val (.ref b33), .val (.int (0 : Int32)), .val (.int (((p2.toUInt32 >>> ((12 : Int32) &&& 31).toUInt32).toInt32) &&& (3 : Int32)))] [])) _
      refine XS.iload X44.here hx rfl (hb hby at_283) rfl ?_
      show Steps p.tables e below (T44.setTop (mkF m 285 #[.val (.int p0), .val (.int p1), .val (.int p2), .val (.int la1), .val (.int la2), .val (.int lo1), .val (.int lo2), .val (.int x0), .val (.int x1), .val (.int o0), .val (.int o1), .val (.int y0), .val (.int y1), .val (.int u0), .val (.int u1), .val (.ref r22), .val (.ref b24), .val (.ref b33), .val (.int (0 : Int32)), .val (.int (((p2.toUInt32 >>> ((12 : Int32) &&& 31).toUInt32).toInt32) &&& (3 : Int32)))] [(.int (((p2.toUInt32 >>> ((12 : Int32) &&& 31).toUInt32).toInt32) &&& (3 : Int32)))])) _
      refine XS.iconst X44.here hx rfl (hb hby at_285) ?_
      exact k
    by_cases hc48 : (((p2.toUInt32 >>> ((12 : Int32) &&& 31).toUInt32).toInt32) &&& (3 : Int32)) = (1 : Int32)
    ·
      obtain ⟨cq49, kq49, q49a, q49b, q49c⟩ := isOf hZ rfl E_b24
      obtain ⟨_, _, ⟨T49, L49, k49, n49⟩, -, X49, ⟨Lc49, hQ49, l49, y49, z49⟩, st49⟩ := X44.virtualBack hx (y := (⟨"com/example/grotti/grotti/Operation", "equals", "(Ljava/lang/Object;)Z"⟩ : MethodName)) (z := (⟨"com/example/grotti/grotti/Operation", "equals", "(Ljava/lang/Object;)Z"⟩ : MethodName)) hown (mvT hZ (hw _ (List.mem_of_getElem? (i := 51) rfl))) (mvT hZ (hw _ (List.mem_of_getElem? (i := 52) rfl))) (notFace_of_selects (args := #[]) (mvT hZ (hw _ (List.mem_of_getElem? (i := 54) rfl)))) (mvT hZ (hw _ (List.mem_of_getElem? (i := 54) rfl))) (mvT hZ (hw _ (List.mem_of_getElem? (i := 53) rfl))) (by decide) (backOf (W := 0) (rm10n l Z ar0 hw [] b24 i_COMPACT_STRINGS  T44.heap n0 O44 F ) hZ (hw _ (List.mem_of_getElem? (i := 55) rfl)) (hw _ (List.mem_of_getElem? (i := 14) rfl)) (by decide) (by decide)) q49a q49c (g := (mkF m 292 #[.val (.int p0), .val (.int p1), .val (.int p2), .val (.int la1), .val (.int la2), .val (.int lo1), .val (.int lo2), .val (.int x0), .val (.int x1), .val (.int o0), .val (.int o1), .val (.int y0), .val (.int y1), .val (.int u0), .val (.int u1), .val (.ref r22), .val (.ref b24), .val (.ref b33), .val (.int (0 : Int32)), .val (.int (((p2.toUInt32 >>> ((12 : Int32) &&& 31).toUInt32).toInt32) &&& (3 : Int32)))] [.null, (.ref b24)])) rfl (by rw [hml]; rfl) (Steps.refl _) (argsL := [.null]) (rest := []) (lenOf pd_0_292 rfl) rfl (by show 2 * 0 + _ ≤ _; exact Nat.le_of_eq rfl) (hb hby at_292) (fun _ _ => ⟨rfl, rfl, (by decide : 14 + 0 ≤ _), (by decide : 36 + 0 ≤ _)⟩)
      dsimp only [Pt.U, Pt.locs, Pt.cells, Pt.slots] at X49 l49 y49 z49 st49 hQ49
      subst l49 y49 z49
      obtain ⟨rfl, N49q, O49, Kc49⟩ := hQ49
      have N49 := Fr.app N44 N49q
      have K49 : Keep h0 T49.heap [] := K44.trans Kc49 all0
      have CH50 := CHv.keep Kc49 all0 CH45
      have CR50 := CR45.trans (CHr.keep Kc49 all0 CH45)
      have hk := Nat.le_trans hk Kc49.1
      have E_r22 := (E_r22.keep Kc49)
      have F_coder_r22 := (F_coder_r22.keep Kc49 nin0)
      have F_value_r22 := (F_value_r22.keep Kc49 nin0)
      have V_t22 := (V_t22.keep Kc49 nin0)
      have E_b24 := (E_b24.keep Kc49)
      have E_r26 := (E_r26.keep Kc49)
      have F_coder_r26 := (F_coder_r26.keep Kc49 nin0)
      have F_value_r26 := (F_value_r26.keep Kc49 nin0)
      have V_t26 := (V_t26.keep Kc49 nin0)
      have E_r28 := (E_r28.keep Kc49)
      have F_coder_r28 := (F_coder_r28.keep Kc49 nin0)
      have F_value_r28 := (F_value_r28.keep Kc49 nin0)
      have V_t28 := (V_t28.keep Kc49 nin0)
      have F_app_b24 := (F_app_b24.keep Kc49 nin0)
      have F_op_b24 := (F_op_b24.keep Kc49 nin0)
      have E_b33 := (E_b33.keep Kc49)
      have E_r35 := (E_r35.keep Kc49)
      have F_coder_r35 := (F_coder_r35.keep Kc49 nin0)
      have F_value_r35 := (F_value_r35.keep Kc49 nin0)
      have V_t35 := (V_t35.keep Kc49 nin0)
      have F_app_b33 := (F_app_b33.keep Kc49 nin0)
      have F_op_b33 := (F_op_b33.keep Kc49 nin0)
      obtain ⟨fs, hr, hrun, hended, hRW⟩ := X49.leaveW hS (hk) (v := some (.int (1 : Int32))) (fun h => by rw [Bd.returns] at h; cases h)
      have CRx : CHr Z EL s.vm s.heap T49.vm T49.heap := by rw [hh]; exact CR50.trans (CHv.at X49 hZ hEL CH50)
      refine ⟨_, _, pre47 _ ?_, hrun, hended, _, _, rfl, ?_, CRx, own_rw_mono hRW (by decide) (by decide)⟩
      · show Steps p.tables e below (T44.setTop (mkF m 286 #[.val (.int p0), .val (.int p1), .val (.int p2), .val (.int la1), .val (.int la2), .val (.int lo1), .val (.int lo2), .val (.int x0), .val (.int x1), .val (.int o0), .val (.int o1), .val (.int y0), .val (.int y1), .val (.int u0), .val (.int u1), .val (.ref r22), .val (.ref b24), .val (.ref b33), .val (.int (0 : Int32)), .val (.int (((p2.toUInt32 >>> ((12 : Int32) &&& 31).toUInt32).toInt32) &&& (3 : Int32)))] [(.int (1 : Int32)), (.int (((p2.toUInt32 >>> ((12 : Int32) &&& 31).toUInt32).toInt32) &&& (3 : Int32)))])) _
        refine XS.icmpNo X44.here hx rfl (hb hby at_286) rfl (teq hc48).2 ?_
        show Steps p.tables e below (T44.setTop (mkF m 289 #[.val (.int p0), .val (.int p1), .val (.int p2), .val (.int la1), .val (.int la2), .val (.int lo1), .val (.int lo2), .val (.int x0), .val (.int x1), .val (.int o0), .val (.int o1), .val (.int y0), .val (.int y1), .val (.int u0), .val (.int u1), .val (.ref r22), .val (.ref b24), .val (.ref b33), .val (.int (0 : Int32)), .val (.int (((p2.toUInt32 >>> ((12 : Int32) &&& 31).toUInt32).toInt32) &&& (3 : Int32)))] [])) _
        refine XS.aload X44.here hx rfl (hb hby at_289) rfl rfl ?_
        show Steps p.tables e below (T44.setTop (mkF m 291 #[.val (.int p0), .val (.int p1), .val (.int p2), .val (.int la1), .val (.int la2), .val (.int lo1), .val (.int lo2), .val (.int x0), .val (.int x1), .val (.int o0), .val (.int o1), .val (.int y0), .val (.int y1), .val (.int u0), .val (.int u1), .val (.ref r22), .val (.ref b24), .val (.ref b33), .val (.int (0 : Int32)), .val (.int (((p2.toUInt32 >>> ((12 : Int32) &&& 31).toUInt32).toInt32) &&& (3 : Int32)))] [(.ref b24)])) _
        refine XS.aconstNull X44.here hx rfl (hb hby at_291) ?_
        show Steps p.tables e below (T44.setTop (mkF m 292 #[.val (.int p0), .val (.int p1), .val (.int p2), .val (.int la1), .val (.int la2), .val (.int lo1), .val (.int lo2), .val (.int x0), .val (.int x1), .val (.int o0), .val (.int o1), .val (.int y0), .val (.int y1), .val (.int u0), .val (.int u1), .val (.ref r22), .val (.ref b24), .val (.ref b33), .val (.int (0 : Int32)), .val (.int (((p2.toUInt32 >>> ((12 : Int32) &&& 31).toUInt32).toInt32) &&& (3 : Int32)))] [.null, (.ref b24)])) _
        refine st49.trans ?_
        show Steps p.tables e below (T49.setTop (mkF m 295 #[.val (.int p0), .val (.int p1), .val (.int p2), .val (.int la1), .val (.int la2), .val (.int lo1), .val (.int lo2), .val (.int x0), .val (.int x1), .val (.int o0), .val (.int o1), .val (.int y0), .val (.int y1), .val (.int u0), .val (.int u1), .val (.ref r22), .val (.ref b24), .val (.ref b33), .val (.int (0 : Int32)), .val (.int (((p2.toUInt32 >>> ((12 : Int32) &&& 31).toUInt32).toInt32) &&& (3 : Int32)))] [(.int (0 : Int32))])) _
        refine XS.ifNo X49.here hx rfl (hb hby at_295) rfl ((if0 _ _).trans (teq (by decide : (0 : Int32) = (0 : Int32))).2) ?_
        show Steps p.tables e below (T49.setTop (mkF m 298 #[.val (.int p0), .val (.int p1), .val (.int p2), .val (.int la1), .val (.int la2), .val (.int lo1), .val (.int lo2), .val (.int x0), .val (.int x1), .val (.int o0), .val (.int o1), .val (.int y0), .val (.int y1), .val (.int u0), .val (.int u1), .val (.ref r22), .val (.ref b24), .val (.ref b33), .val (.int (0 : Int32)), .val (.int (((p2.toUInt32 >>> ((12 : Int32) &&& 31).toUInt32).toInt32) &&& (3 : Int32)))] [])) _
        refine XS.iconst X49.here hx rfl (hb hby at_298) ?_
        show Steps p.tables e below (T49.setTop (mkF m 299 #[.val (.int p0), .val (.int p1), .val (.int p2), .val (.int la1), .val (.int la2), .val (.int lo1), .val (.int lo2), .val (.int x0), .val (.int x1), .val (.int o0), .val (.int o1), .val (.int y0), .val (.int y1), .val (.int u0), .val (.int u1), .val (.ref r22), .val (.ref b24), .val (.ref b33), .val (.int (0 : Int32)), .val (.int (((p2.toUInt32 >>> ((12 : Int32) &&& 31).toUInt32).toInt32) &&& (3 : Int32)))] [(.int (1 : Int32))])) _
        refine XS.goto X49.here hx rfl (pc0 := 299) (pc' := 303) rfl (hb hby at_299) (by decide) (by decide) ?_
        show Steps p.tables e below (T49.setTop (mkF m 303 #[.val (.int p0), .val (.int p1), .val (.int p2), .val (.int la1), .val (.int la2), .val (.int lo1), .val (.int lo2), .val (.int x0), .val (.int x1), .val (.int o0), .val (.int o1), .val (.int y0), .val (.int y1), .val (.int u0), .val (.int u1), .val (.ref r22), .val (.ref b24), .val (.ref b33), .val (.int (0 : Int32)), .val (.int (((p2.toUInt32 >>> ((12 : Int32) &&& 31).toUInt32).toInt32) &&& (3 : Int32)))] [(.int (1 : Int32))])) _
        exact retN X49 hx (t := .boolean) Bd.returns (by simp) (hb hby at_303) hr
      · show Q0 Z p0 p1 p2 i_COMPACT_STRINGS  h0 n0 _ T49.heap _
        skip
        exact ⟨rfl, N49⟩
    ·
      have pre51 : ∀ t, Steps p.tables e below (T44.setTop (mkF m 307 #[.val (.int p0), .val (.int p1), .val (.int p2), .val (.int la1), .val (.int la2), .val (.int lo1), .val (.int lo2), .val (.int x0), .val (.int x1), .val (.int o0), .val (.int o1), .val (.int y0), .val (.int y1), .val (.int u0), .val (.int u1), .val (.ref r22), .val (.ref b24), .val (.ref b33), .val (.int (0 : Int32)), .val (.int (((p2.toUInt32 >>> ((12 : Int32) &&& 31).toUInt32).toInt32) &&& (3 : Int32)))] [(.int (2 : Int32)), (.int (((p2.toUInt32 >>> ((12 : Int32) &&& 31).toUInt32).toInt32) &&& (3 : Int32)))])) t → Steps p.tables e below (s₁.setTop (entryFrame m #[(.int p0), (.int p1), (.int p2)] maxLocals)) t := by
        intro t k
        refine pre47 _ ?_
        show Steps p.tables e below (T44.setTop (mkF m 286 #[.val (.int p0), .val (.int p1), .val (.int p2), .val (.int la1), .val (.int la2), .val (.int lo1), .val (.int lo2), .val (.int x0), .val (.int x1), .val (.int o0), .val (.int o1), .val (.int y0), .val (.int y1), .val (.int u0), .val (.int u1), .val (.ref r22), .val (.ref b24), .val (.ref b33), .val (.int (0 : Int32)), .val (.int (((p2.toUInt32 >>> ((12 : Int32) &&& 31).toUInt32).toInt32) &&& (3 : Int32)))] [(.int (1 : Int32)), (.int (((p2.toUInt32 >>> ((12 : Int32) &&& 31).toUInt32).toInt32) &&& (3 : Int32)))])) _
        refine XS.icmpYes X44.here hx rfl (pc0 := 286) (pc' := 304) rfl (hb hby at_286) rfl (feq hc48).2 (by decide) (by decide) ?_
        show Steps p.tables e below (T44.setTop (mkF m 304 #[.val (.int p0), .val (.int p1), .val (.int p2), .val (.int la1), .val (.int la2), .val (.int lo1), .val (.int lo2), .val (.int x0), .val (.int x1), .val (.int o0), .val (.int o1), .val (.int y0), .val (.int y1), .val (.int u0), .val (.int u1), .val (.ref r22), .val (.ref b24), .val (.ref b33), .val (.int (0 : Int32)), .val (.int (((p2.toUInt32 >>> ((12 : Int32) &&& 31).toUInt32).toInt32) &&& (3 : Int32)))] [])) _
        refine XS.iload X44.here hx rfl (hb hby at_304) rfl ?_
        show Steps p.tables e below (T44.setTop (mkF m 306 #[.val (.int p0), .val (.int p1), .val (.int p2), .val (.int la1), .val (.int la2), .val (.int lo1), .val (.int lo2), .val (.int x0), .val (.int x1), .val (.int o0), .val (.int o1), .val (.int y0), .val (.int y1), .val (.int u0), .val (.int u1), .val (.ref r22), .val (.ref b24), .val (.ref b33), .val (.int (0 : Int32)), .val (.int (((p2.toUInt32 >>> ((12 : Int32) &&& 31).toUInt32).toInt32) &&& (3 : Int32)))] [(.int (((p2.toUInt32 >>> ((12 : Int32) &&& 31).toUInt32).toInt32) &&& (3 : Int32)))])) _
        refine XS.iconst X44.here hx rfl (hb hby at_306) ?_
        exact k
      by_cases hc52 : (((p2.toUInt32 >>> ((12 : Int32) &&& 31).toUInt32).toInt32) &&& (3 : Int32)) = (2 : Int32)
      ·
        obtain ⟨cq53, kq53, q53a, q53b, q53c⟩ := isOf hZ rfl E_b24
        obtain ⟨_, _, ⟨T53, L53, k53, n53⟩, -, X53, ⟨Lc53, hQ53, l53, y53, z53⟩, st53⟩ := X44.virtualBack hx (y := (⟨"com/example/grotti/grotti/Operation", "equals", "(Ljava/lang/Object;)Z"⟩ : MethodName)) (z := (⟨"com/example/grotti/grotti/Operation", "equals", "(Ljava/lang/Object;)Z"⟩ : MethodName)) hown (mvT hZ (hw _ (List.mem_of_getElem? (i := 51) rfl))) (mvT hZ (hw _ (List.mem_of_getElem? (i := 52) rfl))) (notFace_of_selects (args := #[]) (mvT hZ (hw _ (List.mem_of_getElem? (i := 54) rfl)))) (mvT hZ (hw _ (List.mem_of_getElem? (i := 54) rfl))) (mvT hZ (hw _ (List.mem_of_getElem? (i := 53) rfl))) (by decide) (backOf (W := 0) (rm10s l Z ar0 hw [] b24 r22 i_COMPACT_STRINGS  T44.heap n0 O44 F E_r22) hZ (hw _ (List.mem_of_getElem? (i := 55) rfl)) (hw _ (List.mem_of_getElem? (i := 14) rfl)) (by decide) (by decide)) q53a q53c (g := (mkF m 314 #[.val (.int p0), .val (.int p1), .val (.int p2), .val (.int la1), .val (.int la2), .val (.int lo1), .val (.int lo2), .val (.int x0), .val (.int x1), .val (.int o0), .val (.int o1), .val (.int y0), .val (.int y1), .val (.int u0), .val (.int u1), .val (.ref r22), .val (.ref b24), .val (.ref b33), .val (.int (0 : Int32)), .val (.int (((p2.toUInt32 >>> ((12 : Int32) &&& 31).toUInt32).toInt32) &&& (3 : Int32)))] [(.ref r22), (.ref b24)])) rfl (by rw [hml]; rfl) (Steps.refl _) (argsL := [(.ref r22)]) (rest := []) (lenOf pd_0_314 rfl) rfl (by show 2 * 0 + _ ≤ _; exact Nat.le_of_eq rfl) (hb hby at_314) (fun _ _ => ⟨rfl, rfl, (by decide : 14 + 0 ≤ _), (by decide : 36 + 0 ≤ _)⟩)
        dsimp only [Pt.U, Pt.locs, Pt.cells, Pt.slots] at X53 l53 y53 z53 st53 hQ53
        subst l53 y53 z53
        obtain ⟨rfl, N53q, O53, Kc53⟩ := hQ53
        have N53 := Fr.app N44 N53q
        have K53 : Keep h0 T53.heap [] := K44.trans Kc53 all0
        have CH54 := CHv.keep Kc53 all0 CH45
        have CR54 := CR45.trans (CHr.keep Kc53 all0 CH45)
        have hk := Nat.le_trans hk Kc53.1
        have E_r22 := (E_r22.keep Kc53)
        have F_coder_r22 := (F_coder_r22.keep Kc53 nin0)
        have F_value_r22 := (F_value_r22.keep Kc53 nin0)
        have V_t22 := (V_t22.keep Kc53 nin0)
        have E_b24 := (E_b24.keep Kc53)
        have E_r26 := (E_r26.keep Kc53)
        have F_coder_r26 := (F_coder_r26.keep Kc53 nin0)
        have F_value_r26 := (F_value_r26.keep Kc53 nin0)
        have V_t26 := (V_t26.keep Kc53 nin0)
        have E_r28 := (E_r28.keep Kc53)
        have F_coder_r28 := (F_coder_r28.keep Kc53 nin0)
        have F_value_r28 := (F_value_r28.keep Kc53 nin0)
        have V_t28 := (V_t28.keep Kc53 nin0)
        have F_app_b24 := (F_app_b24.keep Kc53 nin0)
        have F_op_b24 := (F_op_b24.keep Kc53 nin0)
        have E_b33 := (E_b33.keep Kc53)
        have E_r35 := (E_r35.keep Kc53)
        have F_coder_r35 := (F_coder_r35.keep Kc53 nin0)
        have F_value_r35 := (F_value_r35.keep Kc53 nin0)
        have V_t35 := (V_t35.keep Kc53 nin0)
        have F_app_b33 := (F_app_b33.keep Kc53 nin0)
        have F_op_b33 := (F_op_b33.keep Kc53 nin0)
        obtain ⟨fs, hr, hrun, hended, hRW⟩ := X53.leaveW hS (hk) (v := some (.int (1 : Int32))) (fun h => by rw [Bd.returns] at h; cases h)
        have CRx : CHr Z EL s.vm s.heap T53.vm T53.heap := by rw [hh]; exact CR54.trans (CHv.at X53 hZ hEL CH54)
        refine ⟨_, _, pre51 _ ?_, hrun, hended, _, _, rfl, ?_, CRx, own_rw_mono hRW (by decide) (by decide)⟩
        · show Steps p.tables e below (T44.setTop (mkF m 307 #[.val (.int p0), .val (.int p1), .val (.int p2), .val (.int la1), .val (.int la2), .val (.int lo1), .val (.int lo2), .val (.int x0), .val (.int x1), .val (.int o0), .val (.int o1), .val (.int y0), .val (.int y1), .val (.int u0), .val (.int u1), .val (.ref r22), .val (.ref b24), .val (.ref b33), .val (.int (0 : Int32)), .val (.int (((p2.toUInt32 >>> ((12 : Int32) &&& 31).toUInt32).toInt32) &&& (3 : Int32)))] [(.int (2 : Int32)), (.int (((p2.toUInt32 >>> ((12 : Int32) &&& 31).toUInt32).toInt32) &&& (3 : Int32)))])) _
          refine XS.icmpNo X44.here hx rfl (hb hby at_307) rfl (teq hc52).2 ?_
          show Steps p.tables e below (T44.setTop (mkF m 310 #[.val (.int p0), .val (.int p1), .val (.int p2), .val (.int la1), .val (.int la2), .val (.int lo1), .val (.int lo2), .val (.int x0), .val (.int x1), .val (.int o0), .val (.int o1), .val (.int y0), .val (.int y1), .val (.int u0), .val (.int u1), .val (.ref r22), .val (.ref b24), .val (.ref b33), .val (.int (0 : Int32)), .val (.int (((p2.toUInt32 >>> ((12 : Int32) &&& 31).toUInt32).toInt32) &&& (3 : Int32)))] [])) _
          refine XS.aload X44.here hx rfl (hb hby at_310) rfl rfl ?_
          show Steps p.tables e below (T44.setTop (mkF m 312 #[.val (.int p0), .val (.int p1), .val (.int p2), .val (.int la1), .val (.int la2), .val (.int lo1), .val (.int lo2), .val (.int x0), .val (.int x1), .val (.int o0), .val (.int o1), .val (.int y0), .val (.int y1), .val (.int u0), .val (.int u1), .val (.ref r22), .val (.ref b24), .val (.ref b33), .val (.int (0 : Int32)), .val (.int (((p2.toUInt32 >>> ((12 : Int32) &&& 31).toUInt32).toInt32) &&& (3 : Int32)))] [(.ref b24)])) _
          refine XS.aload X44.here hx rfl (hb hby at_312) rfl rfl ?_
          show Steps p.tables e below (T44.setTop (mkF m 314 #[.val (.int p0), .val (.int p1), .val (.int p2), .val (.int la1), .val (.int la2), .val (.int lo1), .val (.int lo2), .val (.int x0), .val (.int x1), .val (.int o0), .val (.int o1), .val (.int y0), .val (.int y1), .val (.int u0), .val (.int u1), .val (.ref r22), .val (.ref b24), .val (.ref b33), .val (.int (0 : Int32)), .val (.int (((p2.toUInt32 >>> ((12 : Int32) &&& 31).toUInt32).toInt32) &&& (3 : Int32)))] [(.ref r22), (.ref b24)])) _
          refine st53.trans ?_
          show Steps p.tables e below (T53.setTop (mkF m 317 #[.val (.int p0), .val (.int p1), .val (.int p2), .val (.int la1), .val (.int la2), .val (.int lo1), .val (.int lo2), .val (.int x0), .val (.int x1), .val (.int o0), .val (.int o1), .val (.int y0), .val (.int y1), .val (.int u0), .val (.int u1), .val (.ref r22), .val (.ref b24), .val (.ref b33), .val (.int (0 : Int32)), .val (.int (((p2.toUInt32 >>> ((12 : Int32) &&& 31).toUInt32).toInt32) &&& (3 : Int32)))] [(.int (0 : Int32))])) _
          refine XS.ifNo X53.here hx rfl (hb hby at_317) rfl ((if0 _ _).trans (teq (by decide : (0 : Int32) = (0 : Int32))).2) ?_
          show Steps p.tables e below (T53.setTop (mkF m 320 #[.val (.int p0), .val (.int p1), .val (.int p2), .val (.int la1), .val (.int la2), .val (.int lo1), .val (.int lo2), .val (.int x0), .val (.int x1), .val (.int o0), .val (.int o1), .val (.int y0), .val (.int y1), .val (.int u0), .val (.int u1), .val (.ref r22), .val (.ref b24), .val (.ref b33), .val (.int (0 : Int32)), .val (.int (((p2.toUInt32 >>> ((12 : Int32) &&& 31).toUInt32).toInt32) &&& (3 : Int32)))] [])) _
          refine XS.iconst X53.here hx rfl (hb hby at_320) ?_
          show Steps p.tables e below (T53.setTop (mkF m 321 #[.val (.int p0), .val (.int p1), .val (.int p2), .val (.int la1), .val (.int la2), .val (.int lo1), .val (.int lo2), .val (.int x0), .val (.int x1), .val (.int o0), .val (.int o1), .val (.int y0), .val (.int y1), .val (.int u0), .val (.int u1), .val (.ref r22), .val (.ref b24), .val (.ref b33), .val (.int (0 : Int32)), .val (.int (((p2.toUInt32 >>> ((12 : Int32) &&& 31).toUInt32).toInt32) &&& (3 : Int32)))] [(.int (1 : Int32))])) _
          refine XS.goto X53.here hx rfl (pc0 := 321) (pc' := 325) rfl (hb hby at_321) (by decide) (by decide) ?_
          show Steps p.tables e below (T53.setTop (mkF m 325 #[.val (.int p0), .val (.int p1), .val (.int p2), .val (.int la1), .val (.int la2), .val (.int lo1), .val (.int lo2), .val (.int x0), .val (.int x1), .val (.int o0), .val (.int o1), .val (.int y0), .val (.int y1), .val (.int u0), .val (.int u1), .val (.ref r22), .val (.ref b24), .val (.ref b33), .val (.int (0 : Int32)), .val (.int (((p2.toUInt32 >>> ((12 : Int32) &&& 31).toUInt32).toInt32) &&& (3 : Int32)))] [(.int (1 : Int32))])) _
          exact retN X53 hx (t := .boolean) Bd.returns (by simp) (hb hby at_325) hr
        · show Q0 Z p0 p1 p2 i_COMPACT_STRINGS  h0 n0 _ T53.heap _
          skip
          exact ⟨rfl, N53⟩
      ·
        obtain ⟨cq55, kq55, q55a, q55b, q55c⟩ := isOf hZ rfl E_b24
        obtain ⟨_, _, ⟨T55, L55, k55, n55⟩, -, X55, ⟨Lc55, hQ55, l55, y55, z55⟩, st55⟩ := X44.virtualBack hx (y := (⟨"com/example/grotti/grotti/Operation", "equals", "(Ljava/lang/Object;)Z"⟩ : MethodName)) (z := (⟨"com/example/grotti/grotti/Operation", "equals", "(Ljava/lang/Object;)Z"⟩ : MethodName)) hown (mvT hZ (hw _ (List.mem_of_getElem? (i := 51) rfl))) (mvT hZ (hw _ (List.mem_of_getElem? (i := 52) rfl))) (notFace_of_selects (args := #[]) (mvT hZ (hw _ (List.mem_of_getElem? (i := 54) rfl)))) (mvT hZ (hw _ (List.mem_of_getElem? (i := 54) rfl))) (mvT hZ (hw _ (List.mem_of_getElem? (i := 53) rfl))) (by decide) (backOf (W := 0) (rm10e l Z ar0 hw [] b24 b33 i_COMPACT_STRINGS r26 t26 kb26 (csOf la1 x0 x1) r28 t28 kb28 (csOf lo1 o0 o1) r22 t22 kb22 (csOf la2 y0 y1) r35 t35 kb35 (csOf lo2 u0 u1) T44.heap n0 O44 F ((own_cs255 h8_x0 h8_x1)) ((own_cslen _ _ _)) ((own_cs255 h8_o0 h8_o1)) ((own_cslen _ _ _)) ((own_cs255 h8_y0 h8_y1)) ((own_cslen _ _ _)) ((own_cs255 h8_u0 h8_u1)) ((own_cslen _ _ _)) E_b33 F_app_b24 E_r26 F_coder_r26 F_value_r26 V_t26 F_op_b24 E_r28 F_coder_r28 F_value_r28 V_t28 F_app_b33 E_r22 F_coder_r22 F_value_r22 V_t22 F_op_b33 E_r35 F_coder_r35 F_value_r35 V_t35) hZ (hw _ (List.mem_of_getElem? (i := 55) rfl)) (hw _ (List.mem_of_getElem? (i := 14) rfl)) (by decide) (by decide)) q55a q55c (g := (mkF m 330 #[.val (.int p0), .val (.int p1), .val (.int p2), .val (.int la1), .val (.int la2), .val (.int lo1), .val (.int lo2), .val (.int x0), .val (.int x1), .val (.int o0), .val (.int o1), .val (.int y0), .val (.int y1), .val (.int u0), .val (.int u1), .val (.ref r22), .val (.ref b24), .val (.ref b33), .val (.int (0 : Int32)), .val (.int (((p2.toUInt32 >>> ((12 : Int32) &&& 31).toUInt32).toInt32) &&& (3 : Int32)))] [(.ref b33), (.ref b24)])) rfl (by rw [hml]; rfl) (Steps.refl _) (argsL := [(.ref b33)]) (rest := []) (lenOf pd_0_330 rfl) rfl (by show 2 * 0 + _ ≤ _; exact Nat.le_of_eq rfl) (hb hby at_330) (fun _ _ => ⟨rfl, rfl, (by decide : 14 + 0 ≤ _), (by decide : 36 + 0 ≤ _)⟩)
        dsimp only [Pt.U, Pt.locs, Pt.cells, Pt.slots] at X55 l55 y55 z55 st55 hQ55
        subst l55 y55 z55
        obtain ⟨rfl, N55q, O55, Kc55⟩ := hQ55
        have N55 := Fr.app N44 N55q
        have K55 : Keep h0 T55.heap [] := K44.trans Kc55 all0
        have CH56 := CHv.keep Kc55 all0 CH45
        have CR56 := CR45.trans (CHr.keep Kc55 all0 CH45)
        have hk := Nat.le_trans hk Kc55.1
        have E_r22 := (E_r22.keep Kc55)
        have F_coder_r22 := (F_coder_r22.keep Kc55 nin0)
        have F_value_r22 := (F_value_r22.keep Kc55 nin0)
        have V_t22 := (V_t22.keep Kc55 nin0)
        have E_b24 := (E_b24.keep Kc55)
        have E_r26 := (E_r26.keep Kc55)
        have F_coder_r26 := (F_coder_r26.keep Kc55 nin0)
        have F_value_r26 := (F_value_r26.keep Kc55 nin0)
        have V_t26 := (V_t26.keep Kc55 nin0)
        have E_r28 := (E_r28.keep Kc55)
        have F_coder_r28 := (F_coder_r28.keep Kc55 nin0)
        have F_value_r28 := (F_value_r28.keep Kc55 nin0)
        have V_t28 := (V_t28.keep Kc55 nin0)
        have F_app_b24 := (F_app_b24.keep Kc55 nin0)
        have F_op_b24 := (F_op_b24.keep Kc55 nin0)
        have E_b33 := (E_b33.keep Kc55)
        have E_r35 := (E_r35.keep Kc55)
        have F_coder_r35 := (F_coder_r35.keep Kc55 nin0)
        have F_value_r35 := (F_value_r35.keep Kc55 nin0)
        have V_t35 := (V_t35.keep Kc55 nin0)
        have F_app_b33 := (F_app_b33.keep Kc55 nin0)
        have F_op_b33 := (F_op_b33.keep Kc55 nin0)
        have hk57 : (eqR ((csOf la1 x0 x1)) ((csOf la2 y0 y1)) ((csOf lo1 o0 o1)) ((csOf lo2 u0 u1))) = (0 : Int32) := own_eqR_0 (fun q => (own_same h3_la1 h3_la2).mpr q.1 hc43)
        obtain ⟨cq58, kq58, q58a, q58b, q58c⟩ := isOf hZ rfl E_b33
        obtain ⟨_, _, ⟨T58, L58, k58, n58⟩, -, X58, ⟨Lc58, hQ58, l58, y58, z58⟩, st58⟩ := X55.virtualBack hx (y := (⟨"com/example/grotti/grotti/Operation", "equals", "(Ljava/lang/Object;)Z"⟩ : MethodName)) (z := (⟨"com/example/grotti/grotti/Operation", "equals", "(Ljava/lang/Object;)Z"⟩ : MethodName)) hown (mvT hZ (hw _ (List.mem_of_getElem? (i := 51) rfl))) (mvT hZ (hw _ (List.mem_of_getElem? (i := 52) rfl))) (notFace_of_selects (args := #[]) (mvT hZ (hw _ (List.mem_of_getElem? (i := 54) rfl)))) (mvT hZ (hw _ (List.mem_of_getElem? (i := 54) rfl))) (mvT hZ (hw _ (List.mem_of_getElem? (i := 53) rfl))) (by decide) (backOf (W := 0) (rm10e l Z ar0 hw [] b33 b24 i_COMPACT_STRINGS r22 t22 kb22 (csOf la2 y0 y1) r35 t35 kb35 (csOf lo2 u0 u1) r26 t26 kb26 (csOf la1 x0 x1) r28 t28 kb28 (csOf lo1 o0 o1) T55.heap n0 O55 F ((own_cs255 h8_y0 h8_y1)) ((own_cslen _ _ _)) ((own_cs255 h8_u0 h8_u1)) ((own_cslen _ _ _)) ((own_cs255 h8_x0 h8_x1)) ((own_cslen _ _ _)) ((own_cs255 h8_o0 h8_o1)) ((own_cslen _ _ _)) E_b24 F_app_b33 E_r22 F_coder_r22 F_value_r22 V_t22 F_op_b33 E_r35 F_coder_r35 F_value_r35 V_t35 F_app_b24 E_r26 F_coder_r26 F_value_r26 V_t26 F_op_b24 E_r28 F_coder_r28 F_value_r28 V_t28) hZ (hw _ (List.mem_of_getElem? (i := 55) rfl)) (hw _ (List.mem_of_getElem? (i := 14) rfl)) (by decide) (by decide)) q58a q58c (g := (mkF m 342 #[.val (.int p0), .val (.int p1), .val (.int p2), .val (.int la1), .val (.int la2), .val (.int lo1), .val (.int lo2), .val (.int x0), .val (.int x1), .val (.int o0), .val (.int o1), .val (.int y0), .val (.int y1), .val (.int u0), .val (.int u1), .val (.ref r22), .val (.ref b24), .val (.ref b33), .val (.int (0 : Int32)), .val (.int (((p2.toUInt32 >>> ((12 : Int32) &&& 31).toUInt32).toInt32) &&& (3 : Int32)))] [(.ref b24), (.ref b33)])) rfl (by rw [hml]; rfl) (Steps.refl _) (argsL := [(.ref b24)]) (rest := []) (lenOf pd_0_342 rfl) rfl (by show 2 * 0 + _ ≤ _; exact Nat.le_of_eq rfl) (hb hby at_342) (fun _ _ => ⟨rfl, rfl, (by decide : 14 + 0 ≤ _), (by decide : 36 + 0 ≤ _)⟩)
        dsimp only [Pt.U, Pt.locs, Pt.cells, Pt.slots] at X58 l58 y58 z58 st58 hQ58
        subst l58 y58 z58
        obtain ⟨rfl, N58q, O58, Kc58⟩ := hQ58
        have N58 := Fr.app N55 N58q
        have K58 : Keep h0 T58.heap [] := K55.trans Kc58 all0
        have CH59 := CHv.keep Kc58 all0 CH56
        have CR59 := CR56.trans (CHr.keep Kc58 all0 CH56)
        have hk := Nat.le_trans hk Kc58.1
        have E_r22 := (E_r22.keep Kc58)
        have F_coder_r22 := (F_coder_r22.keep Kc58 nin0)
        have F_value_r22 := (F_value_r22.keep Kc58 nin0)
        have V_t22 := (V_t22.keep Kc58 nin0)
        have E_b24 := (E_b24.keep Kc58)
        have E_r26 := (E_r26.keep Kc58)
        have F_coder_r26 := (F_coder_r26.keep Kc58 nin0)
        have F_value_r26 := (F_value_r26.keep Kc58 nin0)
        have V_t26 := (V_t26.keep Kc58 nin0)
        have E_r28 := (E_r28.keep Kc58)
        have F_coder_r28 := (F_coder_r28.keep Kc58 nin0)
        have F_value_r28 := (F_value_r28.keep Kc58 nin0)
        have V_t28 := (V_t28.keep Kc58 nin0)
        have F_app_b24 := (F_app_b24.keep Kc58 nin0)
        have F_op_b24 := (F_op_b24.keep Kc58 nin0)
        have E_b33 := (E_b33.keep Kc58)
        have E_r35 := (E_r35.keep Kc58)
        have F_coder_r35 := (F_coder_r35.keep Kc58 nin0)
        have F_value_r35 := (F_value_r35.keep Kc58 nin0)
        have V_t35 := (V_t35.keep Kc58 nin0)
        have F_app_b33 := (F_app_b33.keep Kc58 nin0)
        have F_op_b33 := (F_op_b33.keep Kc58 nin0)
        have hk60 : (eqR ((csOf la2 y0 y1)) ((csOf la1 x0 x1)) ((csOf lo2 u0 u1)) ((csOf lo1 o0 o1))) = (0 : Int32) := own_eqR_0 (fun q => (own_same h3_la1 h3_la2).mpr q.1.symm hc43)
        obtain ⟨fs, hr, hrun, hended, hRW⟩ := X58.leaveW hS (hk) (v := some (.int (1 : Int32))) (fun h => by rw [Bd.returns] at h; cases h)
        have CRx : CHr Z EL s.vm s.heap T58.vm T58.heap := by rw [hh]; exact CR59.trans (CHv.at X58 hZ hEL CH59)
        refine ⟨_, _, pre51 _ ?_, hrun, hended, _, _, rfl, ?_, CRx, own_rw_mono hRW (by decide) (by decide)⟩
        · show Steps p.tables e below (T44.setTop (mkF m 307 #[.val (.int p0), .val (.int p1), .val (.int p2), .val (.int la1), .val (.int la2), .val (.int lo1), .val (.int lo2), .val (.int x0), .val (.int x1), .val (.int o0), .val (.int o1), .val (.int y0), .val (.int y1), .val (.int u0), .val (.int u1), .val (.ref r22), .val (.ref b24), .val (.ref b33), .val (.int (0 : Int32)), .val (.int (((p2.toUInt32 >>> ((12 : Int32) &&& 31).toUInt32).toInt32) &&& (3 : Int32)))] [(.int (2 : Int32)), (.int (((p2.toUInt32 >>> ((12 : Int32) &&& 31).toUInt32).toInt32) &&& (3 : Int32)))])) _
          refine XS.icmpYes X44.here hx rfl (pc0 := 307) (pc' := 326) rfl (hb hby at_307) rfl (feq hc52).2 (by decide) (by decide) ?_
          show Steps p.tables e below (T44.setTop (mkF m 326 #[.val (.int p0), .val (.int p1), .val (.int p2), .val (.int la1), .val (.int la2), .val (.int lo1), .val (.int lo2), .val (.int x0), .val (.int x1), .val (.int o0), .val (.int o1), .val (.int y0), .val (.int y1), .val (.int u0), .val (.int u1), .val (.ref r22), .val (.ref b24), .val (.ref b33), .val (.int (0 : Int32)), .val (.int (((p2.toUInt32 >>> ((12 : Int32) &&& 31).toUInt32).toInt32) &&& (3 : Int32)))] [])) _
          refine XS.aload X44.here hx rfl (hb hby at_326) rfl rfl ?_
          show Steps p.tables e below (T44.setTop (mkF m 328 #[.val (.int p0), .val (.int p1), .val (.int p2), .val (.int la1), .val (.int la2), .val (.int lo1), .val (.int lo2), .val (.int x0), .val (.int x1), .val (.int o0), .val (.int o1), .val (.int y0), .val (.int y1), .val (.int u0), .val (.int u1), .val (.ref r22), .val (.ref b24), .val (.ref b33), .val (.int (0 : Int32)), .val (.int (((p2.toUInt32 >>> ((12 : Int32) &&& 31).toUInt32).toInt32) &&& (3 : Int32)))] [(.ref b24)])) _
          refine XS.aload X44.here hx rfl (hb hby at_328) rfl rfl ?_
          show Steps p.tables e below (T44.setTop (mkF m 330 #[.val (.int p0), .val (.int p1), .val (.int p2), .val (.int la1), .val (.int la2), .val (.int lo1), .val (.int lo2), .val (.int x0), .val (.int x1), .val (.int o0), .val (.int o1), .val (.int y0), .val (.int y1), .val (.int u0), .val (.int u1), .val (.ref r22), .val (.ref b24), .val (.ref b33), .val (.int (0 : Int32)), .val (.int (((p2.toUInt32 >>> ((12 : Int32) &&& 31).toUInt32).toInt32) &&& (3 : Int32)))] [(.ref b33), (.ref b24)])) _
          refine st55.trans ?_
          show Steps p.tables e below (T55.setTop (mkF m 333 #[.val (.int p0), .val (.int p1), .val (.int p2), .val (.int la1), .val (.int la2), .val (.int lo1), .val (.int lo2), .val (.int x0), .val (.int x1), .val (.int o0), .val (.int o1), .val (.int y0), .val (.int y1), .val (.int u0), .val (.int u1), .val (.ref r22), .val (.ref b24), .val (.ref b33), .val (.int (0 : Int32)), .val (.int (((p2.toUInt32 >>> ((12 : Int32) &&& 31).toUInt32).toInt32) &&& (3 : Int32)))] [(.int (eqR ((csOf la1 x0 x1)) ((csOf la2 y0 y1)) ((csOf lo1 o0 o1)) ((csOf lo2 u0 u1))))])) _
          refine XS.iload X55.here hx rfl (hb hby at_333) rfl ?_
          show Steps p.tables e below (T55.setTop (mkF m 335 #[.val (.int p0), .val (.int p1), .val (.int p2), .val (.int la1), .val (.int la2), .val (.int lo1), .val (.int lo2), .val (.int x0), .val (.int x1), .val (.int o0), .val (.int o1), .val (.int y0), .val (.int y1), .val (.int u0), .val (.int u1), .val (.ref r22), .val (.ref b24), .val (.ref b33), .val (.int (0 : Int32)), .val (.int (((p2.toUInt32 >>> ((12 : Int32) &&& 31).toUInt32).toInt32) &&& (3 : Int32)))] [(.int (0 : Int32)), (.int (eqR ((csOf la1 x0 x1)) ((csOf la2 y0 y1)) ((csOf lo1 o0 o1)) ((csOf lo2 u0 u1))))])) _
          refine XS.icmpNo X55.here hx rfl (hb hby at_335) rfl (teq hk57).2 ?_
          show Steps p.tables e below (T55.setTop (mkF m 338 #[.val (.int p0), .val (.int p1), .val (.int p2), .val (.int la1), .val (.int la2), .val (.int lo1), .val (.int lo2), .val (.int x0), .val (.int x1), .val (.int o0), .val (.int o1), .val (.int y0), .val (.int y1), .val (.int u0), .val (.int u1), .val (.ref r22), .val (.ref b24), .val (.ref b33), .val (.int (0 : Int32)), .val (.int (((p2.toUInt32 >>> ((12 : Int32) &&& 31).toUInt32).toInt32) &&& (3 : Int32)))] [])) _
          refine XS.aload X55.here hx rfl (hb hby at_338) rfl rfl ?_
          show Steps p.tables e below (T55.setTop (mkF m 340 #[.val (.int p0), .val (.int p1), .val (.int p2), .val (.int la1), .val (.int la2), .val (.int lo1), .val (.int lo2), .val (.int x0), .val (.int x1), .val (.int o0), .val (.int o1), .val (.int y0), .val (.int y1), .val (.int u0), .val (.int u1), .val (.ref r22), .val (.ref b24), .val (.ref b33), .val (.int (0 : Int32)), .val (.int (((p2.toUInt32 >>> ((12 : Int32) &&& 31).toUInt32).toInt32) &&& (3 : Int32)))] [(.ref b33)])) _
          refine XS.aload X55.here hx rfl (hb hby at_340) rfl rfl ?_
          show Steps p.tables e below (T55.setTop (mkF m 342 #[.val (.int p0), .val (.int p1), .val (.int p2), .val (.int la1), .val (.int la2), .val (.int lo1), .val (.int lo2), .val (.int x0), .val (.int x1), .val (.int o0), .val (.int o1), .val (.int y0), .val (.int y1), .val (.int u0), .val (.int u1), .val (.ref r22), .val (.ref b24), .val (.ref b33), .val (.int (0 : Int32)), .val (.int (((p2.toUInt32 >>> ((12 : Int32) &&& 31).toUInt32).toInt32) &&& (3 : Int32)))] [(.ref b24), (.ref b33)])) _
          refine st58.trans ?_
          show Steps p.tables e below (T58.setTop (mkF m 345 #[.val (.int p0), .val (.int p1), .val (.int p2), .val (.int la1), .val (.int la2), .val (.int lo1), .val (.int lo2), .val (.int x0), .val (.int x1), .val (.int o0), .val (.int o1), .val (.int y0), .val (.int y1), .val (.int u0), .val (.int u1), .val (.ref r22), .val (.ref b24), .val (.ref b33), .val (.int (0 : Int32)), .val (.int (((p2.toUInt32 >>> ((12 : Int32) &&& 31).toUInt32).toInt32) &&& (3 : Int32)))] [(.int (eqR ((csOf la2 y0 y1)) ((csOf la1 x0 x1)) ((csOf lo2 u0 u1)) ((csOf lo1 o0 o1))))])) _
          refine XS.iload X58.here hx rfl (hb hby at_345) rfl ?_
          show Steps p.tables e below (T58.setTop (mkF m 347 #[.val (.int p0), .val (.int p1), .val (.int p2), .val (.int la1), .val (.int la2), .val (.int lo1), .val (.int lo2), .val (.int x0), .val (.int x1), .val (.int o0), .val (.int o1), .val (.int y0), .val (.int y1), .val (.int u0), .val (.int u1), .val (.ref r22), .val (.ref b24), .val (.ref b33), .val (.int (0 : Int32)), .val (.int (((p2.toUInt32 >>> ((12 : Int32) &&& 31).toUInt32).toInt32) &&& (3 : Int32)))] [(.int (0 : Int32)), (.int (eqR ((csOf la2 y0 y1)) ((csOf la1 x0 x1)) ((csOf lo2 u0 u1)) ((csOf lo1 o0 o1))))])) _
          refine XS.icmpNo X58.here hx rfl (hb hby at_347) rfl (teq hk60).2 ?_
          show Steps p.tables e below (T58.setTop (mkF m 350 #[.val (.int p0), .val (.int p1), .val (.int p2), .val (.int la1), .val (.int la2), .val (.int lo1), .val (.int lo2), .val (.int x0), .val (.int x1), .val (.int o0), .val (.int o1), .val (.int y0), .val (.int y1), .val (.int u0), .val (.int u1), .val (.ref r22), .val (.ref b24), .val (.ref b33), .val (.int (0 : Int32)), .val (.int (((p2.toUInt32 >>> ((12 : Int32) &&& 31).toUInt32).toInt32) &&& (3 : Int32)))] [])) _
          refine XS.iconst X58.here hx rfl (hb hby at_350) ?_
          show Steps p.tables e below (T58.setTop (mkF m 351 #[.val (.int p0), .val (.int p1), .val (.int p2), .val (.int la1), .val (.int la2), .val (.int lo1), .val (.int lo2), .val (.int x0), .val (.int x1), .val (.int o0), .val (.int o1), .val (.int y0), .val (.int y1), .val (.int u0), .val (.int u1), .val (.ref r22), .val (.ref b24), .val (.ref b33), .val (.int (0 : Int32)), .val (.int (((p2.toUInt32 >>> ((12 : Int32) &&& 31).toUInt32).toInt32) &&& (3 : Int32)))] [(.int (1 : Int32))])) _
          refine XS.goto X58.here hx rfl (pc0 := 351) (pc' := 355) rfl (hb hby at_351) (by decide) (by decide) ?_
          show Steps p.tables e below (T58.setTop (mkF m 355 #[.val (.int p0), .val (.int p1), .val (.int p2), .val (.int la1), .val (.int la2), .val (.int lo1), .val (.int lo2), .val (.int x0), .val (.int x1), .val (.int o0), .val (.int o1), .val (.int y0), .val (.int y1), .val (.int u0), .val (.int u1), .val (.ref r22), .val (.ref b24), .val (.ref b33), .val (.int (0 : Int32)), .val (.int (((p2.toUInt32 >>> ((12 : Int32) &&& 31).toUInt32).toInt32) &&& (3 : Int32)))] [(.int (1 : Int32))])) _
          exact retN X58 hx (t := .boolean) Bd.returns (by simp) (hb hby at_355) hr
        · show Q0 Z p0 p1 p2 i_COMPACT_STRINGS  h0 n0 _ T58.heap _
          skip
          exact ⟨rfl, N58⟩
  ·
    obtain ⟨_, _, ⟨T61, L61, k61, n61⟩, -, X61, ⟨Lc61, hQ61, l61, y61, z61⟩, st61⟩ := Jvm.LawKit.callS X40 hx (y := (⟨"com/example/grotti/grotti/OperationEqualsPinLaw", "same", "(IIIIII)Z"⟩ : MethodName)) hown (mvT hZ (hw _ (List.mem_of_getElem? (i := 48) rfl))) (mvT hZ (hw _ (List.mem_of_getElem? (i := 49) rfl))) (mvT hZ (hw _ (List.mem_of_getElem? (i := 2) rfl))) (mvT hZ (hw _ (List.mem_of_getElem? (i := 50) rfl))) (by decide) (backOf (W := 0) (rm9 l Z ar0 hw [] lo1 o0 o1 lo2 u0 u1 i_COMPACT_STRINGS  T40.heap n0 O40 F ) hZ (hw _ (List.mem_of_getElem? (i := 50) rfl)) (hw _ (List.mem_of_getElem? (i := 2) rfl)) (by decide) (by decide)) (g := (mkF m 250 #[.val (.int p0), .val (.int p1), .val (.int p2), .val (.int la1), .val (.int la2), .val (.int lo1), .val (.int lo2), .val (.int x0), .val (.int x1), .val (.int o0), .val (.int o1), .val (.int y0), .val (.int y1), .val (.int u0), .val (.int u1), .val (.ref r22), .val (.ref b24), .val (.ref b33), .unset, .unset] [(.int u1), (.int u0), (.int lo2), (.int o1), (.int o0), (.int lo1)])) rfl (by rw [hml]; rfl) (argsL := [(.int lo1), (.int o0), (.int o1), (.int lo2), (.int u0), (.int u1)]) (rest := []) (lenOf pd_0_250 rfl) rfl (by show 2 * 0 + _ ≤ _; exact Nat.le_of_eq rfl) (hb hby at_250) (fun _ _ => ⟨rfl, rfl, (by decide : 14 + 0 ≤ _), (by decide : 36 + 0 ≤ _)⟩)
    dsimp only [Pt.U, Pt.locs, Pt.cells, Pt.slots] at X61 l61 y61 z61 st61 hQ61
    subst l61 y61 z61
    obtain ⟨rfl, N61q, O61, Kc61⟩ := hQ61
    have N61 := Fr.app N40 N61q
    have K61 : Keep h0 T61.heap [] := K40.trans Kc61 all0
    have CH62 := CHv.keep Kc61 all0 CH41
    have CR62 := CR41.trans (CHr.keep Kc61 all0 CH41)
    have hk := Nat.le_trans hk Kc61.1
    have E_r22 := (E_r22.keep Kc61)
    have F_coder_r22 := (F_coder_r22.keep Kc61 nin0)
    have F_value_r22 := (F_value_r22.keep Kc61 nin0)
    have V_t22 := (V_t22.keep Kc61 nin0)
    have E_b24 := (E_b24.keep Kc61)
    have E_r26 := (E_r26.keep Kc61)
    have F_coder_r26 := (F_coder_r26.keep Kc61 nin0)
    have F_value_r26 := (F_value_r26.keep Kc61 nin0)
    have V_t26 := (V_t26.keep Kc61 nin0)
    have E_r28 := (E_r28.keep Kc61)
    have F_coder_r28 := (F_coder_r28.keep Kc61 nin0)
    have F_value_r28 := (F_value_r28.keep Kc61 nin0)
    have V_t28 := (V_t28.keep Kc61 nin0)
    have F_app_b24 := (F_app_b24.keep Kc61 nin0)
    have F_op_b24 := (F_op_b24.keep Kc61 nin0)
    have E_b33 := (E_b33.keep Kc61)
    have E_r35 := (E_r35.keep Kc61)
    have F_coder_r35 := (F_coder_r35.keep Kc61 nin0)
    have F_value_r35 := (F_value_r35.keep Kc61 nin0)
    have V_t35 := (V_t35.keep Kc61 nin0)
    have F_app_b33 := (F_app_b33.keep Kc61 nin0)
    have F_op_b33 := (F_op_b33.keep Kc61 nin0)
    have pre63 : ∀ t, Steps p.tables e below (T61.setTop (mkF m 253 #[.val (.int p0), .val (.int p1), .val (.int p2), .val (.int la1), .val (.int la2), .val (.int lo1), .val (.int lo2), .val (.int x0), .val (.int x1), .val (.int o0), .val (.int o1), .val (.int y0), .val (.int y1), .val (.int u0), .val (.int u1), .val (.ref r22), .val (.ref b24), .val (.ref b33), .unset, .unset] [(.int (v9 lo1 o0 o1 lo2 u0 u1))])) t → Steps p.tables e below (s₁.setTop (entryFrame m #[(.int p0), (.int p1), (.int p2)] maxLocals)) t := by
      intro t k
      refine pre42 _ ?_
      show Steps p.tables e below (T40.setTop (mkF m 235 #[.val (.int p0), .val (.int p1), .val (.int p2), .val (.int la1), .val (.int la2), .val (.int lo1), .val (.int lo2), .val (.int x0), .val (.int x1), .val (.int o0), .val (.int o1), .val (.int y0), .val (.int y1), .val (.int u0), .val (.int u1), .val (.ref r22), .val (.ref b24), .val (.ref b33), .unset, .unset] [(.int (v9 la1 x0 x1 la2 y0 y1))])) _
      refine XS.ifNo X40.here hx rfl (hb hby at_235) rfl ((if0 _ _).trans (feq hc43).1) ?_
      show Steps p.tables e below (T40.setTop (mkF m 238 #[.val (.int p0), .val (.int p1), .val (.int p2), .val (.int la1), .val (.int la2), .val (.int lo1), .val (.int lo2), .val (.int x0), .val (.int x1), .val (.int o0), .val (.int o1), .val (.int y0), .val (.int y1), .val (.int u0), .val (.int u1), .val (.ref r22), .val (.ref b24), .val (.ref b33), .unset, .unset] [])) _
      refine XS.iload X40.here hx rfl (hb hby at_238) rfl ?_
      show Steps p.tables e below (T40.setTop (mkF m 240 #[.val (.int p0), .val (.int p1), .val (.int p2), .val (.int la1), .val (.int la2), .val (.int lo1), .val (.int lo2), .val (.int x0), .val (.int x1), .val (.int o0), .val (.int o1), .val (.int y0), .val (.int y1), .val (.int u0), .val (.int u1), .val (.ref r22), .val (.ref b24), .val (.ref b33), .unset, .unset] [(.int lo1)])) _
      refine XS.iload X40.here hx rfl (hb hby at_240) rfl ?_
      show Steps p.tables e below (T40.setTop (mkF m 242 #[.val (.int p0), .val (.int p1), .val (.int p2), .val (.int la1), .val (.int la2), .val (.int lo1), .val (.int lo2), .val (.int x0), .val (.int x1), .val (.int o0), .val (.int o1), .val (.int y0), .val (.int y1), .val (.int u0), .val (.int u1), .val (.ref r22), .val (.ref b24), .val (.ref b33), .unset, .unset] [(.int o0), (.int lo1)])) _
      refine XS.iload X40.here hx rfl (hb hby at_242) rfl ?_
      show Steps p.tables e below (T40.setTop (mkF m 244 #[.val (.int p0), .val (.int p1), .val (.int p2), .val (.int la1), .val (.int la2), .val (.int lo1), .val (.int lo2), .val (.int x0), .val (.int x1), .val (.int o0), .val (.int o1), .val (.int y0), .val (.int y1), .val (.int u0), .val (.int u1), .val (.ref r22), .val (.ref b24), .val (.ref b33), .unset, .unset] [(.int o1), (.int o0), (.int lo1)])) _
      refine XS.iload X40.here hx rfl (hb hby at_244) rfl ?_
      show Steps p.tables e below (T40.setTop (mkF m 246 #[.val (.int p0), .val (.int p1), .val (.int p2), .val (.int la1), .val (.int la2), .val (.int lo1), .val (.int lo2), .val (.int x0), .val (.int x1), .val (.int o0), .val (.int o1), .val (.int y0), .val (.int y1), .val (.int u0), .val (.int u1), .val (.ref r22), .val (.ref b24), .val (.ref b33), .unset, .unset] [(.int lo2), (.int o1), (.int o0), (.int lo1)])) _
      refine XS.iload X40.here hx rfl (hb hby at_246) rfl ?_
      show Steps p.tables e below (T40.setTop (mkF m 248 #[.val (.int p0), .val (.int p1), .val (.int p2), .val (.int la1), .val (.int la2), .val (.int lo1), .val (.int lo2), .val (.int x0), .val (.int x1), .val (.int o0), .val (.int o1), .val (.int y0), .val (.int y1), .val (.int u0), .val (.int u1), .val (.ref r22), .val (.ref b24), .val (.ref b33), .unset, .unset] [(.int u0), (.int lo2), (.int o1), (.int o0), (.int lo1)])) _
      refine XS.iload X40.here hx rfl (hb hby at_248) rfl ?_
      show Steps p.tables e below (T40.setTop (mkF m 250 #[.val (.int p0), .val (.int p1), .val (.int p2), .val (.int la1), .val (.int la2), .val (.int lo1), .val (.int lo2), .val (.int x0), .val (.int x1), .val (.int o0), .val (.int o1), .val (.int y0), .val (.int y1), .val (.int u0), .val (.int u1), .val (.ref r22), .val (.ref b24), .val (.ref b33), .unset, .unset] [(.int u1), (.int u0), (.int lo2), (.int o1), (.int o0), (.int lo1)])) _
      refine st61 _ ?_
      exact k
    by_cases hc64 : (v9 lo1 o0 o1 lo2 u0 u1) = (0 : Int32)
    ·
      obtain ⟨cq65, kq65, q65a, q65b, q65c⟩ := isOf hZ rfl E_b24
      obtain ⟨_, _, ⟨T65, L65, k65, n65⟩, -, X65, ⟨Lc65, hQ65, l65, y65, z65⟩, st65⟩ := X61.virtualBack hx (y := (⟨"com/example/grotti/grotti/Operation", "equals", "(Ljava/lang/Object;)Z"⟩ : MethodName)) (z := (⟨"com/example/grotti/grotti/Operation", "equals", "(Ljava/lang/Object;)Z"⟩ : MethodName)) hown (mvT hZ (hw _ (List.mem_of_getElem? (i := 51) rfl))) (mvT hZ (hw _ (List.mem_of_getElem? (i := 52) rfl))) (notFace_of_selects (args := #[]) (mvT hZ (hw _ (List.mem_of_getElem? (i := 54) rfl)))) (mvT hZ (hw _ (List.mem_of_getElem? (i := 54) rfl))) (mvT hZ (hw _ (List.mem_of_getElem? (i := 53) rfl))) (by decide) (backOf (W := 0) (rm10e l Z ar0 hw [] b24 b24 i_COMPACT_STRINGS r26 t26 kb26 (csOf la1 x0 x1) r28 t28 kb28 (csOf lo1 o0 o1) r26 t26 kb26 (csOf la1 x0 x1) r28 t28 kb28 (csOf lo1 o0 o1) T61.heap n0 O61 F ((own_cs255 h8_x0 h8_x1)) ((own_cslen _ _ _)) ((own_cs255 h8_o0 h8_o1)) ((own_cslen _ _ _)) ((own_cs255 h8_x0 h8_x1)) ((own_cslen _ _ _)) ((own_cs255 h8_o0 h8_o1)) ((own_cslen _ _ _)) E_b24 F_app_b24 E_r26 F_coder_r26 F_value_r26 V_t26 F_op_b24 E_r28 F_coder_r28 F_value_r28 V_t28 F_app_b24 E_r26 F_coder_r26 F_value_r26 V_t26 F_op_b24 E_r28 F_coder_r28 F_value_r28 V_t28) hZ (hw _ (List.mem_of_getElem? (i := 55) rfl)) (hw _ (List.mem_of_getElem? (i := 14) rfl)) (by decide) (by decide)) q65a q65c (g := (mkF m 275 #[.val (.int p0), .val (.int p1), .val (.int p2), .val (.int la1), .val (.int la2), .val (.int lo1), .val (.int lo2), .val (.int x0), .val (.int x1), .val (.int o0), .val (.int o1), .val (.int y0), .val (.int y1), .val (.int u0), .val (.int u1), .val (.ref r22), .val (.ref b24), .val (.ref b33), .val (.int (0 : Int32)), .val (.int (((p2.toUInt32 >>> ((12 : Int32) &&& 31).toUInt32).toInt32) &&& (3 : Int32)))] [(.ref b24), (.ref b24)])) rfl (by rw [hml]; rfl) (Steps.refl _) (argsL := [(.ref b24)]) (rest := []) (lenOf pd_0_275 rfl) rfl (by show 2 * 0 + _ ≤ _; exact Nat.le_of_eq rfl) (hb hby at_275) (fun _ _ => ⟨rfl, rfl, (by decide : 14 + 0 ≤ _), (by decide : 36 + 0 ≤ _)⟩)
      dsimp only [Pt.U, Pt.locs, Pt.cells, Pt.slots] at X65 l65 y65 z65 st65 hQ65
      subst l65 y65 z65
      obtain ⟨rfl, N65q, O65, Kc65⟩ := hQ65
      have N65 := Fr.app N61 N65q
      have K65 : Keep h0 T65.heap [] := K61.trans Kc65 all0
      have CH66 := CHv.keep Kc65 all0 CH62
      have CR66 := CR62.trans (CHr.keep Kc65 all0 CH62)
      have hk := Nat.le_trans hk Kc65.1
      have E_r22 := (E_r22.keep Kc65)
      have F_coder_r22 := (F_coder_r22.keep Kc65 nin0)
      have F_value_r22 := (F_value_r22.keep Kc65 nin0)
      have V_t22 := (V_t22.keep Kc65 nin0)
      have E_b24 := (E_b24.keep Kc65)
      have E_r26 := (E_r26.keep Kc65)
      have F_coder_r26 := (F_coder_r26.keep Kc65 nin0)
      have F_value_r26 := (F_value_r26.keep Kc65 nin0)
      have V_t26 := (V_t26.keep Kc65 nin0)
      have E_r28 := (E_r28.keep Kc65)
      have F_coder_r28 := (F_coder_r28.keep Kc65 nin0)
      have F_value_r28 := (F_value_r28.keep Kc65 nin0)
      have V_t28 := (V_t28.keep Kc65 nin0)
      have F_app_b24 := (F_app_b24.keep Kc65 nin0)
      have F_op_b24 := (F_op_b24.keep Kc65 nin0)
      have E_b33 := (E_b33.keep Kc65)
      have E_r35 := (E_r35.keep Kc65)
      have F_coder_r35 := (F_coder_r35.keep Kc65 nin0)
      have F_value_r35 := (F_value_r35.keep Kc65 nin0)
      have V_t35 := (V_t35.keep Kc65 nin0)
      have F_app_b33 := (F_app_b33.keep Kc65 nin0)
      have F_op_b33 := (F_op_b33.keep Kc65 nin0)
      have hk67 : ¬ ((eqR ((csOf la1 x0 x1)) ((csOf la1 x0 x1)) ((csOf lo1 o0 o1)) ((csOf lo1 o0 o1))) = (0 : Int32)) := by rw [own_eqR_self]; decide
      have pre68 : ∀ t, Steps p.tables e below (T65.setTop (mkF m 286 #[.val (.int p0), .val (.int p1), .val (.int p2), .val (.int la1), .val (.int la2), .val (.int lo1), .val (.int lo2), .val (.int x0), .val (.int x1), .val (.int o0), .val (.int o1), .val (.int y0), .val (.int y1), .val (.int u0), .val (.int u1), .val (.ref r22), .val (.ref b24), .val (.ref b33), .val (.int (0 : Int32)), .val (.int (((p2.toUInt32 >>> ((12 : Int32) &&& 31).toUInt32).toInt32) &&& (3 : Int32)))] [(.int (1 : Int32)), (.int (((p2.toUInt32 >>> ((12 : Int32) &&& 31).toUInt32).toInt32) &&& (3 : Int32)))])) t → Steps p.tables e below (s₁.setTop (entryFrame m #[(.int p0), (.int p1), (.int p2)] maxLocals)) t := by
        intro t k
        refine pre63 _ ?_
        show Steps p.tables e below (T61.setTop (mkF m 253 #[.val (.int p0), .val (.int p1), .val (.int p2), .val (.int la1), .val (.int la2), .val (.int lo1), .val (.int lo2), .val (.int x0), .val (.int x1), .val (.int o0), .val (.int o1), .val (.int y0), .val (.int y1), .val (.int u0), .val (.int u1), .val (.ref r22), .val (.ref b24), .val (.ref b33), .unset, .unset] [(.int (v9 lo1 o0 o1 lo2 u0 u1))])) _
        refine XS.ifYes X61.here hx rfl (pc0 := 253) (pc' := 260) rfl (hb hby at_253) rfl ((if0 _ _).trans (teq hc64).1) (by decide) (by decide) ?_
        show Steps p.tables e below (T61.setTop (mkF m 260 #[.val (.int p0), .val (.int p1), .val (.int p2), .val (.int la1), .val (.int la2), .val (.int lo1), .val (.int lo2), .val (.int x0), .val (.int x1), .val (.int o0), .val (.int o1), .val (.int y0), .val (.int y1), .val (.int u0), .val (.int u1), .val (.ref r22), .val (.ref b24), .val (.ref b33), .unset, .unset] [])) _
        refine XS.iconst X61.here hx rfl (hb hby at_260) ?_
        show Steps p.tables e below (T61.setTop (mkF m 261 #[.val (.int p0), .val (.int p1), .val (.int p2), .val (.int la1), .val (.int la2), .val (.int lo1), .val (.int lo2), .val (.int x0), .val (.int x1), .val (.int o0), .val (.int o1), .val (.int y0), .val (.int y1), .val (.int u0), .val (.int u1), .val (.ref r22), .val (.ref b24), .val (.ref b33), .unset, .unset] [(.int (0 : Int32))])) _
        refine XS.istore X61.here hx rfl (hb hby at_261) rfl (l' := #[.val (.int p0), .val (.int p1), .val (.int p2), .val (.int la1), .val (.int la2), .val (.int lo1), .val (.int lo2), .val (.int x0), .val (.int x1), .val (.int o0), .val (.int o1), .val (.int y0), .val (.int y1), .val (.int u0), .val (.int u1), .val (.ref r22), .val (.ref b24), .val (.ref b33), .val (.int (0 : Int32)), .unset]) rfl ?_
        show Steps p.tables e below (T61.setTop (mkF m 263 #[.val (.int p0), .val (.int p1), .val (.int p2), .val (.int la1), .val (.int la2), .val (.int lo1), .val (.int lo2), .val (.int x0), .val (.int x1), .val (.int o0), .val (.int o1), .val (.int y0), .val (.int y1), .val (.int u0), .val (.int u1), .val (.ref r22), .val (.ref b24), .val (.ref b33), .val (.int (0 : Int32)), .unset] [])) _
        refine XS.iloadN X61.here hx rfl (hb hby at_263) rfl ?_
        show Steps p.tables e below (T61.setTop (mkF m 264 #[.val (.int p0), .val (.int p1), .val (.int p2), .val (.int la1), .val (.int la2), .val (.int lo1), .val (.int lo2), .val (.int x0), .val (.int x1), .val (.int o0), .val (.int o1), .val (.int y0), .val (.int y1), .val (.int u0), .val (.int u1), .val (.ref r22), .val (.ref b24), .val (.ref b33), .val (.int (0 : Int32)), .unset] [(.int p2)])) _
        refine XS.bipush X61.here hx rfl (hb hby at_264) ?_
        show Steps p.tables e below (T61.setTop (mkF m 266 #[.val (.int p0), .val (.int p1), .val (.int p2), .val (.int la1), .val (.int la2), .val (.int lo1), .val (.int lo2), .val (.int x0), .val (.int x1), .val (.int o0), .val (.int o1), .val (.int y0), .val (.int y1), .val (.int u0), .val (.int u1), .val (.ref r22), .val (.ref b24), .val (.ref b33), .val (.int (0 : Int32)), .unset] [(.int (12 : Int32)), (.int p2)])) _
        refine XS.iushr X61.here hx rfl (hb hby at_266) rfl ?_
        show Steps p.tables e below (T61.setTop (mkF m 267 #[.val (.int p0), .val (.int p1), .val (.int p2), .val (.int la1), .val (.int la2), .val (.int lo1), .val (.int lo2), .val (.int x0), .val (.int x1), .val (.int o0), .val (.int o1), .val (.int y0), .val (.int y1), .val (.int u0), .val (.int u1), .val (.ref r22), .val (.ref b24), .val (.ref b33), .val (.int (0 : Int32)), .unset] [(.int ((p2.toUInt32 >>> ((12 : Int32) &&& 31).toUInt32).toInt32))])) _
        refine XS.iconst X61.here hx rfl (hb hby at_267) ?_
        show Steps p.tables e below (T61.setTop (mkF m 268 #[.val (.int p0), .val (.int p1), .val (.int p2), .val (.int la1), .val (.int la2), .val (.int lo1), .val (.int lo2), .val (.int x0), .val (.int x1), .val (.int o0), .val (.int o1), .val (.int y0), .val (.int y1), .val (.int u0), .val (.int u1), .val (.ref r22), .val (.ref b24), .val (.ref b33), .val (.int (0 : Int32)), .unset] [(.int (3 : Int32)), (.int ((p2.toUInt32 >>> ((12 : Int32) &&& 31).toUInt32).toInt32))])) _
        refine XS.iand X61.here hx rfl (hb hby at_268) rfl ?_
        show Steps p.tables e below (T61.setTop (mkF m 269 #[.val (.int p0), .val (.int p1), .val (.int p2), .val (.int la1), .val (.int la2), .val (.int lo1), .val (.int lo2), .val (.int x0), .val (.int x1), .val (.int o0), .val (.int o1), .val (.int y0), .val (.int y1), .val (.int u0), .val (.int u1), .val (.ref r22), .val (.ref b24), .val (.ref b33), .val (.int (0 : Int32)), .unset] [(.int (((p2.toUInt32 >>> ((12 : Int32) &&& 31).toUInt32).toInt32) &&& (3 : Int32)))])) _
        refine XS.istore X61.here hx rfl (hb hby at_269) rfl (l' := #[.val (.int p0), .val (.int p1), .val (.int p2), .val (.int la1), .val (.int la2), .val (.int lo1), .val (.int lo2), .val (.int x0), .val (.int x1), .val (.int o0), .val (.int o1), .val (.int y0), .val (.int y1), .val (.int u0), .val (.int u1), .val (.ref r22), .val (.ref b24), .val (.ref b33), .val (.int (0 : Int32)), .val (.int (((p2.toUInt32 >>> ((12 : Int32) &&& 31).toUInt32).toInt32) &&& (3 : Int32)))]) rfl ?_
        show Steps p.tables e below (T61.setTop (mkF m 271 #[.val (.int p0), .val (.int p1), .val (.int p2), .val (.int la1), .val (.int la2), .val (.int lo1), .val (.int lo2), .val (.int x0), .val (.int x1), .val (.int o0), .val (.int o1), .val (.int y0), .val (.int y1), .val (.int u0), .val (.int u1), .val (.ref r22), .val (.ref b24), .val (.ref b33), .val (.int (0 : Int32)), .val (.int (((p2.toUInt32 >>> ((12 : Int32) &&& 31).toUInt32).toInt32) &&& (3 : Int32)))] [])) _
        refine XS.aload X61.here hx rfl (hb hby at_271) rfl rfl ?_
        show Steps p.tables e below (T61.setTop (mkF m 273 #[.val (.int p0), .val (.int p1), .val (.int p2), .val (.int la1), .val (.int la2), .val (.int lo1), .val (.int lo2), .val (.int x0), .val (.int x1), .val (.int o0), .val (.int o1), .val (.int y0), .val (.int y1), .val (.int u0), .val (.int u1), .val (.ref r22), .val (.ref b24), .val (.ref b33), .val (.int (0 : Int32)), .val (.int (((p2.toUInt32 >>> ((12 : Int32) &&& 31).toUInt32).toInt32) &&& (3 : Int32)))] [(.ref b24)])) _
        refine XS.aload X61.here hx rfl (hb hby at_273) rfl rfl ?_
        show Steps p.tables e below (T61.setTop (mkF m 275 #[.val (.int p0), .val (.int p1), .val (.int p2), .val (.int la1), .val (.int la2), .val (.int lo1), .val (.int lo2), .val (.int x0), .val (.int x1), .val (.int o0), .val (.int o1), .val (.int y0), .val (.int y1), .val (.int u0), .val (.int u1), .val (.ref r22), .val (.ref b24), .val (.ref b33), .val (.int (0 : Int32)), .val (.int (((p2.toUInt32 >>> ((12 : Int32) &&& 31).toUInt32).toInt32) &&& (3 : Int32)))] [(.ref b24), (.ref b24)])) _
        refine st65.trans ?_
        show Steps p.tables e below (T65.setTop (mkF m 278 #[.val (.int p0), .val (.int p1), .val (.int p2), .val (.int la1), .val (.int la2), .val (.int lo1), .val (.int lo2), .val (.int x0), .val (.int x1), .val (.int o0), .val (.int o1), .val (.int y0), .val (.int y1), .val (.int u0), .val (.int u1), .val (.ref r22), .val (.ref b24), .val (.ref b33), .val (.int (0 : Int32)), .val (.int (((p2.toUInt32 >>> ((12 : Int32) &&& 31).toUInt32).toInt32) &&& (3 : Int32)))] [(.int (eqR ((csOf la1 x0 x1)) ((csOf la1 x0 x1)) ((csOf lo1 o0 o1)) ((csOf lo1 o0 o1))))])) _
        refine XS.ifYes X65.here hx rfl (pc0 := 278) (pc' := 283) rfl (hb hby at_278) rfl ((if0 _ _).trans (feq hk67).2) (by decide) (by decide) ?_
        show Steps p.tables e below (T65.setTop (mkF m 283 #[.val (.int p0), .val (.int p1), .val (.int p2), .val (.int la1), .val (.int la2), .val (.int lo1), .val (.int lo2), .val (.int x0), .val (.int x1), .val (.int o0), .val (.int o1), .val (.int y0), .val (.int y1), .val (.int u0), .val (.int u1), .val (.ref r22), .val (.ref b24), .val (.ref b33), .val (.int (0 : Int32)), .val (.int (((p2.toUInt32 >>> ((12 : Int32) &&& 31).toUInt32).toInt32) &&& (3 : Int32)))] [])) _
        refine XS.iload X65.here hx rfl (hb hby at_283) rfl ?_
        show Steps p.tables e below (T65.setTop (mkF m 285 #[.val (.int p0), .val (.int p1), .val (.int p2), .val (.int la1), .val (.int la2), .val (.int lo1), .val (.int lo2), .val (.int x0), .val (.int x1), .val (.int o0), .val (.int o1), .val (.int y0), .val (.int y1), .val (.int u0), .val (.int u1), .val (.ref r22), .val (.ref b24), .val (.ref b33), .val (.int (0 : Int32)), .val (.int (((p2.toUInt32 >>> ((12 : Int32) &&& 31).toUInt32).toInt32) &&& (3 : Int32)))] [(.int (((p2.toUInt32 >>> ((12 : Int32) &&& 31).toUInt32).toInt32) &&& (3 : Int32)))])) _
        refine XS.iconst X65.here hx rfl (hb hby at_285) ?_
        exact k
      by_cases hc69 : (((p2.toUInt32 >>> ((12 : Int32) &&& 31).toUInt32).toInt32) &&& (3 : Int32)) = (1 : Int32)
      ·
        obtain ⟨cq70, kq70, q70a, q70b, q70c⟩ := isOf hZ rfl E_b24
        obtain ⟨_, _, ⟨T70, L70, k70, n70⟩, -, X70, ⟨Lc70, hQ70, l70, y70, z70⟩, st70⟩ := X65.virtualBack hx (y := (⟨"com/example/grotti/grotti/Operation", "equals", "(Ljava/lang/Object;)Z"⟩ : MethodName)) (z := (⟨"com/example/grotti/grotti/Operation", "equals", "(Ljava/lang/Object;)Z"⟩ : MethodName)) hown (mvT hZ (hw _ (List.mem_of_getElem? (i := 51) rfl))) (mvT hZ (hw _ (List.mem_of_getElem? (i := 52) rfl))) (notFace_of_selects (args := #[]) (mvT hZ (hw _ (List.mem_of_getElem? (i := 54) rfl)))) (mvT hZ (hw _ (List.mem_of_getElem? (i := 54) rfl))) (mvT hZ (hw _ (List.mem_of_getElem? (i := 53) rfl))) (by decide) (backOf (W := 0) (rm10n l Z ar0 hw [] b24 i_COMPACT_STRINGS  T65.heap n0 O65 F ) hZ (hw _ (List.mem_of_getElem? (i := 55) rfl)) (hw _ (List.mem_of_getElem? (i := 14) rfl)) (by decide) (by decide)) q70a q70c (g := (mkF m 292 #[.val (.int p0), .val (.int p1), .val (.int p2), .val (.int la1), .val (.int la2), .val (.int lo1), .val (.int lo2), .val (.int x0), .val (.int x1), .val (.int o0), .val (.int o1), .val (.int y0), .val (.int y1), .val (.int u0), .val (.int u1), .val (.ref r22), .val (.ref b24), .val (.ref b33), .val (.int (0 : Int32)), .val (.int (((p2.toUInt32 >>> ((12 : Int32) &&& 31).toUInt32).toInt32) &&& (3 : Int32)))] [.null, (.ref b24)])) rfl (by rw [hml]; rfl) (Steps.refl _) (argsL := [.null]) (rest := []) (lenOf pd_0_292 rfl) rfl (by show 2 * 0 + _ ≤ _; exact Nat.le_of_eq rfl) (hb hby at_292) (fun _ _ => ⟨rfl, rfl, (by decide : 14 + 0 ≤ _), (by decide : 36 + 0 ≤ _)⟩)
        dsimp only [Pt.U, Pt.locs, Pt.cells, Pt.slots] at X70 l70 y70 z70 st70 hQ70
        subst l70 y70 z70
        obtain ⟨rfl, N70q, O70, Kc70⟩ := hQ70
        have N70 := Fr.app N65 N70q
        have K70 : Keep h0 T70.heap [] := K65.trans Kc70 all0
        have CH71 := CHv.keep Kc70 all0 CH66
        have CR71 := CR66.trans (CHr.keep Kc70 all0 CH66)
        have hk := Nat.le_trans hk Kc70.1
        have E_r22 := (E_r22.keep Kc70)
        have F_coder_r22 := (F_coder_r22.keep Kc70 nin0)
        have F_value_r22 := (F_value_r22.keep Kc70 nin0)
        have V_t22 := (V_t22.keep Kc70 nin0)
        have E_b24 := (E_b24.keep Kc70)
        have E_r26 := (E_r26.keep Kc70)
        have F_coder_r26 := (F_coder_r26.keep Kc70 nin0)
        have F_value_r26 := (F_value_r26.keep Kc70 nin0)
        have V_t26 := (V_t26.keep Kc70 nin0)
        have E_r28 := (E_r28.keep Kc70)
        have F_coder_r28 := (F_coder_r28.keep Kc70 nin0)
        have F_value_r28 := (F_value_r28.keep Kc70 nin0)
        have V_t28 := (V_t28.keep Kc70 nin0)
        have F_app_b24 := (F_app_b24.keep Kc70 nin0)
        have F_op_b24 := (F_op_b24.keep Kc70 nin0)
        have E_b33 := (E_b33.keep Kc70)
        have E_r35 := (E_r35.keep Kc70)
        have F_coder_r35 := (F_coder_r35.keep Kc70 nin0)
        have F_value_r35 := (F_value_r35.keep Kc70 nin0)
        have V_t35 := (V_t35.keep Kc70 nin0)
        have F_app_b33 := (F_app_b33.keep Kc70 nin0)
        have F_op_b33 := (F_op_b33.keep Kc70 nin0)
        obtain ⟨fs, hr, hrun, hended, hRW⟩ := X70.leaveW hS (hk) (v := some (.int (1 : Int32))) (fun h => by rw [Bd.returns] at h; cases h)
        have CRx : CHr Z EL s.vm s.heap T70.vm T70.heap := by rw [hh]; exact CR71.trans (CHv.at X70 hZ hEL CH71)
        refine ⟨_, _, pre68 _ ?_, hrun, hended, _, _, rfl, ?_, CRx, own_rw_mono hRW (by decide) (by decide)⟩
        · show Steps p.tables e below (T65.setTop (mkF m 286 #[.val (.int p0), .val (.int p1), .val (.int p2), .val (.int la1), .val (.int la2), .val (.int lo1), .val (.int lo2), .val (.int x0), .val (.int x1), .val (.int o0), .val (.int o1), .val (.int y0), .val (.int y1), .val (.int u0), .val (.int u1), .val (.ref r22), .val (.ref b24), .val (.ref b33), .val (.int (0 : Int32)), .val (.int (((p2.toUInt32 >>> ((12 : Int32) &&& 31).toUInt32).toInt32) &&& (3 : Int32)))] [(.int (1 : Int32)), (.int (((p2.toUInt32 >>> ((12 : Int32) &&& 31).toUInt32).toInt32) &&& (3 : Int32)))])) _
          refine XS.icmpNo X65.here hx rfl (hb hby at_286) rfl (teq hc69).2 ?_
          show Steps p.tables e below (T65.setTop (mkF m 289 #[.val (.int p0), .val (.int p1), .val (.int p2), .val (.int la1), .val (.int la2), .val (.int lo1), .val (.int lo2), .val (.int x0), .val (.int x1), .val (.int o0), .val (.int o1), .val (.int y0), .val (.int y1), .val (.int u0), .val (.int u1), .val (.ref r22), .val (.ref b24), .val (.ref b33), .val (.int (0 : Int32)), .val (.int (((p2.toUInt32 >>> ((12 : Int32) &&& 31).toUInt32).toInt32) &&& (3 : Int32)))] [])) _
          refine XS.aload X65.here hx rfl (hb hby at_289) rfl rfl ?_
          show Steps p.tables e below (T65.setTop (mkF m 291 #[.val (.int p0), .val (.int p1), .val (.int p2), .val (.int la1), .val (.int la2), .val (.int lo1), .val (.int lo2), .val (.int x0), .val (.int x1), .val (.int o0), .val (.int o1), .val (.int y0), .val (.int y1), .val (.int u0), .val (.int u1), .val (.ref r22), .val (.ref b24), .val (.ref b33), .val (.int (0 : Int32)), .val (.int (((p2.toUInt32 >>> ((12 : Int32) &&& 31).toUInt32).toInt32) &&& (3 : Int32)))] [(.ref b24)])) _
          refine XS.aconstNull X65.here hx rfl (hb hby at_291) ?_
          show Steps p.tables e below (T65.setTop (mkF m 292 #[.val (.int p0), .val (.int p1), .val (.int p2), .val (.int la1), .val (.int la2), .val (.int lo1), .val (.int lo2), .val (.int x0), .val (.int x1), .val (.int o0), .val (.int o1), .val (.int y0), .val (.int y1), .val (.int u0), .val (.int u1), .val (.ref r22), .val (.ref b24), .val (.ref b33), .val (.int (0 : Int32)), .val (.int (((p2.toUInt32 >>> ((12 : Int32) &&& 31).toUInt32).toInt32) &&& (3 : Int32)))] [.null, (.ref b24)])) _
          refine st70.trans ?_
          show Steps p.tables e below (T70.setTop (mkF m 295 #[.val (.int p0), .val (.int p1), .val (.int p2), .val (.int la1), .val (.int la2), .val (.int lo1), .val (.int lo2), .val (.int x0), .val (.int x1), .val (.int o0), .val (.int o1), .val (.int y0), .val (.int y1), .val (.int u0), .val (.int u1), .val (.ref r22), .val (.ref b24), .val (.ref b33), .val (.int (0 : Int32)), .val (.int (((p2.toUInt32 >>> ((12 : Int32) &&& 31).toUInt32).toInt32) &&& (3 : Int32)))] [(.int (0 : Int32))])) _
          refine XS.ifNo X70.here hx rfl (hb hby at_295) rfl ((if0 _ _).trans (teq (by decide : (0 : Int32) = (0 : Int32))).2) ?_
          show Steps p.tables e below (T70.setTop (mkF m 298 #[.val (.int p0), .val (.int p1), .val (.int p2), .val (.int la1), .val (.int la2), .val (.int lo1), .val (.int lo2), .val (.int x0), .val (.int x1), .val (.int o0), .val (.int o1), .val (.int y0), .val (.int y1), .val (.int u0), .val (.int u1), .val (.ref r22), .val (.ref b24), .val (.ref b33), .val (.int (0 : Int32)), .val (.int (((p2.toUInt32 >>> ((12 : Int32) &&& 31).toUInt32).toInt32) &&& (3 : Int32)))] [])) _
          refine XS.iconst X70.here hx rfl (hb hby at_298) ?_
          show Steps p.tables e below (T70.setTop (mkF m 299 #[.val (.int p0), .val (.int p1), .val (.int p2), .val (.int la1), .val (.int la2), .val (.int lo1), .val (.int lo2), .val (.int x0), .val (.int x1), .val (.int o0), .val (.int o1), .val (.int y0), .val (.int y1), .val (.int u0), .val (.int u1), .val (.ref r22), .val (.ref b24), .val (.ref b33), .val (.int (0 : Int32)), .val (.int (((p2.toUInt32 >>> ((12 : Int32) &&& 31).toUInt32).toInt32) &&& (3 : Int32)))] [(.int (1 : Int32))])) _
          refine XS.goto X70.here hx rfl (pc0 := 299) (pc' := 303) rfl (hb hby at_299) (by decide) (by decide) ?_
          show Steps p.tables e below (T70.setTop (mkF m 303 #[.val (.int p0), .val (.int p1), .val (.int p2), .val (.int la1), .val (.int la2), .val (.int lo1), .val (.int lo2), .val (.int x0), .val (.int x1), .val (.int o0), .val (.int o1), .val (.int y0), .val (.int y1), .val (.int u0), .val (.int u1), .val (.ref r22), .val (.ref b24), .val (.ref b33), .val (.int (0 : Int32)), .val (.int (((p2.toUInt32 >>> ((12 : Int32) &&& 31).toUInt32).toInt32) &&& (3 : Int32)))] [(.int (1 : Int32))])) _
          exact retN X70 hx (t := .boolean) Bd.returns (by simp) (hb hby at_303) hr
        · show Q0 Z p0 p1 p2 i_COMPACT_STRINGS  h0 n0 _ T70.heap _
          skip
          exact ⟨rfl, N70⟩
      ·
        have pre72 : ∀ t, Steps p.tables e below (T65.setTop (mkF m 307 #[.val (.int p0), .val (.int p1), .val (.int p2), .val (.int la1), .val (.int la2), .val (.int lo1), .val (.int lo2), .val (.int x0), .val (.int x1), .val (.int o0), .val (.int o1), .val (.int y0), .val (.int y1), .val (.int u0), .val (.int u1), .val (.ref r22), .val (.ref b24), .val (.ref b33), .val (.int (0 : Int32)), .val (.int (((p2.toUInt32 >>> ((12 : Int32) &&& 31).toUInt32).toInt32) &&& (3 : Int32)))] [(.int (2 : Int32)), (.int (((p2.toUInt32 >>> ((12 : Int32) &&& 31).toUInt32).toInt32) &&& (3 : Int32)))])) t → Steps p.tables e below (s₁.setTop (entryFrame m #[(.int p0), (.int p1), (.int p2)] maxLocals)) t := by
          intro t k
          refine pre68 _ ?_
          show Steps p.tables e below (T65.setTop (mkF m 286 #[.val (.int p0), .val (.int p1), .val (.int p2), .val (.int la1), .val (.int la2), .val (.int lo1), .val (.int lo2), .val (.int x0), .val (.int x1), .val (.int o0), .val (.int o1), .val (.int y0), .val (.int y1), .val (.int u0), .val (.int u1), .val (.ref r22), .val (.ref b24), .val (.ref b33), .val (.int (0 : Int32)), .val (.int (((p2.toUInt32 >>> ((12 : Int32) &&& 31).toUInt32).toInt32) &&& (3 : Int32)))] [(.int (1 : Int32)), (.int (((p2.toUInt32 >>> ((12 : Int32) &&& 31).toUInt32).toInt32) &&& (3 : Int32)))])) _
          refine XS.icmpYes X65.here hx rfl (pc0 := 286) (pc' := 304) rfl (hb hby at_286) rfl (feq hc69).2 (by decide) (by decide) ?_
          show Steps p.tables e below (T65.setTop (mkF m 304 #[.val (.int p0), .val (.int p1), .val (.int p2), .val (.int la1), .val (.int la2), .val (.int lo1), .val (.int lo2), .val (.int x0), .val (.int x1), .val (.int o0), .val (.int o1), .val (.int y0), .val (.int y1), .val (.int u0), .val (.int u1), .val (.ref r22), .val (.ref b24), .val (.ref b33), .val (.int (0 : Int32)), .val (.int (((p2.toUInt32 >>> ((12 : Int32) &&& 31).toUInt32).toInt32) &&& (3 : Int32)))] [])) _
          refine XS.iload X65.here hx rfl (hb hby at_304) rfl ?_
          show Steps p.tables e below (T65.setTop (mkF m 306 #[.val (.int p0), .val (.int p1), .val (.int p2), .val (.int la1), .val (.int la2), .val (.int lo1), .val (.int lo2), .val (.int x0), .val (.int x1), .val (.int o0), .val (.int o1), .val (.int y0), .val (.int y1), .val (.int u0), .val (.int u1), .val (.ref r22), .val (.ref b24), .val (.ref b33), .val (.int (0 : Int32)), .val (.int (((p2.toUInt32 >>> ((12 : Int32) &&& 31).toUInt32).toInt32) &&& (3 : Int32)))] [(.int (((p2.toUInt32 >>> ((12 : Int32) &&& 31).toUInt32).toInt32) &&& (3 : Int32)))])) _
          refine XS.iconst X65.here hx rfl (hb hby at_306) ?_
          exact k
        by_cases hc73 : (((p2.toUInt32 >>> ((12 : Int32) &&& 31).toUInt32).toInt32) &&& (3 : Int32)) = (2 : Int32)
        ·
          obtain ⟨cq74, kq74, q74a, q74b, q74c⟩ := isOf hZ rfl E_b24
          obtain ⟨_, _, ⟨T74, L74, k74, n74⟩, -, X74, ⟨Lc74, hQ74, l74, y74, z74⟩, st74⟩ := X65.virtualBack hx (y := (⟨"com/example/grotti/grotti/Operation", "equals", "(Ljava/lang/Object;)Z"⟩ : MethodName)) (z := (⟨"com/example/grotti/grotti/Operation", "equals", "(Ljava/lang/Object;)Z"⟩ : MethodName)) hown (mvT hZ (hw _ (List.mem_of_getElem? (i := 51) rfl))) (mvT hZ (hw _ (List.mem_of_getElem? (i := 52) rfl))) (notFace_of_selects (args := #[]) (mvT hZ (hw _ (List.mem_of_getElem? (i := 54) rfl)))) (mvT hZ (hw _ (List.mem_of_getElem? (i := 54) rfl))) (mvT hZ (hw _ (List.mem_of_getElem? (i := 53) rfl))) (by decide) (backOf (W := 0) (rm10s l Z ar0 hw [] b24 r22 i_COMPACT_STRINGS  T65.heap n0 O65 F E_r22) hZ (hw _ (List.mem_of_getElem? (i := 55) rfl)) (hw _ (List.mem_of_getElem? (i := 14) rfl)) (by decide) (by decide)) q74a q74c (g := (mkF m 314 #[.val (.int p0), .val (.int p1), .val (.int p2), .val (.int la1), .val (.int la2), .val (.int lo1), .val (.int lo2), .val (.int x0), .val (.int x1), .val (.int o0), .val (.int o1), .val (.int y0), .val (.int y1), .val (.int u0), .val (.int u1), .val (.ref r22), .val (.ref b24), .val (.ref b33), .val (.int (0 : Int32)), .val (.int (((p2.toUInt32 >>> ((12 : Int32) &&& 31).toUInt32).toInt32) &&& (3 : Int32)))] [(.ref r22), (.ref b24)])) rfl (by rw [hml]; rfl) (Steps.refl _) (argsL := [(.ref r22)]) (rest := []) (lenOf pd_0_314 rfl) rfl (by show 2 * 0 + _ ≤ _; exact Nat.le_of_eq rfl) (hb hby at_314) (fun _ _ => ⟨rfl, rfl, (by decide : 14 + 0 ≤ _), (by decide : 36 + 0 ≤ _)⟩)
          dsimp only [Pt.U, Pt.locs, Pt.cells, Pt.slots] at X74 l74 y74 z74 st74 hQ74
          subst l74 y74 z74
          obtain ⟨rfl, N74q, O74, Kc74⟩ := hQ74
          have N74 := Fr.app N65 N74q
          have K74 : Keep h0 T74.heap [] := K65.trans Kc74 all0
          have CH75 := CHv.keep Kc74 all0 CH66
          have CR75 := CR66.trans (CHr.keep Kc74 all0 CH66)
          have hk := Nat.le_trans hk Kc74.1
          have E_r22 := (E_r22.keep Kc74)
          have F_coder_r22 := (F_coder_r22.keep Kc74 nin0)
          have F_value_r22 := (F_value_r22.keep Kc74 nin0)
          have V_t22 := (V_t22.keep Kc74 nin0)
          have E_b24 := (E_b24.keep Kc74)
          have E_r26 := (E_r26.keep Kc74)
          have F_coder_r26 := (F_coder_r26.keep Kc74 nin0)
          have F_value_r26 := (F_value_r26.keep Kc74 nin0)
          have V_t26 := (V_t26.keep Kc74 nin0)
          have E_r28 := (E_r28.keep Kc74)
          have F_coder_r28 := (F_coder_r28.keep Kc74 nin0)
          have F_value_r28 := (F_value_r28.keep Kc74 nin0)
          have V_t28 := (V_t28.keep Kc74 nin0)
          have F_app_b24 := (F_app_b24.keep Kc74 nin0)
          have F_op_b24 := (F_op_b24.keep Kc74 nin0)
          have E_b33 := (E_b33.keep Kc74)
          have E_r35 := (E_r35.keep Kc74)
          have F_coder_r35 := (F_coder_r35.keep Kc74 nin0)
          have F_value_r35 := (F_value_r35.keep Kc74 nin0)
          have V_t35 := (V_t35.keep Kc74 nin0)
          have F_app_b33 := (F_app_b33.keep Kc74 nin0)
          have F_op_b33 := (F_op_b33.keep Kc74 nin0)
          obtain ⟨fs, hr, hrun, hended, hRW⟩ := X74.leaveW hS (hk) (v := some (.int (1 : Int32))) (fun h => by rw [Bd.returns] at h; cases h)
          have CRx : CHr Z EL s.vm s.heap T74.vm T74.heap := by rw [hh]; exact CR75.trans (CHv.at X74 hZ hEL CH75)
          refine ⟨_, _, pre72 _ ?_, hrun, hended, _, _, rfl, ?_, CRx, own_rw_mono hRW (by decide) (by decide)⟩
          · show Steps p.tables e below (T65.setTop (mkF m 307 #[.val (.int p0), .val (.int p1), .val (.int p2), .val (.int la1), .val (.int la2), .val (.int lo1), .val (.int lo2), .val (.int x0), .val (.int x1), .val (.int o0), .val (.int o1), .val (.int y0), .val (.int y1), .val (.int u0), .val (.int u1), .val (.ref r22), .val (.ref b24), .val (.ref b33), .val (.int (0 : Int32)), .val (.int (((p2.toUInt32 >>> ((12 : Int32) &&& 31).toUInt32).toInt32) &&& (3 : Int32)))] [(.int (2 : Int32)), (.int (((p2.toUInt32 >>> ((12 : Int32) &&& 31).toUInt32).toInt32) &&& (3 : Int32)))])) _
            refine XS.icmpNo X65.here hx rfl (hb hby at_307) rfl (teq hc73).2 ?_
            show Steps p.tables e below (T65.setTop (mkF m 310 #[.val (.int p0), .val (.int p1), .val (.int p2), .val (.int la1), .val (.int la2), .val (.int lo1), .val (.int lo2), .val (.int x0), .val (.int x1), .val (.int o0), .val (.int o1), .val (.int y0), .val (.int y1), .val (.int u0), .val (.int u1), .val (.ref r22), .val (.ref b24), .val (.ref b33), .val (.int (0 : Int32)), .val (.int (((p2.toUInt32 >>> ((12 : Int32) &&& 31).toUInt32).toInt32) &&& (3 : Int32)))] [])) _
            refine XS.aload X65.here hx rfl (hb hby at_310) rfl rfl ?_
            show Steps p.tables e below (T65.setTop (mkF m 312 #[.val (.int p0), .val (.int p1), .val (.int p2), .val (.int la1), .val (.int la2), .val (.int lo1), .val (.int lo2), .val (.int x0), .val (.int x1), .val (.int o0), .val (.int o1), .val (.int y0), .val (.int y1), .val (.int u0), .val (.int u1), .val (.ref r22), .val (.ref b24), .val (.ref b33), .val (.int (0 : Int32)), .val (.int (((p2.toUInt32 >>> ((12 : Int32) &&& 31).toUInt32).toInt32) &&& (3 : Int32)))] [(.ref b24)])) _
            refine XS.aload X65.here hx rfl (hb hby at_312) rfl rfl ?_
            show Steps p.tables e below (T65.setTop (mkF m 314 #[.val (.int p0), .val (.int p1), .val (.int p2), .val (.int la1), .val (.int la2), .val (.int lo1), .val (.int lo2), .val (.int x0), .val (.int x1), .val (.int o0), .val (.int o1), .val (.int y0), .val (.int y1), .val (.int u0), .val (.int u1), .val (.ref r22), .val (.ref b24), .val (.ref b33), .val (.int (0 : Int32)), .val (.int (((p2.toUInt32 >>> ((12 : Int32) &&& 31).toUInt32).toInt32) &&& (3 : Int32)))] [(.ref r22), (.ref b24)])) _
            refine st74.trans ?_
            show Steps p.tables e below (T74.setTop (mkF m 317 #[.val (.int p0), .val (.int p1), .val (.int p2), .val (.int la1), .val (.int la2), .val (.int lo1), .val (.int lo2), .val (.int x0), .val (.int x1), .val (.int o0), .val (.int o1), .val (.int y0), .val (.int y1), .val (.int u0), .val (.int u1), .val (.ref r22), .val (.ref b24), .val (.ref b33), .val (.int (0 : Int32)), .val (.int (((p2.toUInt32 >>> ((12 : Int32) &&& 31).toUInt32).toInt32) &&& (3 : Int32)))] [(.int (0 : Int32))])) _
            refine XS.ifNo X74.here hx rfl (hb hby at_317) rfl ((if0 _ _).trans (teq (by decide : (0 : Int32) = (0 : Int32))).2) ?_
            show Steps p.tables e below (T74.setTop (mkF m 320 #[.val (.int p0), .val (.int p1), .val (.int p2), .val (.int la1), .val (.int la2), .val (.int lo1), .val (.int lo2), .val (.int x0), .val (.int x1), .val (.int o0), .val (.int o1), .val (.int y0), .val (.int y1), .val (.int u0), .val (.int u1), .val (.ref r22), .val (.ref b24), .val (.ref b33), .val (.int (0 : Int32)), .val (.int (((p2.toUInt32 >>> ((12 : Int32) &&& 31).toUInt32).toInt32) &&& (3 : Int32)))] [])) _
            refine XS.iconst X74.here hx rfl (hb hby at_320) ?_
            show Steps p.tables e below (T74.setTop (mkF m 321 #[.val (.int p0), .val (.int p1), .val (.int p2), .val (.int la1), .val (.int la2), .val (.int lo1), .val (.int lo2), .val (.int x0), .val (.int x1), .val (.int o0), .val (.int o1), .val (.int y0), .val (.int y1), .val (.int u0), .val (.int u1), .val (.ref r22), .val (.ref b24), .val (.ref b33), .val (.int (0 : Int32)), .val (.int (((p2.toUInt32 >>> ((12 : Int32) &&& 31).toUInt32).toInt32) &&& (3 : Int32)))] [(.int (1 : Int32))])) _
            refine XS.goto X74.here hx rfl (pc0 := 321) (pc' := 325) rfl (hb hby at_321) (by decide) (by decide) ?_
            show Steps p.tables e below (T74.setTop (mkF m 325 #[.val (.int p0), .val (.int p1), .val (.int p2), .val (.int la1), .val (.int la2), .val (.int lo1), .val (.int lo2), .val (.int x0), .val (.int x1), .val (.int o0), .val (.int o1), .val (.int y0), .val (.int y1), .val (.int u0), .val (.int u1), .val (.ref r22), .val (.ref b24), .val (.ref b33), .val (.int (0 : Int32)), .val (.int (((p2.toUInt32 >>> ((12 : Int32) &&& 31).toUInt32).toInt32) &&& (3 : Int32)))] [(.int (1 : Int32))])) _
            exact retN X74 hx (t := .boolean) Bd.returns (by simp) (hb hby at_325) hr
          · show Q0 Z p0 p1 p2 i_COMPACT_STRINGS  h0 n0 _ T74.heap _
            skip
            exact ⟨rfl, N74⟩
        ·
          obtain ⟨cq76, kq76, q76a, q76b, q76c⟩ := isOf hZ rfl E_b24
          obtain ⟨_, _, ⟨T76, L76, k76, n76⟩, -, X76, ⟨Lc76, hQ76, l76, y76, z76⟩, st76⟩ := X65.virtualBack hx (y := (⟨"com/example/grotti/grotti/Operation", "equals", "(Ljava/lang/Object;)Z"⟩ : MethodName)) (z := (⟨"com/example/grotti/grotti/Operation", "equals", "(Ljava/lang/Object;)Z"⟩ : MethodName)) hown (mvT hZ (hw _ (List.mem_of_getElem? (i := 51) rfl))) (mvT hZ (hw _ (List.mem_of_getElem? (i := 52) rfl))) (notFace_of_selects (args := #[]) (mvT hZ (hw _ (List.mem_of_getElem? (i := 54) rfl)))) (mvT hZ (hw _ (List.mem_of_getElem? (i := 54) rfl))) (mvT hZ (hw _ (List.mem_of_getElem? (i := 53) rfl))) (by decide) (backOf (W := 0) (rm10e l Z ar0 hw [] b24 b33 i_COMPACT_STRINGS r26 t26 kb26 (csOf la1 x0 x1) r28 t28 kb28 (csOf lo1 o0 o1) r22 t22 kb22 (csOf la2 y0 y1) r35 t35 kb35 (csOf lo2 u0 u1) T65.heap n0 O65 F ((own_cs255 h8_x0 h8_x1)) ((own_cslen _ _ _)) ((own_cs255 h8_o0 h8_o1)) ((own_cslen _ _ _)) ((own_cs255 h8_y0 h8_y1)) ((own_cslen _ _ _)) ((own_cs255 h8_u0 h8_u1)) ((own_cslen _ _ _)) E_b33 F_app_b24 E_r26 F_coder_r26 F_value_r26 V_t26 F_op_b24 E_r28 F_coder_r28 F_value_r28 V_t28 F_app_b33 E_r22 F_coder_r22 F_value_r22 V_t22 F_op_b33 E_r35 F_coder_r35 F_value_r35 V_t35) hZ (hw _ (List.mem_of_getElem? (i := 55) rfl)) (hw _ (List.mem_of_getElem? (i := 14) rfl)) (by decide) (by decide)) q76a q76c (g := (mkF m 330 #[.val (.int p0), .val (.int p1), .val (.int p2), .val (.int la1), .val (.int la2), .val (.int lo1), .val (.int lo2), .val (.int x0), .val (.int x1), .val (.int o0), .val (.int o1), .val (.int y0), .val (.int y1), .val (.int u0), .val (.int u1), .val (.ref r22), .val (.ref b24), .val (.ref b33), .val (.int (0 : Int32)), .val (.int (((p2.toUInt32 >>> ((12 : Int32) &&& 31).toUInt32).toInt32) &&& (3 : Int32)))] [(.ref b33), (.ref b24)])) rfl (by rw [hml]; rfl) (Steps.refl _) (argsL := [(.ref b33)]) (rest := []) (lenOf pd_0_330 rfl) rfl (by show 2 * 0 + _ ≤ _; exact Nat.le_of_eq rfl) (hb hby at_330) (fun _ _ => ⟨rfl, rfl, (by decide : 14 + 0 ≤ _), (by decide : 36 + 0 ≤ _)⟩)
          dsimp only [Pt.U, Pt.locs, Pt.cells, Pt.slots] at X76 l76 y76 z76 st76 hQ76
          subst l76 y76 z76
          obtain ⟨rfl, N76q, O76, Kc76⟩ := hQ76
          have N76 := Fr.app N65 N76q
          have K76 : Keep h0 T76.heap [] := K65.trans Kc76 all0
          have CH77 := CHv.keep Kc76 all0 CH66
          have CR77 := CR66.trans (CHr.keep Kc76 all0 CH66)
          have hk := Nat.le_trans hk Kc76.1
          have E_r22 := (E_r22.keep Kc76)
          have F_coder_r22 := (F_coder_r22.keep Kc76 nin0)
          have F_value_r22 := (F_value_r22.keep Kc76 nin0)
          have V_t22 := (V_t22.keep Kc76 nin0)
          have E_b24 := (E_b24.keep Kc76)
          have E_r26 := (E_r26.keep Kc76)
          have F_coder_r26 := (F_coder_r26.keep Kc76 nin0)
          have F_value_r26 := (F_value_r26.keep Kc76 nin0)
          have V_t26 := (V_t26.keep Kc76 nin0)
          have E_r28 := (E_r28.keep Kc76)
          have F_coder_r28 := (F_coder_r28.keep Kc76 nin0)
          have F_value_r28 := (F_value_r28.keep Kc76 nin0)
          have V_t28 := (V_t28.keep Kc76 nin0)
          have F_app_b24 := (F_app_b24.keep Kc76 nin0)
          have F_op_b24 := (F_op_b24.keep Kc76 nin0)
          have E_b33 := (E_b33.keep Kc76)
          have E_r35 := (E_r35.keep Kc76)
          have F_coder_r35 := (F_coder_r35.keep Kc76 nin0)
          have F_value_r35 := (F_value_r35.keep Kc76 nin0)
          have V_t35 := (V_t35.keep Kc76 nin0)
          have F_app_b33 := (F_app_b33.keep Kc76 nin0)
          have F_op_b33 := (F_op_b33.keep Kc76 nin0)
          have hk78 : (eqR ((csOf la1 x0 x1)) ((csOf la2 y0 y1)) ((csOf lo1 o0 o1)) ((csOf lo2 u0 u1))) = (0 : Int32) := own_eqR_0 (fun q => (own_same h3_lo1 h3_lo2).mpr q.2 hc64)
          obtain ⟨cq79, kq79, q79a, q79b, q79c⟩ := isOf hZ rfl E_b33
          obtain ⟨_, _, ⟨T79, L79, k79, n79⟩, -, X79, ⟨Lc79, hQ79, l79, y79, z79⟩, st79⟩ := X76.virtualBack hx (y := (⟨"com/example/grotti/grotti/Operation", "equals", "(Ljava/lang/Object;)Z"⟩ : MethodName)) (z := (⟨"com/example/grotti/grotti/Operation", "equals", "(Ljava/lang/Object;)Z"⟩ : MethodName)) hown (mvT hZ (hw _ (List.mem_of_getElem? (i := 51) rfl))) (mvT hZ (hw _ (List.mem_of_getElem? (i := 52) rfl))) (notFace_of_selects (args := #[]) (mvT hZ (hw _ (List.mem_of_getElem? (i := 54) rfl)))) (mvT hZ (hw _ (List.mem_of_getElem? (i := 54) rfl))) (mvT hZ (hw _ (List.mem_of_getElem? (i := 53) rfl))) (by decide) (backOf (W := 0) (rm10e l Z ar0 hw [] b33 b24 i_COMPACT_STRINGS r22 t22 kb22 (csOf la2 y0 y1) r35 t35 kb35 (csOf lo2 u0 u1) r26 t26 kb26 (csOf la1 x0 x1) r28 t28 kb28 (csOf lo1 o0 o1) T76.heap n0 O76 F ((own_cs255 h8_y0 h8_y1)) ((own_cslen _ _ _)) ((own_cs255 h8_u0 h8_u1)) ((own_cslen _ _ _)) ((own_cs255 h8_x0 h8_x1)) ((own_cslen _ _ _)) ((own_cs255 h8_o0 h8_o1)) ((own_cslen _ _ _)) E_b24 F_app_b33 E_r22 F_coder_r22 F_value_r22 V_t22 F_op_b33 E_r35 F_coder_r35 F_value_r35 V_t35 F_app_b24 E_r26 F_coder_r26 F_value_r26 V_t26 F_op_b24 E_r28 F_coder_r28 F_value_r28 V_t28) hZ (hw _ (List.mem_of_getElem? (i := 55) rfl)) (hw _ (List.mem_of_getElem? (i := 14) rfl)) (by decide) (by decide)) q79a q79c (g := (mkF m 342 #[.val (.int p0), .val (.int p1), .val (.int p2), .val (.int la1), .val (.int la2), .val (.int lo1), .val (.int lo2), .val (.int x0), .val (.int x1), .val (.int o0), .val (.int o1), .val (.int y0), .val (.int y1), .val (.int u0), .val (.int u1), .val (.ref r22), .val (.ref b24), .val (.ref b33), .val (.int (0 : Int32)), .val (.int (((p2.toUInt32 >>> ((12 : Int32) &&& 31).toUInt32).toInt32) &&& (3 : Int32)))] [(.ref b24), (.ref b33)])) rfl (by rw [hml]; rfl) (Steps.refl _) (argsL := [(.ref b24)]) (rest := []) (lenOf pd_0_342 rfl) rfl (by show 2 * 0 + _ ≤ _; exact Nat.le_of_eq rfl) (hb hby at_342) (fun _ _ => ⟨rfl, rfl, (by decide : 14 + 0 ≤ _), (by decide : 36 + 0 ≤ _)⟩)
          dsimp only [Pt.U, Pt.locs, Pt.cells, Pt.slots] at X79 l79 y79 z79 st79 hQ79
          subst l79 y79 z79
          obtain ⟨rfl, N79q, O79, Kc79⟩ := hQ79
          have N79 := Fr.app N76 N79q
          have K79 : Keep h0 T79.heap [] := K76.trans Kc79 all0
          have CH80 := CHv.keep Kc79 all0 CH77
          have CR80 := CR77.trans (CHr.keep Kc79 all0 CH77)
          have hk := Nat.le_trans hk Kc79.1
          have E_r22 := (E_r22.keep Kc79)
          have F_coder_r22 := (F_coder_r22.keep Kc79 nin0)
          have F_value_r22 := (F_value_r22.keep Kc79 nin0)
          have V_t22 := (V_t22.keep Kc79 nin0)
          have E_b24 := (E_b24.keep Kc79)
          have E_r26 := (E_r26.keep Kc79)
          have F_coder_r26 := (F_coder_r26.keep Kc79 nin0)
          have F_value_r26 := (F_value_r26.keep Kc79 nin0)
          have V_t26 := (V_t26.keep Kc79 nin0)
          have E_r28 := (E_r28.keep Kc79)
          have F_coder_r28 := (F_coder_r28.keep Kc79 nin0)
          have F_value_r28 := (F_value_r28.keep Kc79 nin0)
          have V_t28 := (V_t28.keep Kc79 nin0)
          have F_app_b24 := (F_app_b24.keep Kc79 nin0)
          have F_op_b24 := (F_op_b24.keep Kc79 nin0)
          have E_b33 := (E_b33.keep Kc79)
          have E_r35 := (E_r35.keep Kc79)
          have F_coder_r35 := (F_coder_r35.keep Kc79 nin0)
          have F_value_r35 := (F_value_r35.keep Kc79 nin0)
          have V_t35 := (V_t35.keep Kc79 nin0)
          have F_app_b33 := (F_app_b33.keep Kc79 nin0)
          have F_op_b33 := (F_op_b33.keep Kc79 nin0)
          have hk81 : (eqR ((csOf la2 y0 y1)) ((csOf la1 x0 x1)) ((csOf lo2 u0 u1)) ((csOf lo1 o0 o1))) = (0 : Int32) := own_eqR_0 (fun q => (own_same h3_lo1 h3_lo2).mpr q.2.symm hc64)
          obtain ⟨fs, hr, hrun, hended, hRW⟩ := X79.leaveW hS (hk) (v := some (.int (1 : Int32))) (fun h => by rw [Bd.returns] at h; cases h)
          have CRx : CHr Z EL s.vm s.heap T79.vm T79.heap := by rw [hh]; exact CR80.trans (CHv.at X79 hZ hEL CH80)
          refine ⟨_, _, pre72 _ ?_, hrun, hended, _, _, rfl, ?_, CRx, own_rw_mono hRW (by decide) (by decide)⟩
          · show Steps p.tables e below (T65.setTop (mkF m 307 #[.val (.int p0), .val (.int p1), .val (.int p2), .val (.int la1), .val (.int la2), .val (.int lo1), .val (.int lo2), .val (.int x0), .val (.int x1), .val (.int o0), .val (.int o1), .val (.int y0), .val (.int y1), .val (.int u0), .val (.int u1), .val (.ref r22), .val (.ref b24), .val (.ref b33), .val (.int (0 : Int32)), .val (.int (((p2.toUInt32 >>> ((12 : Int32) &&& 31).toUInt32).toInt32) &&& (3 : Int32)))] [(.int (2 : Int32)), (.int (((p2.toUInt32 >>> ((12 : Int32) &&& 31).toUInt32).toInt32) &&& (3 : Int32)))])) _
            refine XS.icmpYes X65.here hx rfl (pc0 := 307) (pc' := 326) rfl (hb hby at_307) rfl (feq hc73).2 (by decide) (by decide) ?_
            show Steps p.tables e below (T65.setTop (mkF m 326 #[.val (.int p0), .val (.int p1), .val (.int p2), .val (.int la1), .val (.int la2), .val (.int lo1), .val (.int lo2), .val (.int x0), .val (.int x1), .val (.int o0), .val (.int o1), .val (.int y0), .val (.int y1), .val (.int u0), .val (.int u1), .val (.ref r22), .val (.ref b24), .val (.ref b33), .val (.int (0 : Int32)), .val (.int (((p2.toUInt32 >>> ((12 : Int32) &&& 31).toUInt32).toInt32) &&& (3 : Int32)))] [])) _
            refine XS.aload X65.here hx rfl (hb hby at_326) rfl rfl ?_
            show Steps p.tables e below (T65.setTop (mkF m 328 #[.val (.int p0), .val (.int p1), .val (.int p2), .val (.int la1), .val (.int la2), .val (.int lo1), .val (.int lo2), .val (.int x0), .val (.int x1), .val (.int o0), .val (.int o1), .val (.int y0), .val (.int y1), .val (.int u0), .val (.int u1), .val (.ref r22), .val (.ref b24), .val (.ref b33), .val (.int (0 : Int32)), .val (.int (((p2.toUInt32 >>> ((12 : Int32) &&& 31).toUInt32).toInt32) &&& (3 : Int32)))] [(.ref b24)])) _
            refine XS.aload X65.here hx rfl (hb hby at_328) rfl rfl ?_
            show Steps p.tables e below (T65.setTop (mkF m 330 #[.val (.int p0), .val (.int p1), .val (.int p2), .val (.int la1), .val (.int la2), .val (.int lo1), .val (.int lo2), .val (.int x0), .val (.int x1), .val (.int o0), .val (.int o1), .val (.int y0), .val (.int y1), .val (.int u0), .val (.int u1), .val (.ref r22), .val (.ref b24), .val (.ref b33), .val (.int (0 : Int32)), .val (.int (((p2.toUInt32 >>> ((12 : Int32) &&& 31).toUInt32).toInt32) &&& (3 : Int32)))] [(.ref b33), (.ref b24)])) _
            refine st76.trans ?_
            show Steps p.tables e below (T76.setTop (mkF m 333 #[.val (.int p0), .val (.int p1), .val (.int p2), .val (.int la1), .val (.int la2), .val (.int lo1), .val (.int lo2), .val (.int x0), .val (.int x1), .val (.int o0), .val (.int o1), .val (.int y0), .val (.int y1), .val (.int u0), .val (.int u1), .val (.ref r22), .val (.ref b24), .val (.ref b33), .val (.int (0 : Int32)), .val (.int (((p2.toUInt32 >>> ((12 : Int32) &&& 31).toUInt32).toInt32) &&& (3 : Int32)))] [(.int (eqR ((csOf la1 x0 x1)) ((csOf la2 y0 y1)) ((csOf lo1 o0 o1)) ((csOf lo2 u0 u1))))])) _
            refine XS.iload X76.here hx rfl (hb hby at_333) rfl ?_
            show Steps p.tables e below (T76.setTop (mkF m 335 #[.val (.int p0), .val (.int p1), .val (.int p2), .val (.int la1), .val (.int la2), .val (.int lo1), .val (.int lo2), .val (.int x0), .val (.int x1), .val (.int o0), .val (.int o1), .val (.int y0), .val (.int y1), .val (.int u0), .val (.int u1), .val (.ref r22), .val (.ref b24), .val (.ref b33), .val (.int (0 : Int32)), .val (.int (((p2.toUInt32 >>> ((12 : Int32) &&& 31).toUInt32).toInt32) &&& (3 : Int32)))] [(.int (0 : Int32)), (.int (eqR ((csOf la1 x0 x1)) ((csOf la2 y0 y1)) ((csOf lo1 o0 o1)) ((csOf lo2 u0 u1))))])) _
            refine XS.icmpNo X76.here hx rfl (hb hby at_335) rfl (teq hk78).2 ?_
            show Steps p.tables e below (T76.setTop (mkF m 338 #[.val (.int p0), .val (.int p1), .val (.int p2), .val (.int la1), .val (.int la2), .val (.int lo1), .val (.int lo2), .val (.int x0), .val (.int x1), .val (.int o0), .val (.int o1), .val (.int y0), .val (.int y1), .val (.int u0), .val (.int u1), .val (.ref r22), .val (.ref b24), .val (.ref b33), .val (.int (0 : Int32)), .val (.int (((p2.toUInt32 >>> ((12 : Int32) &&& 31).toUInt32).toInt32) &&& (3 : Int32)))] [])) _
            refine XS.aload X76.here hx rfl (hb hby at_338) rfl rfl ?_
            show Steps p.tables e below (T76.setTop (mkF m 340 #[.val (.int p0), .val (.int p1), .val (.int p2), .val (.int la1), .val (.int la2), .val (.int lo1), .val (.int lo2), .val (.int x0), .val (.int x1), .val (.int o0), .val (.int o1), .val (.int y0), .val (.int y1), .val (.int u0), .val (.int u1), .val (.ref r22), .val (.ref b24), .val (.ref b33), .val (.int (0 : Int32)), .val (.int (((p2.toUInt32 >>> ((12 : Int32) &&& 31).toUInt32).toInt32) &&& (3 : Int32)))] [(.ref b33)])) _
            refine XS.aload X76.here hx rfl (hb hby at_340) rfl rfl ?_
            show Steps p.tables e below (T76.setTop (mkF m 342 #[.val (.int p0), .val (.int p1), .val (.int p2), .val (.int la1), .val (.int la2), .val (.int lo1), .val (.int lo2), .val (.int x0), .val (.int x1), .val (.int o0), .val (.int o1), .val (.int y0), .val (.int y1), .val (.int u0), .val (.int u1), .val (.ref r22), .val (.ref b24), .val (.ref b33), .val (.int (0 : Int32)), .val (.int (((p2.toUInt32 >>> ((12 : Int32) &&& 31).toUInt32).toInt32) &&& (3 : Int32)))] [(.ref b24), (.ref b33)])) _
            refine st79.trans ?_
            show Steps p.tables e below (T79.setTop (mkF m 345 #[.val (.int p0), .val (.int p1), .val (.int p2), .val (.int la1), .val (.int la2), .val (.int lo1), .val (.int lo2), .val (.int x0), .val (.int x1), .val (.int o0), .val (.int o1), .val (.int y0), .val (.int y1), .val (.int u0), .val (.int u1), .val (.ref r22), .val (.ref b24), .val (.ref b33), .val (.int (0 : Int32)), .val (.int (((p2.toUInt32 >>> ((12 : Int32) &&& 31).toUInt32).toInt32) &&& (3 : Int32)))] [(.int (eqR ((csOf la2 y0 y1)) ((csOf la1 x0 x1)) ((csOf lo2 u0 u1)) ((csOf lo1 o0 o1))))])) _
            refine XS.iload X79.here hx rfl (hb hby at_345) rfl ?_
            show Steps p.tables e below (T79.setTop (mkF m 347 #[.val (.int p0), .val (.int p1), .val (.int p2), .val (.int la1), .val (.int la2), .val (.int lo1), .val (.int lo2), .val (.int x0), .val (.int x1), .val (.int o0), .val (.int o1), .val (.int y0), .val (.int y1), .val (.int u0), .val (.int u1), .val (.ref r22), .val (.ref b24), .val (.ref b33), .val (.int (0 : Int32)), .val (.int (((p2.toUInt32 >>> ((12 : Int32) &&& 31).toUInt32).toInt32) &&& (3 : Int32)))] [(.int (0 : Int32)), (.int (eqR ((csOf la2 y0 y1)) ((csOf la1 x0 x1)) ((csOf lo2 u0 u1)) ((csOf lo1 o0 o1))))])) _
            refine XS.icmpNo X79.here hx rfl (hb hby at_347) rfl (teq hk81).2 ?_
            show Steps p.tables e below (T79.setTop (mkF m 350 #[.val (.int p0), .val (.int p1), .val (.int p2), .val (.int la1), .val (.int la2), .val (.int lo1), .val (.int lo2), .val (.int x0), .val (.int x1), .val (.int o0), .val (.int o1), .val (.int y0), .val (.int y1), .val (.int u0), .val (.int u1), .val (.ref r22), .val (.ref b24), .val (.ref b33), .val (.int (0 : Int32)), .val (.int (((p2.toUInt32 >>> ((12 : Int32) &&& 31).toUInt32).toInt32) &&& (3 : Int32)))] [])) _
            refine XS.iconst X79.here hx rfl (hb hby at_350) ?_
            show Steps p.tables e below (T79.setTop (mkF m 351 #[.val (.int p0), .val (.int p1), .val (.int p2), .val (.int la1), .val (.int la2), .val (.int lo1), .val (.int lo2), .val (.int x0), .val (.int x1), .val (.int o0), .val (.int o1), .val (.int y0), .val (.int y1), .val (.int u0), .val (.int u1), .val (.ref r22), .val (.ref b24), .val (.ref b33), .val (.int (0 : Int32)), .val (.int (((p2.toUInt32 >>> ((12 : Int32) &&& 31).toUInt32).toInt32) &&& (3 : Int32)))] [(.int (1 : Int32))])) _
            refine XS.goto X79.here hx rfl (pc0 := 351) (pc' := 355) rfl (hb hby at_351) (by decide) (by decide) ?_
            show Steps p.tables e below (T79.setTop (mkF m 355 #[.val (.int p0), .val (.int p1), .val (.int p2), .val (.int la1), .val (.int la2), .val (.int lo1), .val (.int lo2), .val (.int x0), .val (.int x1), .val (.int o0), .val (.int o1), .val (.int y0), .val (.int y1), .val (.int u0), .val (.int u1), .val (.ref r22), .val (.ref b24), .val (.ref b33), .val (.int (0 : Int32)), .val (.int (((p2.toUInt32 >>> ((12 : Int32) &&& 31).toUInt32).toInt32) &&& (3 : Int32)))] [(.int (1 : Int32))])) _
            exact retN X79 hx (t := .boolean) Bd.returns (by simp) (hb hby at_355) hr
          · show Q0 Z p0 p1 p2 i_COMPACT_STRINGS  h0 n0 _ T79.heap _
            skip
            exact ⟨rfl, N79⟩
    ·
      obtain ⟨cq82, kq82, q82a, q82b, q82c⟩ := isOf hZ rfl E_b24
      obtain ⟨_, _, ⟨T82, L82, k82, n82⟩, -, X82, ⟨Lc82, hQ82, l82, y82, z82⟩, st82⟩ := X61.virtualBack hx (y := (⟨"com/example/grotti/grotti/Operation", "equals", "(Ljava/lang/Object;)Z"⟩ : MethodName)) (z := (⟨"com/example/grotti/grotti/Operation", "equals", "(Ljava/lang/Object;)Z"⟩ : MethodName)) hown (mvT hZ (hw _ (List.mem_of_getElem? (i := 51) rfl))) (mvT hZ (hw _ (List.mem_of_getElem? (i := 52) rfl))) (notFace_of_selects (args := #[]) (mvT hZ (hw _ (List.mem_of_getElem? (i := 54) rfl)))) (mvT hZ (hw _ (List.mem_of_getElem? (i := 54) rfl))) (mvT hZ (hw _ (List.mem_of_getElem? (i := 53) rfl))) (by decide) (backOf (W := 0) (rm10e l Z ar0 hw [] b24 b24 i_COMPACT_STRINGS r26 t26 kb26 (csOf la1 x0 x1) r28 t28 kb28 (csOf lo1 o0 o1) r26 t26 kb26 (csOf la1 x0 x1) r28 t28 kb28 (csOf lo1 o0 o1) T61.heap n0 O61 F ((own_cs255 h8_x0 h8_x1)) ((own_cslen _ _ _)) ((own_cs255 h8_o0 h8_o1)) ((own_cslen _ _ _)) ((own_cs255 h8_x0 h8_x1)) ((own_cslen _ _ _)) ((own_cs255 h8_o0 h8_o1)) ((own_cslen _ _ _)) E_b24 F_app_b24 E_r26 F_coder_r26 F_value_r26 V_t26 F_op_b24 E_r28 F_coder_r28 F_value_r28 V_t28 F_app_b24 E_r26 F_coder_r26 F_value_r26 V_t26 F_op_b24 E_r28 F_coder_r28 F_value_r28 V_t28) hZ (hw _ (List.mem_of_getElem? (i := 55) rfl)) (hw _ (List.mem_of_getElem? (i := 14) rfl)) (by decide) (by decide)) q82a q82c (g := (mkF m 275 #[.val (.int p0), .val (.int p1), .val (.int p2), .val (.int la1), .val (.int la2), .val (.int lo1), .val (.int lo2), .val (.int x0), .val (.int x1), .val (.int o0), .val (.int o1), .val (.int y0), .val (.int y1), .val (.int u0), .val (.int u1), .val (.ref r22), .val (.ref b24), .val (.ref b33), .val (.int (1 : Int32)), .val (.int (((p2.toUInt32 >>> ((12 : Int32) &&& 31).toUInt32).toInt32) &&& (3 : Int32)))] [(.ref b24), (.ref b24)])) rfl (by rw [hml]; rfl) (Steps.refl _) (argsL := [(.ref b24)]) (rest := []) (lenOf pd_0_275 rfl) rfl (by show 2 * 0 + _ ≤ _; exact Nat.le_of_eq rfl) (hb hby at_275) (fun _ _ => ⟨rfl, rfl, (by decide : 14 + 0 ≤ _), (by decide : 36 + 0 ≤ _)⟩)
      dsimp only [Pt.U, Pt.locs, Pt.cells, Pt.slots] at X82 l82 y82 z82 st82 hQ82
      subst l82 y82 z82
      obtain ⟨rfl, N82q, O82, Kc82⟩ := hQ82
      have N82 := Fr.app N61 N82q
      have K82 : Keep h0 T82.heap [] := K61.trans Kc82 all0
      have CH83 := CHv.keep Kc82 all0 CH62
      have CR83 := CR62.trans (CHr.keep Kc82 all0 CH62)
      have hk := Nat.le_trans hk Kc82.1
      have E_r22 := (E_r22.keep Kc82)
      have F_coder_r22 := (F_coder_r22.keep Kc82 nin0)
      have F_value_r22 := (F_value_r22.keep Kc82 nin0)
      have V_t22 := (V_t22.keep Kc82 nin0)
      have E_b24 := (E_b24.keep Kc82)
      have E_r26 := (E_r26.keep Kc82)
      have F_coder_r26 := (F_coder_r26.keep Kc82 nin0)
      have F_value_r26 := (F_value_r26.keep Kc82 nin0)
      have V_t26 := (V_t26.keep Kc82 nin0)
      have E_r28 := (E_r28.keep Kc82)
      have F_coder_r28 := (F_coder_r28.keep Kc82 nin0)
      have F_value_r28 := (F_value_r28.keep Kc82 nin0)
      have V_t28 := (V_t28.keep Kc82 nin0)
      have F_app_b24 := (F_app_b24.keep Kc82 nin0)
      have F_op_b24 := (F_op_b24.keep Kc82 nin0)
      have E_b33 := (E_b33.keep Kc82)
      have E_r35 := (E_r35.keep Kc82)
      have F_coder_r35 := (F_coder_r35.keep Kc82 nin0)
      have F_value_r35 := (F_value_r35.keep Kc82 nin0)
      have V_t35 := (V_t35.keep Kc82 nin0)
      have F_app_b33 := (F_app_b33.keep Kc82 nin0)
      have F_op_b33 := (F_op_b33.keep Kc82 nin0)
      have hk84 : ¬ ((eqR ((csOf la1 x0 x1)) ((csOf la1 x0 x1)) ((csOf lo1 o0 o1)) ((csOf lo1 o0 o1))) = (0 : Int32)) := by rw [own_eqR_self]; decide
      have pre85 : ∀ t, Steps p.tables e below (T82.setTop (mkF m 286 #[.val (.int p0), .val (.int p1), .val (.int p2), .val (.int la1), .val (.int la2), .val (.int lo1), .val (.int lo2), .val (.int x0), .val (.int x1), .val (.int o0), .val (.int o1), .val (.int y0), .val (.int y1), .val (.int u0), .val (.int u1), .val (.ref r22), .val (.ref b24), .val (.ref b33), .val (.int (1 : Int32)), .val (.int (((p2.toUInt32 >>> ((12 : Int32) &&& 31).toUInt32).toInt32) &&& (3 : Int32)))] [(.int (1 : Int32)), (.int (((p2.toUInt32 >>> ((12 : Int32) &&& 31).toUInt32).toInt32) &&& (3 : Int32)))])) t → Steps p.tables e below (s₁.setTop (entryFrame m #[(.int p0), (.int p1), (.int p2)] maxLocals)) t := by
        intro t k
        refine pre63 _ ?_
        show Steps p.tables e below (T61.setTop (mkF m 253 #[.val (.int p0), .val (.int p1), .val (.int p2), .val (.int la1), .val (.int la2), .val (.int lo1), .val (.int lo2), .val (.int x0), .val (.int x1), .val (.int o0), .val (.int o1), .val (.int y0), .val (.int y1), .val (.int u0), .val (.int u1), .val (.ref r22), .val (.ref b24), .val (.ref b33), .unset, .unset] [(.int (v9 lo1 o0 o1 lo2 u0 u1))])) _
        refine XS.ifNo X61.here hx rfl (hb hby at_253) rfl ((if0 _ _).trans (feq hc64).1) ?_
        show Steps p.tables e below (T61.setTop (mkF m 256 #[.val (.int p0), .val (.int p1), .val (.int p2), .val (.int la1), .val (.int la2), .val (.int lo1), .val (.int lo2), .val (.int x0), .val (.int x1), .val (.int o0), .val (.int o1), .val (.int y0), .val (.int y1), .val (.int u0), .val (.int u1), .val (.ref r22), .val (.ref b24), .val (.ref b33), .unset, .unset] [])) _
        refine XS.iconst X61.here hx rfl (hb hby at_256) ?_
        show Steps p.tables e below (T61.setTop (mkF m 257 #[.val (.int p0), .val (.int p1), .val (.int p2), .val (.int la1), .val (.int la2), .val (.int lo1), .val (.int lo2), .val (.int x0), .val (.int x1), .val (.int o0), .val (.int o1), .val (.int y0), .val (.int y1), .val (.int u0), .val (.int u1), .val (.ref r22), .val (.ref b24), .val (.ref b33), .unset, .unset] [(.int (1 : Int32))])) _
        refine XS.goto X61.here hx rfl (pc0 := 257) (pc' := 261) rfl (hb hby at_257) (by decide) (by decide) ?_
        show Steps p.tables e below (T61.setTop (mkF m 261 #[.val (.int p0), .val (.int p1), .val (.int p2), .val (.int la1), .val (.int la2), .val (.int lo1), .val (.int lo2), .val (.int x0), .val (.int x1), .val (.int o0), .val (.int o1), .val (.int y0), .val (.int y1), .val (.int u0), .val (.int u1), .val (.ref r22), .val (.ref b24), .val (.ref b33), .unset, .unset] [(.int (1 : Int32))])) _
        refine XS.istore X61.here hx rfl (hb hby at_261) rfl (l' := #[.val (.int p0), .val (.int p1), .val (.int p2), .val (.int la1), .val (.int la2), .val (.int lo1), .val (.int lo2), .val (.int x0), .val (.int x1), .val (.int o0), .val (.int o1), .val (.int y0), .val (.int y1), .val (.int u0), .val (.int u1), .val (.ref r22), .val (.ref b24), .val (.ref b33), .val (.int (1 : Int32)), .unset]) rfl ?_
        show Steps p.tables e below (T61.setTop (mkF m 263 #[.val (.int p0), .val (.int p1), .val (.int p2), .val (.int la1), .val (.int la2), .val (.int lo1), .val (.int lo2), .val (.int x0), .val (.int x1), .val (.int o0), .val (.int o1), .val (.int y0), .val (.int y1), .val (.int u0), .val (.int u1), .val (.ref r22), .val (.ref b24), .val (.ref b33), .val (.int (1 : Int32)), .unset] [])) _
        refine XS.iloadN X61.here hx rfl (hb hby at_263) rfl ?_
        show Steps p.tables e below (T61.setTop (mkF m 264 #[.val (.int p0), .val (.int p1), .val (.int p2), .val (.int la1), .val (.int la2), .val (.int lo1), .val (.int lo2), .val (.int x0), .val (.int x1), .val (.int o0), .val (.int o1), .val (.int y0), .val (.int y1), .val (.int u0), .val (.int u1), .val (.ref r22), .val (.ref b24), .val (.ref b33), .val (.int (1 : Int32)), .unset] [(.int p2)])) _
        refine XS.bipush X61.here hx rfl (hb hby at_264) ?_
        show Steps p.tables e below (T61.setTop (mkF m 266 #[.val (.int p0), .val (.int p1), .val (.int p2), .val (.int la1), .val (.int la2), .val (.int lo1), .val (.int lo2), .val (.int x0), .val (.int x1), .val (.int o0), .val (.int o1), .val (.int y0), .val (.int y1), .val (.int u0), .val (.int u1), .val (.ref r22), .val (.ref b24), .val (.ref b33), .val (.int (1 : Int32)), .unset] [(.int (12 : Int32)), (.int p2)])) _
        refine XS.iushr X61.here hx rfl (hb hby at_266) rfl ?_
        show Steps p.tables e below (T61.setTop (mkF m 267 #[.val (.int p0), .val (.int p1), .val (.int p2), .val (.int la1), .val (.int la2), .val (.int lo1), .val (.int lo2), .val (.int x0), .val (.int x1), .val (.int o0), .val (.int o1), .val (.int y0), .val (.int y1), .val (.int u0), .val (.int u1), .val (.ref r22), .val (.ref b24), .val (.ref b33), .val (.int (1 : Int32)), .unset] [(.int ((p2.toUInt32 >>> ((12 : Int32) &&& 31).toUInt32).toInt32))])) _
        refine XS.iconst X61.here hx rfl (hb hby at_267) ?_
        show Steps p.tables e below (T61.setTop (mkF m 268 #[.val (.int p0), .val (.int p1), .val (.int p2), .val (.int la1), .val (.int la2), .val (.int lo1), .val (.int lo2), .val (.int x0), .val (.int x1), .val (.int o0), .val (.int o1), .val (.int y0), .val (.int y1), .val (.int u0), .val (.int u1), .val (.ref r22), .val (.ref b24), .val (.ref b33), .val (.int (1 : Int32)), .unset] [(.int (3 : Int32)), (.int ((p2.toUInt32 >>> ((12 : Int32) &&& 31).toUInt32).toInt32))])) _
        refine XS.iand X61.here hx rfl (hb hby at_268) rfl ?_
        show Steps p.tables e below (T61.setTop (mkF m 269 #[.val (.int p0), .val (.int p1), .val (.int p2), .val (.int la1), .val (.int la2), .val (.int lo1), .val (.int lo2), .val (.int x0), .val (.int x1), .val (.int o0), .val (.int o1), .val (.int y0), .val (.int y1), .val (.int u0), .val (.int u1), .val (.ref r22), .val (.ref b24), .val (.ref b33), .val (.int (1 : Int32)), .unset] [(.int (((p2.toUInt32 >>> ((12 : Int32) &&& 31).toUInt32).toInt32) &&& (3 : Int32)))])) _
        refine XS.istore X61.here hx rfl (hb hby at_269) rfl (l' := #[.val (.int p0), .val (.int p1), .val (.int p2), .val (.int la1), .val (.int la2), .val (.int lo1), .val (.int lo2), .val (.int x0), .val (.int x1), .val (.int o0), .val (.int o1), .val (.int y0), .val (.int y1), .val (.int u0), .val (.int u1), .val (.ref r22), .val (.ref b24), .val (.ref b33), .val (.int (1 : Int32)), .val (.int (((p2.toUInt32 >>> ((12 : Int32) &&& 31).toUInt32).toInt32) &&& (3 : Int32)))]) rfl ?_
        show Steps p.tables e below (T61.setTop (mkF m 271 #[.val (.int p0), .val (.int p1), .val (.int p2), .val (.int la1), .val (.int la2), .val (.int lo1), .val (.int lo2), .val (.int x0), .val (.int x1), .val (.int o0), .val (.int o1), .val (.int y0), .val (.int y1), .val (.int u0), .val (.int u1), .val (.ref r22), .val (.ref b24), .val (.ref b33), .val (.int (1 : Int32)), .val (.int (((p2.toUInt32 >>> ((12 : Int32) &&& 31).toUInt32).toInt32) &&& (3 : Int32)))] [])) _
        refine XS.aload X61.here hx rfl (hb hby at_271) rfl rfl ?_
        show Steps p.tables e below (T61.setTop (mkF m 273 #[.val (.int p0), .val (.int p1), .val (.int p2), .val (.int la1), .val (.int la2), .val (.int lo1), .val (.int lo2), .val (.int x0), .val (.int x1), .val (.int o0), .val (.int o1), .val (.int y0), .val (.int y1), .val (.int u0), .val (.int u1), .val (.ref r22), .val (.ref b24), .val (.ref b33), .val (.int (1 : Int32)), .val (.int (((p2.toUInt32 >>> ((12 : Int32) &&& 31).toUInt32).toInt32) &&& (3 : Int32)))] [(.ref b24)])) _
        refine XS.aload X61.here hx rfl (hb hby at_273) rfl rfl ?_
        show Steps p.tables e below (T61.setTop (mkF m 275 #[.val (.int p0), .val (.int p1), .val (.int p2), .val (.int la1), .val (.int la2), .val (.int lo1), .val (.int lo2), .val (.int x0), .val (.int x1), .val (.int o0), .val (.int o1), .val (.int y0), .val (.int y1), .val (.int u0), .val (.int u1), .val (.ref r22), .val (.ref b24), .val (.ref b33), .val (.int (1 : Int32)), .val (.int (((p2.toUInt32 >>> ((12 : Int32) &&& 31).toUInt32).toInt32) &&& (3 : Int32)))] [(.ref b24), (.ref b24)])) _
        refine st82.trans ?_
        show Steps p.tables e below (T82.setTop (mkF m 278 #[.val (.int p0), .val (.int p1), .val (.int p2), .val (.int la1), .val (.int la2), .val (.int lo1), .val (.int lo2), .val (.int x0), .val (.int x1), .val (.int o0), .val (.int o1), .val (.int y0), .val (.int y1), .val (.int u0), .val (.int u1), .val (.ref r22), .val (.ref b24), .val (.ref b33), .val (.int (1 : Int32)), .val (.int (((p2.toUInt32 >>> ((12 : Int32) &&& 31).toUInt32).toInt32) &&& (3 : Int32)))] [(.int (eqR ((csOf la1 x0 x1)) ((csOf la1 x0 x1)) ((csOf lo1 o0 o1)) ((csOf lo1 o0 o1))))])) _
        refine XS.ifYes X82.here hx rfl (pc0 := 278) (pc' := 283) rfl (hb hby at_278) rfl ((if0 _ _).trans (feq hk84).2) (by decide) (by decide) ?_
        show Steps p.tables e below (T82.setTop (mkF m 283 #[.val (.int p0), .val (.int p1), .val (.int p2), .val (.int la1), .val (.int la2), .val (.int lo1), .val (.int lo2), .val (.int x0), .val (.int x1), .val (.int o0), .val (.int o1), .val (.int y0), .val (.int y1), .val (.int u0), .val (.int u1), .val (.ref r22), .val (.ref b24), .val (.ref b33), .val (.int (1 : Int32)), .val (.int (((p2.toUInt32 >>> ((12 : Int32) &&& 31).toUInt32).toInt32) &&& (3 : Int32)))] [])) _
        refine XS.iload X82.here hx rfl (hb hby at_283) rfl ?_
        show Steps p.tables e below (T82.setTop (mkF m 285 #[.val (.int p0), .val (.int p1), .val (.int p2), .val (.int la1), .val (.int la2), .val (.int lo1), .val (.int lo2), .val (.int x0), .val (.int x1), .val (.int o0), .val (.int o1), .val (.int y0), .val (.int y1), .val (.int u0), .val (.int u1), .val (.ref r22), .val (.ref b24), .val (.ref b33), .val (.int (1 : Int32)), .val (.int (((p2.toUInt32 >>> ((12 : Int32) &&& 31).toUInt32).toInt32) &&& (3 : Int32)))] [(.int (((p2.toUInt32 >>> ((12 : Int32) &&& 31).toUInt32).toInt32) &&& (3 : Int32)))])) _
        refine XS.iconst X82.here hx rfl (hb hby at_285) ?_
        exact k
      by_cases hc86 : (((p2.toUInt32 >>> ((12 : Int32) &&& 31).toUInt32).toInt32) &&& (3 : Int32)) = (1 : Int32)
      ·
        obtain ⟨cq87, kq87, q87a, q87b, q87c⟩ := isOf hZ rfl E_b24
        obtain ⟨_, _, ⟨T87, L87, k87, n87⟩, -, X87, ⟨Lc87, hQ87, l87, y87, z87⟩, st87⟩ := X82.virtualBack hx (y := (⟨"com/example/grotti/grotti/Operation", "equals", "(Ljava/lang/Object;)Z"⟩ : MethodName)) (z := (⟨"com/example/grotti/grotti/Operation", "equals", "(Ljava/lang/Object;)Z"⟩ : MethodName)) hown (mvT hZ (hw _ (List.mem_of_getElem? (i := 51) rfl))) (mvT hZ (hw _ (List.mem_of_getElem? (i := 52) rfl))) (notFace_of_selects (args := #[]) (mvT hZ (hw _ (List.mem_of_getElem? (i := 54) rfl)))) (mvT hZ (hw _ (List.mem_of_getElem? (i := 54) rfl))) (mvT hZ (hw _ (List.mem_of_getElem? (i := 53) rfl))) (by decide) (backOf (W := 0) (rm10n l Z ar0 hw [] b24 i_COMPACT_STRINGS  T82.heap n0 O82 F ) hZ (hw _ (List.mem_of_getElem? (i := 55) rfl)) (hw _ (List.mem_of_getElem? (i := 14) rfl)) (by decide) (by decide)) q87a q87c (g := (mkF m 292 #[.val (.int p0), .val (.int p1), .val (.int p2), .val (.int la1), .val (.int la2), .val (.int lo1), .val (.int lo2), .val (.int x0), .val (.int x1), .val (.int o0), .val (.int o1), .val (.int y0), .val (.int y1), .val (.int u0), .val (.int u1), .val (.ref r22), .val (.ref b24), .val (.ref b33), .val (.int (1 : Int32)), .val (.int (((p2.toUInt32 >>> ((12 : Int32) &&& 31).toUInt32).toInt32) &&& (3 : Int32)))] [.null, (.ref b24)])) rfl (by rw [hml]; rfl) (Steps.refl _) (argsL := [.null]) (rest := []) (lenOf pd_0_292 rfl) rfl (by show 2 * 0 + _ ≤ _; exact Nat.le_of_eq rfl) (hb hby at_292) (fun _ _ => ⟨rfl, rfl, (by decide : 14 + 0 ≤ _), (by decide : 36 + 0 ≤ _)⟩)
        dsimp only [Pt.U, Pt.locs, Pt.cells, Pt.slots] at X87 l87 y87 z87 st87 hQ87
        subst l87 y87 z87
        obtain ⟨rfl, N87q, O87, Kc87⟩ := hQ87
        have N87 := Fr.app N82 N87q
        have K87 : Keep h0 T87.heap [] := K82.trans Kc87 all0
        have CH88 := CHv.keep Kc87 all0 CH83
        have CR88 := CR83.trans (CHr.keep Kc87 all0 CH83)
        have hk := Nat.le_trans hk Kc87.1
        have E_r22 := (E_r22.keep Kc87)
        have F_coder_r22 := (F_coder_r22.keep Kc87 nin0)
        have F_value_r22 := (F_value_r22.keep Kc87 nin0)
        have V_t22 := (V_t22.keep Kc87 nin0)
        have E_b24 := (E_b24.keep Kc87)
        have E_r26 := (E_r26.keep Kc87)
        have F_coder_r26 := (F_coder_r26.keep Kc87 nin0)
        have F_value_r26 := (F_value_r26.keep Kc87 nin0)
        have V_t26 := (V_t26.keep Kc87 nin0)
        have E_r28 := (E_r28.keep Kc87)
        have F_coder_r28 := (F_coder_r28.keep Kc87 nin0)
        have F_value_r28 := (F_value_r28.keep Kc87 nin0)
        have V_t28 := (V_t28.keep Kc87 nin0)
        have F_app_b24 := (F_app_b24.keep Kc87 nin0)
        have F_op_b24 := (F_op_b24.keep Kc87 nin0)
        have E_b33 := (E_b33.keep Kc87)
        have E_r35 := (E_r35.keep Kc87)
        have F_coder_r35 := (F_coder_r35.keep Kc87 nin0)
        have F_value_r35 := (F_value_r35.keep Kc87 nin0)
        have V_t35 := (V_t35.keep Kc87 nin0)
        have F_app_b33 := (F_app_b33.keep Kc87 nin0)
        have F_op_b33 := (F_op_b33.keep Kc87 nin0)
        obtain ⟨fs, hr, hrun, hended, hRW⟩ := X87.leaveW hS (hk) (v := some (.int (1 : Int32))) (fun h => by rw [Bd.returns] at h; cases h)
        have CRx : CHr Z EL s.vm s.heap T87.vm T87.heap := by rw [hh]; exact CR88.trans (CHv.at X87 hZ hEL CH88)
        refine ⟨_, _, pre85 _ ?_, hrun, hended, _, _, rfl, ?_, CRx, own_rw_mono hRW (by decide) (by decide)⟩
        · show Steps p.tables e below (T82.setTop (mkF m 286 #[.val (.int p0), .val (.int p1), .val (.int p2), .val (.int la1), .val (.int la2), .val (.int lo1), .val (.int lo2), .val (.int x0), .val (.int x1), .val (.int o0), .val (.int o1), .val (.int y0), .val (.int y1), .val (.int u0), .val (.int u1), .val (.ref r22), .val (.ref b24), .val (.ref b33), .val (.int (1 : Int32)), .val (.int (((p2.toUInt32 >>> ((12 : Int32) &&& 31).toUInt32).toInt32) &&& (3 : Int32)))] [(.int (1 : Int32)), (.int (((p2.toUInt32 >>> ((12 : Int32) &&& 31).toUInt32).toInt32) &&& (3 : Int32)))])) _
          refine XS.icmpNo X82.here hx rfl (hb hby at_286) rfl (teq hc86).2 ?_
          show Steps p.tables e below (T82.setTop (mkF m 289 #[.val (.int p0), .val (.int p1), .val (.int p2), .val (.int la1), .val (.int la2), .val (.int lo1), .val (.int lo2), .val (.int x0), .val (.int x1), .val (.int o0), .val (.int o1), .val (.int y0), .val (.int y1), .val (.int u0), .val (.int u1), .val (.ref r22), .val (.ref b24), .val (.ref b33), .val (.int (1 : Int32)), .val (.int (((p2.toUInt32 >>> ((12 : Int32) &&& 31).toUInt32).toInt32) &&& (3 : Int32)))] [])) _
          refine XS.aload X82.here hx rfl (hb hby at_289) rfl rfl ?_
          show Steps p.tables e below (T82.setTop (mkF m 291 #[.val (.int p0), .val (.int p1), .val (.int p2), .val (.int la1), .val (.int la2), .val (.int lo1), .val (.int lo2), .val (.int x0), .val (.int x1), .val (.int o0), .val (.int o1), .val (.int y0), .val (.int y1), .val (.int u0), .val (.int u1), .val (.ref r22), .val (.ref b24), .val (.ref b33), .val (.int (1 : Int32)), .val (.int (((p2.toUInt32 >>> ((12 : Int32) &&& 31).toUInt32).toInt32) &&& (3 : Int32)))] [(.ref b24)])) _
          refine XS.aconstNull X82.here hx rfl (hb hby at_291) ?_
          show Steps p.tables e below (T82.setTop (mkF m 292 #[.val (.int p0), .val (.int p1), .val (.int p2), .val (.int la1), .val (.int la2), .val (.int lo1), .val (.int lo2), .val (.int x0), .val (.int x1), .val (.int o0), .val (.int o1), .val (.int y0), .val (.int y1), .val (.int u0), .val (.int u1), .val (.ref r22), .val (.ref b24), .val (.ref b33), .val (.int (1 : Int32)), .val (.int (((p2.toUInt32 >>> ((12 : Int32) &&& 31).toUInt32).toInt32) &&& (3 : Int32)))] [.null, (.ref b24)])) _
          refine st87.trans ?_
          show Steps p.tables e below (T87.setTop (mkF m 295 #[.val (.int p0), .val (.int p1), .val (.int p2), .val (.int la1), .val (.int la2), .val (.int lo1), .val (.int lo2), .val (.int x0), .val (.int x1), .val (.int o0), .val (.int o1), .val (.int y0), .val (.int y1), .val (.int u0), .val (.int u1), .val (.ref r22), .val (.ref b24), .val (.ref b33), .val (.int (1 : Int32)), .val (.int (((p2.toUInt32 >>> ((12 : Int32) &&& 31).toUInt32).toInt32) &&& (3 : Int32)))] [(.int (0 : Int32))])) _
          refine XS.ifNo X87.here hx rfl (hb hby at_295) rfl ((if0 _ _).trans (teq (by decide : (0 : Int32) = (0 : Int32))).2) ?_
          show Steps p.tables e below (T87.setTop (mkF m 298 #[.val (.int p0), .val (.int p1), .val (.int p2), .val (.int la1), .val (.int la2), .val (.int lo1), .val (.int lo2), .val (.int x0), .val (.int x1), .val (.int o0), .val (.int o1), .val (.int y0), .val (.int y1), .val (.int u0), .val (.int u1), .val (.ref r22), .val (.ref b24), .val (.ref b33), .val (.int (1 : Int32)), .val (.int (((p2.toUInt32 >>> ((12 : Int32) &&& 31).toUInt32).toInt32) &&& (3 : Int32)))] [])) _
          refine XS.iconst X87.here hx rfl (hb hby at_298) ?_
          show Steps p.tables e below (T87.setTop (mkF m 299 #[.val (.int p0), .val (.int p1), .val (.int p2), .val (.int la1), .val (.int la2), .val (.int lo1), .val (.int lo2), .val (.int x0), .val (.int x1), .val (.int o0), .val (.int o1), .val (.int y0), .val (.int y1), .val (.int u0), .val (.int u1), .val (.ref r22), .val (.ref b24), .val (.ref b33), .val (.int (1 : Int32)), .val (.int (((p2.toUInt32 >>> ((12 : Int32) &&& 31).toUInt32).toInt32) &&& (3 : Int32)))] [(.int (1 : Int32))])) _
          refine XS.goto X87.here hx rfl (pc0 := 299) (pc' := 303) rfl (hb hby at_299) (by decide) (by decide) ?_
          show Steps p.tables e below (T87.setTop (mkF m 303 #[.val (.int p0), .val (.int p1), .val (.int p2), .val (.int la1), .val (.int la2), .val (.int lo1), .val (.int lo2), .val (.int x0), .val (.int x1), .val (.int o0), .val (.int o1), .val (.int y0), .val (.int y1), .val (.int u0), .val (.int u1), .val (.ref r22), .val (.ref b24), .val (.ref b33), .val (.int (1 : Int32)), .val (.int (((p2.toUInt32 >>> ((12 : Int32) &&& 31).toUInt32).toInt32) &&& (3 : Int32)))] [(.int (1 : Int32))])) _
          exact retN X87 hx (t := .boolean) Bd.returns (by simp) (hb hby at_303) hr
        · show Q0 Z p0 p1 p2 i_COMPACT_STRINGS  h0 n0 _ T87.heap _
          skip
          exact ⟨rfl, N87⟩
      ·
        have pre89 : ∀ t, Steps p.tables e below (T82.setTop (mkF m 307 #[.val (.int p0), .val (.int p1), .val (.int p2), .val (.int la1), .val (.int la2), .val (.int lo1), .val (.int lo2), .val (.int x0), .val (.int x1), .val (.int o0), .val (.int o1), .val (.int y0), .val (.int y1), .val (.int u0), .val (.int u1), .val (.ref r22), .val (.ref b24), .val (.ref b33), .val (.int (1 : Int32)), .val (.int (((p2.toUInt32 >>> ((12 : Int32) &&& 31).toUInt32).toInt32) &&& (3 : Int32)))] [(.int (2 : Int32)), (.int (((p2.toUInt32 >>> ((12 : Int32) &&& 31).toUInt32).toInt32) &&& (3 : Int32)))])) t → Steps p.tables e below (s₁.setTop (entryFrame m #[(.int p0), (.int p1), (.int p2)] maxLocals)) t := by
          intro t k
          refine pre85 _ ?_
          show Steps p.tables e below (T82.setTop (mkF m 286 #[.val (.int p0), .val (.int p1), .val (.int p2), .val (.int la1), .val (.int la2), .val (.int lo1), .val (.int lo2), .val (.int x0), .val (.int x1), .val (.int o0), .val (.int o1), .val (.int y0), .val (.int y1), .val (.int u0), .val (.int u1), .val (.ref r22), .val (.ref b24), .val (.ref b33), .val (.int (1 : Int32)), .val (.int (((p2.toUInt32 >>> ((12 : Int32) &&& 31).toUInt32).toInt32) &&& (3 : Int32)))] [(.int (1 : Int32)), (.int (((p2.toUInt32 >>> ((12 : Int32) &&& 31).toUInt32).toInt32) &&& (3 : Int32)))])) _
          refine XS.icmpYes X82.here hx rfl (pc0 := 286) (pc' := 304) rfl (hb hby at_286) rfl (feq hc86).2 (by decide) (by decide) ?_
          show Steps p.tables e below (T82.setTop (mkF m 304 #[.val (.int p0), .val (.int p1), .val (.int p2), .val (.int la1), .val (.int la2), .val (.int lo1), .val (.int lo2), .val (.int x0), .val (.int x1), .val (.int o0), .val (.int o1), .val (.int y0), .val (.int y1), .val (.int u0), .val (.int u1), .val (.ref r22), .val (.ref b24), .val (.ref b33), .val (.int (1 : Int32)), .val (.int (((p2.toUInt32 >>> ((12 : Int32) &&& 31).toUInt32).toInt32) &&& (3 : Int32)))] [])) _
          refine XS.iload X82.here hx rfl (hb hby at_304) rfl ?_
          show Steps p.tables e below (T82.setTop (mkF m 306 #[.val (.int p0), .val (.int p1), .val (.int p2), .val (.int la1), .val (.int la2), .val (.int lo1), .val (.int lo2), .val (.int x0), .val (.int x1), .val (.int o0), .val (.int o1), .val (.int y0), .val (.int y1), .val (.int u0), .val (.int u1), .val (.ref r22), .val (.ref b24), .val (.ref b33), .val (.int (1 : Int32)), .val (.int (((p2.toUInt32 >>> ((12 : Int32) &&& 31).toUInt32).toInt32) &&& (3 : Int32)))] [(.int (((p2.toUInt32 >>> ((12 : Int32) &&& 31).toUInt32).toInt32) &&& (3 : Int32)))])) _
          refine XS.iconst X82.here hx rfl (hb hby at_306) ?_
          exact k
        by_cases hc90 : (((p2.toUInt32 >>> ((12 : Int32) &&& 31).toUInt32).toInt32) &&& (3 : Int32)) = (2 : Int32)
        ·
          obtain ⟨cq91, kq91, q91a, q91b, q91c⟩ := isOf hZ rfl E_b24
          obtain ⟨_, _, ⟨T91, L91, k91, n91⟩, -, X91, ⟨Lc91, hQ91, l91, y91, z91⟩, st91⟩ := X82.virtualBack hx (y := (⟨"com/example/grotti/grotti/Operation", "equals", "(Ljava/lang/Object;)Z"⟩ : MethodName)) (z := (⟨"com/example/grotti/grotti/Operation", "equals", "(Ljava/lang/Object;)Z"⟩ : MethodName)) hown (mvT hZ (hw _ (List.mem_of_getElem? (i := 51) rfl))) (mvT hZ (hw _ (List.mem_of_getElem? (i := 52) rfl))) (notFace_of_selects (args := #[]) (mvT hZ (hw _ (List.mem_of_getElem? (i := 54) rfl)))) (mvT hZ (hw _ (List.mem_of_getElem? (i := 54) rfl))) (mvT hZ (hw _ (List.mem_of_getElem? (i := 53) rfl))) (by decide) (backOf (W := 0) (rm10s l Z ar0 hw [] b24 r22 i_COMPACT_STRINGS  T82.heap n0 O82 F E_r22) hZ (hw _ (List.mem_of_getElem? (i := 55) rfl)) (hw _ (List.mem_of_getElem? (i := 14) rfl)) (by decide) (by decide)) q91a q91c (g := (mkF m 314 #[.val (.int p0), .val (.int p1), .val (.int p2), .val (.int la1), .val (.int la2), .val (.int lo1), .val (.int lo2), .val (.int x0), .val (.int x1), .val (.int o0), .val (.int o1), .val (.int y0), .val (.int y1), .val (.int u0), .val (.int u1), .val (.ref r22), .val (.ref b24), .val (.ref b33), .val (.int (1 : Int32)), .val (.int (((p2.toUInt32 >>> ((12 : Int32) &&& 31).toUInt32).toInt32) &&& (3 : Int32)))] [(.ref r22), (.ref b24)])) rfl (by rw [hml]; rfl) (Steps.refl _) (argsL := [(.ref r22)]) (rest := []) (lenOf pd_0_314 rfl) rfl (by show 2 * 0 + _ ≤ _; exact Nat.le_of_eq rfl) (hb hby at_314) (fun _ _ => ⟨rfl, rfl, (by decide : 14 + 0 ≤ _), (by decide : 36 + 0 ≤ _)⟩)
          dsimp only [Pt.U, Pt.locs, Pt.cells, Pt.slots] at X91 l91 y91 z91 st91 hQ91
          subst l91 y91 z91
          obtain ⟨rfl, N91q, O91, Kc91⟩ := hQ91
          have N91 := Fr.app N82 N91q
          have K91 : Keep h0 T91.heap [] := K82.trans Kc91 all0
          have CH92 := CHv.keep Kc91 all0 CH83
          have CR92 := CR83.trans (CHr.keep Kc91 all0 CH83)
          have hk := Nat.le_trans hk Kc91.1
          have E_r22 := (E_r22.keep Kc91)
          have F_coder_r22 := (F_coder_r22.keep Kc91 nin0)
          have F_value_r22 := (F_value_r22.keep Kc91 nin0)
          have V_t22 := (V_t22.keep Kc91 nin0)
          have E_b24 := (E_b24.keep Kc91)
          have E_r26 := (E_r26.keep Kc91)
          have F_coder_r26 := (F_coder_r26.keep Kc91 nin0)
          have F_value_r26 := (F_value_r26.keep Kc91 nin0)
          have V_t26 := (V_t26.keep Kc91 nin0)
          have E_r28 := (E_r28.keep Kc91)
          have F_coder_r28 := (F_coder_r28.keep Kc91 nin0)
          have F_value_r28 := (F_value_r28.keep Kc91 nin0)
          have V_t28 := (V_t28.keep Kc91 nin0)
          have F_app_b24 := (F_app_b24.keep Kc91 nin0)
          have F_op_b24 := (F_op_b24.keep Kc91 nin0)
          have E_b33 := (E_b33.keep Kc91)
          have E_r35 := (E_r35.keep Kc91)
          have F_coder_r35 := (F_coder_r35.keep Kc91 nin0)
          have F_value_r35 := (F_value_r35.keep Kc91 nin0)
          have V_t35 := (V_t35.keep Kc91 nin0)
          have F_app_b33 := (F_app_b33.keep Kc91 nin0)
          have F_op_b33 := (F_op_b33.keep Kc91 nin0)
          obtain ⟨fs, hr, hrun, hended, hRW⟩ := X91.leaveW hS (hk) (v := some (.int (1 : Int32))) (fun h => by rw [Bd.returns] at h; cases h)
          have CRx : CHr Z EL s.vm s.heap T91.vm T91.heap := by rw [hh]; exact CR92.trans (CHv.at X91 hZ hEL CH92)
          refine ⟨_, _, pre89 _ ?_, hrun, hended, _, _, rfl, ?_, CRx, own_rw_mono hRW (by decide) (by decide)⟩
          · show Steps p.tables e below (T82.setTop (mkF m 307 #[.val (.int p0), .val (.int p1), .val (.int p2), .val (.int la1), .val (.int la2), .val (.int lo1), .val (.int lo2), .val (.int x0), .val (.int x1), .val (.int o0), .val (.int o1), .val (.int y0), .val (.int y1), .val (.int u0), .val (.int u1), .val (.ref r22), .val (.ref b24), .val (.ref b33), .val (.int (1 : Int32)), .val (.int (((p2.toUInt32 >>> ((12 : Int32) &&& 31).toUInt32).toInt32) &&& (3 : Int32)))] [(.int (2 : Int32)), (.int (((p2.toUInt32 >>> ((12 : Int32) &&& 31).toUInt32).toInt32) &&& (3 : Int32)))])) _
            refine XS.icmpNo X82.here hx rfl (hb hby at_307) rfl (teq hc90).2 ?_
            show Steps p.tables e below (T82.setTop (mkF m 310 #[.val (.int p0), .val (.int p1), .val (.int p2), .val (.int la1), .val (.int la2), .val (.int lo1), .val (.int lo2), .val (.int x0), .val (.int x1), .val (.int o0), .val (.int o1), .val (.int y0), .val (.int y1), .val (.int u0), .val (.int u1), .val (.ref r22), .val (.ref b24), .val (.ref b33), .val (.int (1 : Int32)), .val (.int (((p2.toUInt32 >>> ((12 : Int32) &&& 31).toUInt32).toInt32) &&& (3 : Int32)))] [])) _
            refine XS.aload X82.here hx rfl (hb hby at_310) rfl rfl ?_
            show Steps p.tables e below (T82.setTop (mkF m 312 #[.val (.int p0), .val (.int p1), .val (.int p2), .val (.int la1), .val (.int la2), .val (.int lo1), .val (.int lo2), .val (.int x0), .val (.int x1), .val (.int o0), .val (.int o1), .val (.int y0), .val (.int y1), .val (.int u0), .val (.int u1), .val (.ref r22), .val (.ref b24), .val (.ref b33), .val (.int (1 : Int32)), .val (.int (((p2.toUInt32 >>> ((12 : Int32) &&& 31).toUInt32).toInt32) &&& (3 : Int32)))] [(.ref b24)])) _
            refine XS.aload X82.here hx rfl (hb hby at_312) rfl rfl ?_
            show Steps p.tables e below (T82.setTop (mkF m 314 #[.val (.int p0), .val (.int p1), .val (.int p2), .val (.int la1), .val (.int la2), .val (.int lo1), .val (.int lo2), .val (.int x0), .val (.int x1), .val (.int o0), .val (.int o1), .val (.int y0), .val (.int y1), .val (.int u0), .val (.int u1), .val (.ref r22), .val (.ref b24), .val (.ref b33), .val (.int (1 : Int32)), .val (.int (((p2.toUInt32 >>> ((12 : Int32) &&& 31).toUInt32).toInt32) &&& (3 : Int32)))] [(.ref r22), (.ref b24)])) _
            refine st91.trans ?_
            show Steps p.tables e below (T91.setTop (mkF m 317 #[.val (.int p0), .val (.int p1), .val (.int p2), .val (.int la1), .val (.int la2), .val (.int lo1), .val (.int lo2), .val (.int x0), .val (.int x1), .val (.int o0), .val (.int o1), .val (.int y0), .val (.int y1), .val (.int u0), .val (.int u1), .val (.ref r22), .val (.ref b24), .val (.ref b33), .val (.int (1 : Int32)), .val (.int (((p2.toUInt32 >>> ((12 : Int32) &&& 31).toUInt32).toInt32) &&& (3 : Int32)))] [(.int (0 : Int32))])) _
            refine XS.ifNo X91.here hx rfl (hb hby at_317) rfl ((if0 _ _).trans (teq (by decide : (0 : Int32) = (0 : Int32))).2) ?_
            show Steps p.tables e below (T91.setTop (mkF m 320 #[.val (.int p0), .val (.int p1), .val (.int p2), .val (.int la1), .val (.int la2), .val (.int lo1), .val (.int lo2), .val (.int x0), .val (.int x1), .val (.int o0), .val (.int o1), .val (.int y0), .val (.int y1), .val (.int u0), .val (.int u1), .val (.ref r22), .val (.ref b24), .val (.ref b33), .val (.int (1 : Int32)), .val (.int (((p2.toUInt32 >>> ((12 : Int32) &&& 31).toUInt32).toInt32) &&& (3 : Int32)))] [])) _
            refine XS.iconst X91.here hx rfl (hb hby at_320) ?_
            show Steps p.tables e below (T91.setTop (mkF m 321 #[.val (.int p0), .val (.int p1), .val (.int p2), .val (.int la1), .val (.int la2), .val (.int lo1), .val (.int lo2), .val (.int x0), .val (.int x1), .val (.int o0), .val (.int o1), .val (.int y0), .val (.int y1), .val (.int u0), .val (.int u1), .val (.ref r22), .val (.ref b24), .val (.ref b33), .val (.int (1 : Int32)), .val (.int (((p2.toUInt32 >>> ((12 : Int32) &&& 31).toUInt32).toInt32) &&& (3 : Int32)))] [(.int (1 : Int32))])) _
            refine XS.goto X91.here hx rfl (pc0 := 321) (pc' := 325) rfl (hb hby at_321) (by decide) (by decide) ?_
            show Steps p.tables e below (T91.setTop (mkF m 325 #[.val (.int p0), .val (.int p1), .val (.int p2), .val (.int la1), .val (.int la2), .val (.int lo1), .val (.int lo2), .val (.int x0), .val (.int x1), .val (.int o0), .val (.int o1), .val (.int y0), .val (.int y1), .val (.int u0), .val (.int u1), .val (.ref r22), .val (.ref b24), .val (.ref b33), .val (.int (1 : Int32)), .val (.int (((p2.toUInt32 >>> ((12 : Int32) &&& 31).toUInt32).toInt32) &&& (3 : Int32)))] [(.int (1 : Int32))])) _
            exact retN X91 hx (t := .boolean) Bd.returns (by simp) (hb hby at_325) hr
          · show Q0 Z p0 p1 p2 i_COMPACT_STRINGS  h0 n0 _ T91.heap _
            skip
            exact ⟨rfl, N91⟩
        ·
          obtain ⟨cq93, kq93, q93a, q93b, q93c⟩ := isOf hZ rfl E_b24
          obtain ⟨_, _, ⟨T93, L93, k93, n93⟩, -, X93, ⟨Lc93, hQ93, l93, y93, z93⟩, st93⟩ := X82.virtualBack hx (y := (⟨"com/example/grotti/grotti/Operation", "equals", "(Ljava/lang/Object;)Z"⟩ : MethodName)) (z := (⟨"com/example/grotti/grotti/Operation", "equals", "(Ljava/lang/Object;)Z"⟩ : MethodName)) hown (mvT hZ (hw _ (List.mem_of_getElem? (i := 51) rfl))) (mvT hZ (hw _ (List.mem_of_getElem? (i := 52) rfl))) (notFace_of_selects (args := #[]) (mvT hZ (hw _ (List.mem_of_getElem? (i := 54) rfl)))) (mvT hZ (hw _ (List.mem_of_getElem? (i := 54) rfl))) (mvT hZ (hw _ (List.mem_of_getElem? (i := 53) rfl))) (by decide) (backOf (W := 0) (rm10e l Z ar0 hw [] b24 b33 i_COMPACT_STRINGS r26 t26 kb26 (csOf la1 x0 x1) r28 t28 kb28 (csOf lo1 o0 o1) r22 t22 kb22 (csOf la2 y0 y1) r35 t35 kb35 (csOf lo2 u0 u1) T82.heap n0 O82 F ((own_cs255 h8_x0 h8_x1)) ((own_cslen _ _ _)) ((own_cs255 h8_o0 h8_o1)) ((own_cslen _ _ _)) ((own_cs255 h8_y0 h8_y1)) ((own_cslen _ _ _)) ((own_cs255 h8_u0 h8_u1)) ((own_cslen _ _ _)) E_b33 F_app_b24 E_r26 F_coder_r26 F_value_r26 V_t26 F_op_b24 E_r28 F_coder_r28 F_value_r28 V_t28 F_app_b33 E_r22 F_coder_r22 F_value_r22 V_t22 F_op_b33 E_r35 F_coder_r35 F_value_r35 V_t35) hZ (hw _ (List.mem_of_getElem? (i := 55) rfl)) (hw _ (List.mem_of_getElem? (i := 14) rfl)) (by decide) (by decide)) q93a q93c (g := (mkF m 330 #[.val (.int p0), .val (.int p1), .val (.int p2), .val (.int la1), .val (.int la2), .val (.int lo1), .val (.int lo2), .val (.int x0), .val (.int x1), .val (.int o0), .val (.int o1), .val (.int y0), .val (.int y1), .val (.int u0), .val (.int u1), .val (.ref r22), .val (.ref b24), .val (.ref b33), .val (.int (1 : Int32)), .val (.int (((p2.toUInt32 >>> ((12 : Int32) &&& 31).toUInt32).toInt32) &&& (3 : Int32)))] [(.ref b33), (.ref b24)])) rfl (by rw [hml]; rfl) (Steps.refl _) (argsL := [(.ref b33)]) (rest := []) (lenOf pd_0_330 rfl) rfl (by show 2 * 0 + _ ≤ _; exact Nat.le_of_eq rfl) (hb hby at_330) (fun _ _ => ⟨rfl, rfl, (by decide : 14 + 0 ≤ _), (by decide : 36 + 0 ≤ _)⟩)
          dsimp only [Pt.U, Pt.locs, Pt.cells, Pt.slots] at X93 l93 y93 z93 st93 hQ93
          subst l93 y93 z93
          obtain ⟨rfl, N93q, O93, Kc93⟩ := hQ93
          have N93 := Fr.app N82 N93q
          have K93 : Keep h0 T93.heap [] := K82.trans Kc93 all0
          have CH94 := CHv.keep Kc93 all0 CH83
          have CR94 := CR83.trans (CHr.keep Kc93 all0 CH83)
          have hk := Nat.le_trans hk Kc93.1
          have E_r22 := (E_r22.keep Kc93)
          have F_coder_r22 := (F_coder_r22.keep Kc93 nin0)
          have F_value_r22 := (F_value_r22.keep Kc93 nin0)
          have V_t22 := (V_t22.keep Kc93 nin0)
          have E_b24 := (E_b24.keep Kc93)
          have E_r26 := (E_r26.keep Kc93)
          have F_coder_r26 := (F_coder_r26.keep Kc93 nin0)
          have F_value_r26 := (F_value_r26.keep Kc93 nin0)
          have V_t26 := (V_t26.keep Kc93 nin0)
          have E_r28 := (E_r28.keep Kc93)
          have F_coder_r28 := (F_coder_r28.keep Kc93 nin0)
          have F_value_r28 := (F_value_r28.keep Kc93 nin0)
          have V_t28 := (V_t28.keep Kc93 nin0)
          have F_app_b24 := (F_app_b24.keep Kc93 nin0)
          have F_op_b24 := (F_op_b24.keep Kc93 nin0)
          have E_b33 := (E_b33.keep Kc93)
          have E_r35 := (E_r35.keep Kc93)
          have F_coder_r35 := (F_coder_r35.keep Kc93 nin0)
          have F_value_r35 := (F_value_r35.keep Kc93 nin0)
          have V_t35 := (V_t35.keep Kc93 nin0)
          have F_app_b33 := (F_app_b33.keep Kc93 nin0)
          have F_op_b33 := (F_op_b33.keep Kc93 nin0)
          have hk95 : (eqR ((csOf la1 x0 x1)) ((csOf la2 y0 y1)) ((csOf lo1 o0 o1)) ((csOf lo2 u0 u1))) = (1 : Int32) := own_eqR_1 ((own_same h3_la1 h3_la2).mp hc43) ((own_same h3_lo1 h3_lo2).mp hc64)
          obtain ⟨cq96, kq96, q96a, q96b, q96c⟩ := isOf hZ rfl E_b33
          obtain ⟨_, _, ⟨T96, L96, k96, n96⟩, -, X96, ⟨Lc96, hQ96, l96, y96, z96⟩, st96⟩ := X93.virtualBack hx (y := (⟨"com/example/grotti/grotti/Operation", "equals", "(Ljava/lang/Object;)Z"⟩ : MethodName)) (z := (⟨"com/example/grotti/grotti/Operation", "equals", "(Ljava/lang/Object;)Z"⟩ : MethodName)) hown (mvT hZ (hw _ (List.mem_of_getElem? (i := 51) rfl))) (mvT hZ (hw _ (List.mem_of_getElem? (i := 52) rfl))) (notFace_of_selects (args := #[]) (mvT hZ (hw _ (List.mem_of_getElem? (i := 54) rfl)))) (mvT hZ (hw _ (List.mem_of_getElem? (i := 54) rfl))) (mvT hZ (hw _ (List.mem_of_getElem? (i := 53) rfl))) (by decide) (backOf (W := 0) (rm10e l Z ar0 hw [] b33 b24 i_COMPACT_STRINGS r22 t22 kb22 (csOf la2 y0 y1) r35 t35 kb35 (csOf lo2 u0 u1) r26 t26 kb26 (csOf la1 x0 x1) r28 t28 kb28 (csOf lo1 o0 o1) T93.heap n0 O93 F ((own_cs255 h8_y0 h8_y1)) ((own_cslen _ _ _)) ((own_cs255 h8_u0 h8_u1)) ((own_cslen _ _ _)) ((own_cs255 h8_x0 h8_x1)) ((own_cslen _ _ _)) ((own_cs255 h8_o0 h8_o1)) ((own_cslen _ _ _)) E_b24 F_app_b33 E_r22 F_coder_r22 F_value_r22 V_t22 F_op_b33 E_r35 F_coder_r35 F_value_r35 V_t35 F_app_b24 E_r26 F_coder_r26 F_value_r26 V_t26 F_op_b24 E_r28 F_coder_r28 F_value_r28 V_t28) hZ (hw _ (List.mem_of_getElem? (i := 55) rfl)) (hw _ (List.mem_of_getElem? (i := 14) rfl)) (by decide) (by decide)) q96a q96c (g := (mkF m 342 #[.val (.int p0), .val (.int p1), .val (.int p2), .val (.int la1), .val (.int la2), .val (.int lo1), .val (.int lo2), .val (.int x0), .val (.int x1), .val (.int o0), .val (.int o1), .val (.int y0), .val (.int y1), .val (.int u0), .val (.int u1), .val (.ref r22), .val (.ref b24), .val (.ref b33), .val (.int (1 : Int32)), .val (.int (((p2.toUInt32 >>> ((12 : Int32) &&& 31).toUInt32).toInt32) &&& (3 : Int32)))] [(.ref b24), (.ref b33)])) rfl (by rw [hml]; rfl) (Steps.refl _) (argsL := [(.ref b24)]) (rest := []) (lenOf pd_0_342 rfl) rfl (by show 2 * 0 + _ ≤ _; exact Nat.le_of_eq rfl) (hb hby at_342) (fun _ _ => ⟨rfl, rfl, (by decide : 14 + 0 ≤ _), (by decide : 36 + 0 ≤ _)⟩)
          dsimp only [Pt.U, Pt.locs, Pt.cells, Pt.slots] at X96 l96 y96 z96 st96 hQ96
          subst l96 y96 z96
          obtain ⟨rfl, N96q, O96, Kc96⟩ := hQ96
          have N96 := Fr.app N93 N96q
          have K96 : Keep h0 T96.heap [] := K93.trans Kc96 all0
          have CH97 := CHv.keep Kc96 all0 CH94
          have CR97 := CR94.trans (CHr.keep Kc96 all0 CH94)
          have hk := Nat.le_trans hk Kc96.1
          have E_r22 := (E_r22.keep Kc96)
          have F_coder_r22 := (F_coder_r22.keep Kc96 nin0)
          have F_value_r22 := (F_value_r22.keep Kc96 nin0)
          have V_t22 := (V_t22.keep Kc96 nin0)
          have E_b24 := (E_b24.keep Kc96)
          have E_r26 := (E_r26.keep Kc96)
          have F_coder_r26 := (F_coder_r26.keep Kc96 nin0)
          have F_value_r26 := (F_value_r26.keep Kc96 nin0)
          have V_t26 := (V_t26.keep Kc96 nin0)
          have E_r28 := (E_r28.keep Kc96)
          have F_coder_r28 := (F_coder_r28.keep Kc96 nin0)
          have F_value_r28 := (F_value_r28.keep Kc96 nin0)
          have V_t28 := (V_t28.keep Kc96 nin0)
          have F_app_b24 := (F_app_b24.keep Kc96 nin0)
          have F_op_b24 := (F_op_b24.keep Kc96 nin0)
          have E_b33 := (E_b33.keep Kc96)
          have E_r35 := (E_r35.keep Kc96)
          have F_coder_r35 := (F_coder_r35.keep Kc96 nin0)
          have F_value_r35 := (F_value_r35.keep Kc96 nin0)
          have V_t35 := (V_t35.keep Kc96 nin0)
          have F_app_b33 := (F_app_b33.keep Kc96 nin0)
          have F_op_b33 := (F_op_b33.keep Kc96 nin0)
          have hk98 : (eqR ((csOf la2 y0 y1)) ((csOf la1 x0 x1)) ((csOf lo2 u0 u1)) ((csOf lo1 o0 o1))) = (1 : Int32) := own_eqR_1 ((own_same h3_la1 h3_la2).mp hc43).symm ((own_same h3_lo1 h3_lo2).mp hc64).symm
          obtain ⟨fs, hr, hrun, hended, hRW⟩ := X96.leaveW hS (hk) (v := some (.int (1 : Int32))) (fun h => by rw [Bd.returns] at h; cases h)
          have CRx : CHr Z EL s.vm s.heap T96.vm T96.heap := by rw [hh]; exact CR97.trans (CHv.at X96 hZ hEL CH97)
          refine ⟨_, _, pre89 _ ?_, hrun, hended, _, _, rfl, ?_, CRx, own_rw_mono hRW (by decide) (by decide)⟩
          · show Steps p.tables e below (T82.setTop (mkF m 307 #[.val (.int p0), .val (.int p1), .val (.int p2), .val (.int la1), .val (.int la2), .val (.int lo1), .val (.int lo2), .val (.int x0), .val (.int x1), .val (.int o0), .val (.int o1), .val (.int y0), .val (.int y1), .val (.int u0), .val (.int u1), .val (.ref r22), .val (.ref b24), .val (.ref b33), .val (.int (1 : Int32)), .val (.int (((p2.toUInt32 >>> ((12 : Int32) &&& 31).toUInt32).toInt32) &&& (3 : Int32)))] [(.int (2 : Int32)), (.int (((p2.toUInt32 >>> ((12 : Int32) &&& 31).toUInt32).toInt32) &&& (3 : Int32)))])) _
            refine XS.icmpYes X82.here hx rfl (pc0 := 307) (pc' := 326) rfl (hb hby at_307) rfl (feq hc90).2 (by decide) (by decide) ?_
            show Steps p.tables e below (T82.setTop (mkF m 326 #[.val (.int p0), .val (.int p1), .val (.int p2), .val (.int la1), .val (.int la2), .val (.int lo1), .val (.int lo2), .val (.int x0), .val (.int x1), .val (.int o0), .val (.int o1), .val (.int y0), .val (.int y1), .val (.int u0), .val (.int u1), .val (.ref r22), .val (.ref b24), .val (.ref b33), .val (.int (1 : Int32)), .val (.int (((p2.toUInt32 >>> ((12 : Int32) &&& 31).toUInt32).toInt32) &&& (3 : Int32)))] [])) _
            refine XS.aload X82.here hx rfl (hb hby at_326) rfl rfl ?_
            show Steps p.tables e below (T82.setTop (mkF m 328 #[.val (.int p0), .val (.int p1), .val (.int p2), .val (.int la1), .val (.int la2), .val (.int lo1), .val (.int lo2), .val (.int x0), .val (.int x1), .val (.int o0), .val (.int o1), .val (.int y0), .val (.int y1), .val (.int u0), .val (.int u1), .val (.ref r22), .val (.ref b24), .val (.ref b33), .val (.int (1 : Int32)), .val (.int (((p2.toUInt32 >>> ((12 : Int32) &&& 31).toUInt32).toInt32) &&& (3 : Int32)))] [(.ref b24)])) _
            refine XS.aload X82.here hx rfl (hb hby at_328) rfl rfl ?_
            show Steps p.tables e below (T82.setTop (mkF m 330 #[.val (.int p0), .val (.int p1), .val (.int p2), .val (.int la1), .val (.int la2), .val (.int lo1), .val (.int lo2), .val (.int x0), .val (.int x1), .val (.int o0), .val (.int o1), .val (.int y0), .val (.int y1), .val (.int u0), .val (.int u1), .val (.ref r22), .val (.ref b24), .val (.ref b33), .val (.int (1 : Int32)), .val (.int (((p2.toUInt32 >>> ((12 : Int32) &&& 31).toUInt32).toInt32) &&& (3 : Int32)))] [(.ref b33), (.ref b24)])) _
            refine st93.trans ?_
            show Steps p.tables e below (T93.setTop (mkF m 333 #[.val (.int p0), .val (.int p1), .val (.int p2), .val (.int la1), .val (.int la2), .val (.int lo1), .val (.int lo2), .val (.int x0), .val (.int x1), .val (.int o0), .val (.int o1), .val (.int y0), .val (.int y1), .val (.int u0), .val (.int u1), .val (.ref r22), .val (.ref b24), .val (.ref b33), .val (.int (1 : Int32)), .val (.int (((p2.toUInt32 >>> ((12 : Int32) &&& 31).toUInt32).toInt32) &&& (3 : Int32)))] [(.int (eqR ((csOf la1 x0 x1)) ((csOf la2 y0 y1)) ((csOf lo1 o0 o1)) ((csOf lo2 u0 u1))))])) _
            refine XS.iload X93.here hx rfl (hb hby at_333) rfl ?_
            show Steps p.tables e below (T93.setTop (mkF m 335 #[.val (.int p0), .val (.int p1), .val (.int p2), .val (.int la1), .val (.int la2), .val (.int lo1), .val (.int lo2), .val (.int x0), .val (.int x1), .val (.int o0), .val (.int o1), .val (.int y0), .val (.int y1), .val (.int u0), .val (.int u1), .val (.ref r22), .val (.ref b24), .val (.ref b33), .val (.int (1 : Int32)), .val (.int (((p2.toUInt32 >>> ((12 : Int32) &&& 31).toUInt32).toInt32) &&& (3 : Int32)))] [(.int (1 : Int32)), (.int (eqR ((csOf la1 x0 x1)) ((csOf la2 y0 y1)) ((csOf lo1 o0 o1)) ((csOf lo2 u0 u1))))])) _
            refine XS.icmpNo X93.here hx rfl (hb hby at_335) rfl (teq hk95).2 ?_
            show Steps p.tables e below (T93.setTop (mkF m 338 #[.val (.int p0), .val (.int p1), .val (.int p2), .val (.int la1), .val (.int la2), .val (.int lo1), .val (.int lo2), .val (.int x0), .val (.int x1), .val (.int o0), .val (.int o1), .val (.int y0), .val (.int y1), .val (.int u0), .val (.int u1), .val (.ref r22), .val (.ref b24), .val (.ref b33), .val (.int (1 : Int32)), .val (.int (((p2.toUInt32 >>> ((12 : Int32) &&& 31).toUInt32).toInt32) &&& (3 : Int32)))] [])) _
            refine XS.aload X93.here hx rfl (hb hby at_338) rfl rfl ?_
            show Steps p.tables e below (T93.setTop (mkF m 340 #[.val (.int p0), .val (.int p1), .val (.int p2), .val (.int la1), .val (.int la2), .val (.int lo1), .val (.int lo2), .val (.int x0), .val (.int x1), .val (.int o0), .val (.int o1), .val (.int y0), .val (.int y1), .val (.int u0), .val (.int u1), .val (.ref r22), .val (.ref b24), .val (.ref b33), .val (.int (1 : Int32)), .val (.int (((p2.toUInt32 >>> ((12 : Int32) &&& 31).toUInt32).toInt32) &&& (3 : Int32)))] [(.ref b33)])) _
            refine XS.aload X93.here hx rfl (hb hby at_340) rfl rfl ?_
            show Steps p.tables e below (T93.setTop (mkF m 342 #[.val (.int p0), .val (.int p1), .val (.int p2), .val (.int la1), .val (.int la2), .val (.int lo1), .val (.int lo2), .val (.int x0), .val (.int x1), .val (.int o0), .val (.int o1), .val (.int y0), .val (.int y1), .val (.int u0), .val (.int u1), .val (.ref r22), .val (.ref b24), .val (.ref b33), .val (.int (1 : Int32)), .val (.int (((p2.toUInt32 >>> ((12 : Int32) &&& 31).toUInt32).toInt32) &&& (3 : Int32)))] [(.ref b24), (.ref b33)])) _
            refine st96.trans ?_
            show Steps p.tables e below (T96.setTop (mkF m 345 #[.val (.int p0), .val (.int p1), .val (.int p2), .val (.int la1), .val (.int la2), .val (.int lo1), .val (.int lo2), .val (.int x0), .val (.int x1), .val (.int o0), .val (.int o1), .val (.int y0), .val (.int y1), .val (.int u0), .val (.int u1), .val (.ref r22), .val (.ref b24), .val (.ref b33), .val (.int (1 : Int32)), .val (.int (((p2.toUInt32 >>> ((12 : Int32) &&& 31).toUInt32).toInt32) &&& (3 : Int32)))] [(.int (eqR ((csOf la2 y0 y1)) ((csOf la1 x0 x1)) ((csOf lo2 u0 u1)) ((csOf lo1 o0 o1))))])) _
            refine XS.iload X96.here hx rfl (hb hby at_345) rfl ?_
            show Steps p.tables e below (T96.setTop (mkF m 347 #[.val (.int p0), .val (.int p1), .val (.int p2), .val (.int la1), .val (.int la2), .val (.int lo1), .val (.int lo2), .val (.int x0), .val (.int x1), .val (.int o0), .val (.int o1), .val (.int y0), .val (.int y1), .val (.int u0), .val (.int u1), .val (.ref r22), .val (.ref b24), .val (.ref b33), .val (.int (1 : Int32)), .val (.int (((p2.toUInt32 >>> ((12 : Int32) &&& 31).toUInt32).toInt32) &&& (3 : Int32)))] [(.int (1 : Int32)), (.int (eqR ((csOf la2 y0 y1)) ((csOf la1 x0 x1)) ((csOf lo2 u0 u1)) ((csOf lo1 o0 o1))))])) _
            refine XS.icmpNo X96.here hx rfl (hb hby at_347) rfl (teq hk98).2 ?_
            show Steps p.tables e below (T96.setTop (mkF m 350 #[.val (.int p0), .val (.int p1), .val (.int p2), .val (.int la1), .val (.int la2), .val (.int lo1), .val (.int lo2), .val (.int x0), .val (.int x1), .val (.int o0), .val (.int o1), .val (.int y0), .val (.int y1), .val (.int u0), .val (.int u1), .val (.ref r22), .val (.ref b24), .val (.ref b33), .val (.int (1 : Int32)), .val (.int (((p2.toUInt32 >>> ((12 : Int32) &&& 31).toUInt32).toInt32) &&& (3 : Int32)))] [])) _
            refine XS.iconst X96.here hx rfl (hb hby at_350) ?_
            show Steps p.tables e below (T96.setTop (mkF m 351 #[.val (.int p0), .val (.int p1), .val (.int p2), .val (.int la1), .val (.int la2), .val (.int lo1), .val (.int lo2), .val (.int x0), .val (.int x1), .val (.int o0), .val (.int o1), .val (.int y0), .val (.int y1), .val (.int u0), .val (.int u1), .val (.ref r22), .val (.ref b24), .val (.ref b33), .val (.int (1 : Int32)), .val (.int (((p2.toUInt32 >>> ((12 : Int32) &&& 31).toUInt32).toInt32) &&& (3 : Int32)))] [(.int (1 : Int32))])) _
            refine XS.goto X96.here hx rfl (pc0 := 351) (pc' := 355) rfl (hb hby at_351) (by decide) (by decide) ?_
            show Steps p.tables e below (T96.setTop (mkF m 355 #[.val (.int p0), .val (.int p1), .val (.int p2), .val (.int la1), .val (.int la2), .val (.int lo1), .val (.int lo2), .val (.int x0), .val (.int x1), .val (.int o0), .val (.int o1), .val (.int y0), .val (.int y1), .val (.int u0), .val (.int u1), .val (.ref r22), .val (.ref b24), .val (.ref b33), .val (.int (1 : Int32)), .val (.int (((p2.toUInt32 >>> ((12 : Int32) &&& 31).toUInt32).toInt32) &&& (3 : Int32)))] [(.int (1 : Int32))])) _
            exact retN X96 hx (t := .boolean) Bd.returns (by simp) (hb hby at_355) hr
          · show Q0 Z p0 p1 p2 i_COMPACT_STRINGS  h0 n0 _ T96.heap _
            skip
            exact ⟨rfl, N96⟩

set_option maxRecDepth 65536 in
set_option maxHeartbeats 40000000 in
theorem comes_1 {Post : Tables → Env → Array Value → State → Outcome → State → Prop} (hpost : ∀ tb e args s v u, (limb_1_1.after args s (.returned v) u = true ∧ limb_1_2.after args s (.returned v) u = true ∧ True) → ReturnedEndW s (.returned v) u (Jvm.fieldLocs frame_1_writes args s ++ Jvm.arrayLocs frame_1_arrays args s ++ Jvm.staticLocs frame_1_statics s) 40 1216 → Post tb e args s (.returned v) u) :
    ArmFor flags0 classFile x code maxLocals ret World_1 tables_1 room_1 Calls_1 rest_1 Pre_1 Post := by
  intro l hfl _ _ p e ha hc hk s m args below hf hA hF happ hP
  obtain ⟨hcalls, hrest, hpre⟩ := hP
  obtain ⟨-, -, -, hnamed, -, -, -, hat⟩ := (Spec.applies_iff hf).mp happ
  obtain ⟨hg, hn⟩ := and_e (Cond.before_iff.mp (show (Jvm.Cond.and given_1 narrow_1).before args s = true from hpre))
  obtain ⟨g0, hg⟩ := and_e hg
  obtain ⟨w0, w1, w2, rfl⟩ : ∃ w0 w1 w2 : Value, args = #[w0, w1, w2] := by
    have hs : args.size = 3 := by simpa [Cond.value, given_1] using g0
    obtain ⟨L⟩ := args
    match L, hs with
    | [w0, w1, w2], _ => exact ⟨w0, w1, w2, rfl⟩
  have hw := fun d (hd : d ∈ tables_1) => atoms_spec (ws := Jvm.Cond.code x code maxLocals ret :: tables_1) hat d (List.mem_cons_of_mem _ hd)
  obtain ⟨g1, hg⟩ := and_e hg
  obtain ⟨i0, ei0⟩ := is_v g1
  obtain rfl : w0 = (.int i0) := Option.some.inj ei0
  obtain ⟨g2, hg⟩ := and_e hg
  obtain ⟨i1, ei1⟩ := is_v g2
  obtain rfl : w1 = (.int i1) := Option.some.inj ei1
  obtain ⟨i2, ei2⟩ := is_v hg
  obtain rfl : w2 = (.int i2) := Option.some.inj ei2
  obtain ⟨hsets, hown0⟩ := atoms_of _ (rest_1_c_eq ▸ (show rest_1_c.before _ s = true from hrest))
  obtain ⟨i_COMPACT_STRINGS, ev_COMPACT_STRINGS⟩ := is_v (Cond.before_iff.mp (hsets _ (List.mem_of_getElem? (i := 1) rfl)))
  have S_COMPACT_STRINGS := Sta.start ev_COMPACT_STRINGS (Or.inl (hsets _ (List.mem_of_getElem? (i := 0) rfl)))
  have P_COMPACT_STRINGS : ¬ (i_COMPACT_STRINGS = (0 : Int32)) := gotF (Cond.eq_ints ev_COMPACT_STRINGS (Term.int_eval (0))) (not_v (Cond.before_iff.mp (hsets _ (List.mem_of_getElem? (i := 2) rfl))))
  have F : Fx s s.heap i_COMPACT_STRINGS := ⟨S_COMPACT_STRINGS, P_COMPACT_STRINGS⟩

  obtain ⟨n, o, h1, h2, h3, _, L, rfl, ⟨rfl, N⟩, -, hq⟩ := rm0 l s _ hw tables_1 i0 i1 i2 i_COMPACT_STRINGS s.heap s.heap.size (Old.start s) F  p e ha hc hk s m _ below hf ((Spec.applies_iff_loose hf).mp happ).1 ⟨rfl, State.Warmed39.refl s, rfl, CHv.start (own_EW hw) hcalls.1 (hsets _ (List.mem_of_getElem? (i := 2) rfl)) (hw _ (List.mem_of_getElem? (i := 7) rfl)) (hw _ (List.mem_of_getElem? (i := 6) rfl))⟩ trivial
  refine ⟨n, _, h1, h2, h3, hpost _ _ _ _ _ _ ⟨Cond.after_iff.mpr rfl, Cond.after_iff.mpr (eq_i res_at (Term.int_eval (1)) rfl), trivial⟩ ⟨hq.1, hq.2.1, hq.2.2.1, (hq.2.2.2.sift fun y hy => Or.inr (N y hy)).mono (by decide) (by decide)⟩⟩
theorem main_1_1 : Claimed_1_1 := comes_1 fun _ _ _ _ _ _ h hF => ⟨h.1, hF⟩
theorem main_1_2 : Claimed_1_2 := comes_1 fun _ _ _ _ _ _ h hF => ⟨h.2.1, hF⟩
end Jvm.Pilot.@@N@@
namespace Jvm.Pilot.@@N@@
open Jvm Jvm.ClassFile Sem Op Lib Jvm.Free Jvm.Stand Jvm.Pilot.@@N@@.Jvm.D
/-! MADE BY PROGRAM (witnessworld.py) out of the Statement's table words and the real class files: 20 classes; the members and pool entries that the words name. The judged class is class 1, her method 3. -/
namespace start1
open Jvm.ClassFile
def u (s : String) : CpInfo := .utf8 (stringToUtf16 s)
/-- a pool by its gaps: so many unusable entries, then the entry; so many at the end -/
def gap : Nat → List CpInfo → List CpInfo
  | 0, r => r
  | n + 1, r => .unusable :: gap n r
def poolList (es : List (Nat × CpInfo)) (last : Nat) : List CpInfo := es.foldr (fun e r => gap e.1 (e.2 :: r)) (gap last [])
def pool (es : List (Nat × CpInfo)) (last : Nat) : Array CpInfo := ⟨poolList es last⟩
def fileOf (pool : Array CpInfo) (this : Nat) (attrs : Array Attribute := #[]) (ms : Array MethodInfo := #[]) (fl : Nat := 33) (sup : Nat := 0) (ifs : Array Nat := #[]) (fds : Array FieldInfo := #[]) : ClassFile where
  minorVersion := 0
  majorVersion := 65
  constantPool := pool
  accessFlags := fl
  thisClass := this
  superClass := sup
  interfaces := ifs
  fields := fds
  methods := ms
  attributes := attrs
def plain (name : String) (sup : Option ClassId) : Class where
  name := name
  kind := .ordinary
  loader := none
  accessFlags := 33
  super := sup
  interfaces := #[]
  cf := none
  fields := #[]
  methods := #[]
  instanceTypes := #[]
  staticTypes := #[]
  resolved := #[]
  callSites := []
  init := .initialized
  statics := none
  mirror := none

def pool0 : Array CpInfo := pool [(5, u "<init>"), (0, u "()V"), (1, .class_ 10), (1, u "java/lang/Object")] 113

def k0c0 : Code := { maxStack := 0, maxLocals := 1, code := object_method_1_code, exceptionTable := #[], attributes := #[] }
def k0m0 : Method := { name := "<init>", desc := "()V", sig := { parameters := [], returnType := none }, accessFlags := 1, code := some k0c0 }
/-- java/lang/Object -/
def k0 : Class := { plain "java/lang/Object" none with
  accessFlags := 33
  interfaces := #[]
  cf := some (fileOf pool0 8 #[] #[{ accessFlags := 1, nameIndex := 5, descriptorIndex := 6, attributes := #[] }] 33 0 #[] #[])
  fields := #[]
  methods := #[k0m0]
  instanceTypes := #[]
  staticTypes := #[]
  resolved := Array.replicate 124 none
  statics := none }

def pool1 : Array CpInfo := pool [(2, .class_ 4), (1, u "java/lang/Object"), (0, u "<init>"), (0, u "()V"), (0, .string 8), (0, u ""), (0, .methodref 10 11), (0, .class_ 12), (0, .nameAndType 13 14), (0, u "java/lang/String"), (0, u "valueOf"), (0, u "(C)Ljava/lang/String;"), (0, .methodref 10 16), (0, .nameAndType 5 17), (0, u "([C)V"), (0, .methodref 19 20), (0, .class_ 21), (0, .nameAndType 22 23), (0, u "com/example/grotti/grotti/OperationEqualsPinLaw"), (0, u "mk"), (0, u "(III)Ljava/lang/String;"), (0, .class_ 25), (0, u "com/example/grotti/grotti/Operation"), (0, .methodref 24 27), (0, .nameAndType 5 28), (0, u "(Ljava/lang/String;Ljava/lang/String;)V"), (0, .methodref 19 30), (0, .nameAndType 31 32), (0, u "same"), (0, u "(IIIIII)Z"), (0, .methodref 24 34), (0, .nameAndType 35 36), (0, u "equals"), (0, u "(Ljava/lang/Object;)Z"), (3, u "law"), (0, u "(III)Z")] 2

def k1m0 : Method := { name := "<init>", desc := "()V", sig := { parameters := [], returnType := none }, accessFlags := 1, code := none }
def k1c1 : Code := { maxStack := 3, maxLocals := 4, code := method_2_code, exceptionTable := #[], attributes := #[] }
def k1m1 : Method := { name := "mk", desc := "(III)Ljava/lang/String;", sig := { parameters := [.int, .int, .int], returnType := some (.object "java/lang/String") }, accessFlags := 10, code := some k1c1 }
def k1c2 : Code := { maxStack := 2, maxLocals := 6, code := method_3_code, exceptionTable := #[], attributes := #[] }
def k1m2 : Method := { name := "same", desc := "(IIIIII)Z", sig := { parameters := [.int, .int, .int, .int, .int, .int], returnType := some .boolean }, accessFlags := 10, code := some k1c2 }
def k1c3 : Code := { maxStack := 6, maxLocals := 20, code := code, exceptionTable := #[], attributes := #[] }
def k1m3 : Method := { name := "law", desc := "(III)Z", sig := { parameters := [.int, .int, .int], returnType := some .boolean }, accessFlags := 9, code := some k1c3 }
/-- com/example/grotti/grotti/OperationEqualsPinLaw -/
def k1 : Class := { plain "com/example/grotti/grotti/OperationEqualsPinLaw" (some 0) with
  accessFlags := 49
  interfaces := #[]
  cf := some (fileOf pool1 19 #[] #[{ accessFlags := 1, nameIndex := 5, descriptorIndex := 6, attributes := #[] }, { accessFlags := 10, nameIndex := 22, descriptorIndex := 23, attributes := #[] }, { accessFlags := 10, nameIndex := 31, descriptorIndex := 32, attributes := #[] }, { accessFlags := 9, nameIndex := 40, descriptorIndex := 41, attributes := #[] }] 49 2 #[] #[])
  fields := #[]
  methods := #[k1m0, k1m1, k1m2, k1m3]
  instanceTypes := #[]
  staticTypes := #[]
  resolved := Array.replicate 44 none
  statics := none }

def pool2 : Array CpInfo := pool [(1, .class_ 2), (0, u "java/io/Serializable"), (0, .class_ 4), (0, u "java/lang/Object")] 2

/-- java/io/Serializable -/
def k2 : Class := { plain "java/io/Serializable" (some 0) with
  accessFlags := 1537
  interfaces := #[]
  cf := some (fileOf pool2 1 #[] #[] 1537 3 #[] #[])
  fields := #[]
  methods := #[]
  instanceTypes := #[]
  staticTypes := #[]
  resolved := Array.replicate 7 none
  statics := none }

def pool3 : Array CpInfo := pool [(1, .class_ 2), (0, u "java/lang/Comparable"), (0, .class_ 4), (0, u "java/lang/Object")] 7

/-- java/lang/Comparable -/
def k3 : Class := { plain "java/lang/Comparable" (some 0) with
  accessFlags := 1537
  interfaces := #[]
  cf := some (fileOf pool3 1 #[] #[] 1537 3 #[] #[])
  fields := #[]
  methods := #[]
  instanceTypes := #[]
  staticTypes := #[]
  resolved := Array.replicate 12 none
  statics := none }

def pool4 : Array CpInfo := pool [(2, .class_ 4), (1, u "java/lang/CharSequence"), (42, .class_ 48), (0, u "java/lang/CharSequence$1CodePointIterator"), (10, .class_ 60), (0, u "java/lang/CharSequence$1CharIterator"), (5, .class_ 67), (0, u "java/lang/Object")] 63

/-- java/lang/CharSequence -/
def k4 : Class := { plain "java/lang/CharSequence" (some 0) with
  accessFlags := 1537
  interfaces := #[]
  cf := some (fileOf pool4 2 #[.nestMembers #[47, 59]] #[] 1537 66 #[] #[])
  fields := #[]
  methods := #[]
  instanceTypes := #[]
  staticTypes := #[]
  resolved := Array.replicate 131 none
  statics := none }

def pool5 : Array CpInfo := pool [(1, .class_ 2), (0, u "java/lang/constant/Constable"), (0, .class_ 4), (0, u "java/lang/Object")] 6

/-- java/lang/constant/Constable -/
def k5 : Class := { plain "java/lang/constant/Constable" (some 0) with
  accessFlags := 1537
  interfaces := #[]
  cf := some (fileOf pool5 1 #[] #[] 1537 3 #[] #[])
  fields := #[]
  methods := #[]
  instanceTypes := #[]
  staticTypes := #[]
  resolved := Array.replicate 11 none
  statics := none }

def pool6 : Array CpInfo := pool [(1, .class_ 2), (0, u "java/lang/constant/ConstantDesc"), (0, .class_ 4), (0, u "java/lang/Object")] 32

/-- java/lang/constant/ConstantDesc -/
def k6 : Class := { plain "java/lang/constant/ConstantDesc" (some 0) with
  accessFlags := 1537
  interfaces := #[]
  cf := some (fileOf pool6 1 #[] #[] 1537 3 #[] #[])
  fields := #[]
  methods := #[]
  instanceTypes := #[]
  staticTypes := #[]
  resolved := Array.replicate 37 none
  statics := none }

def pool7 : Array CpInfo := pool [(1, .methodref 2 3), (0, .class_ 4), (0, .nameAndType 5 6), (0, u "java/lang/Object"), (0, u "<init>"), (0, u "()V"), (2, .fieldref 10 11), (0, .class_ 12), (0, .nameAndType 13 14), (0, u "java/lang/String"), (0, u "value"), (0, u "[B"), (0, .fieldref 10 16), (0, .nameAndType 17 18), (0, u "coder"), (0, u "B"), (2, u "hash"), (0, u "I"), (2, u "hashIsZero"), (0, u "Z"), (0, .methodref 10 28), (0, .nameAndType 5 29), (0, u "([CIILjava/lang/Void;)V"), (8, .fieldref 10 39), (0, .nameAndType 40 26), (0, u "COMPACT_STRINGS"), (1, .class_ 44), (1, u "java/lang/StringUTF16"), (0, u "compress"), (1, .methodref 42 48), (0, .nameAndType 49 50), (0, u "coderFromArrayLen"), (0, u "([BI)B"), (2, u "toBytes"), (53, .class_ 109), (1, u "java/lang/StringLatin1"), (67, .methodref 42 178), (0, .nameAndType 45 179), (0, u "([CII)[B"), (29, .methodref 10 210), (0, .nameAndType 5 211), (0, u "([BB)V"), (157, u "(C)Z"), (171, .methodref 107 542), (0, .nameAndType 543 544), (0, u "equals"), (0, u "([B[B)Z"), (28, u "(Ljava/lang/Object;)Z"), (1, .class_ 576), (0, u "java/lang/CharSequence"), (22, u "CASE_INSENSITIVE_ORDER"), (0, u "Ljava/util/Comparator;"), (181, u "valueOf"), (0, u "(C)Ljava/lang/String;"), (226, u "([C)V"), (4, .methodref 107 1016), (0, .nameAndType 1017 369), (0, u "canEncode"), (0, .methodref 107 1019), (0, .nameAndType 53 1020), (0, u "(C)[B"), (80, u "serialPersistentFields"), (0, u "[Ljava/io/ObjectStreamField;"), (0, .class_ 1104), (0, u "java/lang/String$CaseInsensitiveComparator"), (1, .class_ 1107), (0, u "java/io/Serializable"), (0, .class_ 1109), (0, u "java/lang/Comparable"), (0, .class_ 1111), (0, u "java/lang/constant/Constable"), (0, .class_ 1113), (0, u "java/lang/constant/ConstantDesc"), (2, u "serialVersionUID"), (0, u "J"), (3, u "REPL"), (0, u "C"), (2, u "LATIN1"), (1, u "UTF16")] 323

def k7m0 : Method := { name := "<init>", desc := "()V", sig := { parameters := [], returnType := none }, accessFlags := 1, code := none }
def k7c1 : Code := { maxStack := 5, maxLocals := 2, code := jdk_42_method_3_code, exceptionTable := #[], attributes := #[] }
def k7m1 : Method := { name := "<init>", desc := "([C)V", sig := { parameters := [(.array .char)], returnType := none }, accessFlags := 1, code := some k7c1 }
def k7c2 : Code := { maxStack := 2, maxLocals := 3, code := jdk_42_method_66_code, exceptionTable := #[], attributes := #[] }
def k7m2 : Method := { name := "equals", desc := "(Ljava/lang/Object;)Z", sig := { parameters := [(.object "java/lang/Object")], returnType := some .boolean }, accessFlags := 1, code := some k7c2 }
def k7c3 : Code := { maxStack := 4, maxLocals := 1, code := jdk_42_method_139_code, exceptionTable := #[], attributes := #[] }
def k7m3 : Method := { name := "valueOf", desc := "(C)Ljava/lang/String;", sig := { parameters := [.char], returnType := some (.object "java/lang/String") }, accessFlags := 9, code := some k7c3 }
def k7c4 : Code := { maxStack := 4, maxLocals := 6, code := jdk_42_method_149_code, exceptionTable := #[], attributes := #[] }
def k7m4 : Method := { name := "<init>", desc := "([CIILjava/lang/Void;)V", sig := { parameters := [(.array .char), .int, .int, (.object "java/lang/Void")], returnType := none }, accessFlags := 2, code := some k7c4 }
def k7c5 : Code := { maxStack := 2, maxLocals := 3, code := jdk_42_method_151_code, exceptionTable := #[], attributes := #[] }
def k7m5 : Method := { name := "<init>", desc := "([BB)V", sig := { parameters := [(.array .byte), .byte], returnType := none }, accessFlags := 0, code := some k7c5 }
/-- java/lang/String -/
def k7 : Class := { plain "java/lang/String" (some 0) with
  accessFlags := 49
  interfaces := #[2, 3, 4, 5, 6]
  cf := some (fileOf pool7 10 #[.nestMembers #[1103]] #[{ accessFlags := 1, nameIndex := 5, descriptorIndex := 6, attributes := #[] }, { accessFlags := 1, nameIndex := 5, descriptorIndex := 1010, attributes := #[] }, { accessFlags := 1, nameIndex := 543, descriptorIndex := 573, attributes := #[] }, { accessFlags := 9, nameIndex := 782, descriptorIndex := 783, attributes := #[] }, { accessFlags := 2, nameIndex := 5, descriptorIndex := 29, attributes := #[] }, { accessFlags := 0, nameIndex := 5, descriptorIndex := 211, attributes := #[] }] 49 2 #[1106, 1108, 575, 1110, 1112] #[{ accessFlags := 18, nameIndex := 13, descriptorIndex := 14, attributes := #[] }, { accessFlags := 18, nameIndex := 17, descriptorIndex := 18, attributes := #[] }, { accessFlags := 2, nameIndex := 21, descriptorIndex := 22, attributes := #[] }, { accessFlags := 2, nameIndex := 25, descriptorIndex := 26, attributes := #[] }, { accessFlags := 26, nameIndex := 1116, descriptorIndex := 1117, attributes := #[] }, { accessFlags := 24, nameIndex := 40, descriptorIndex := 26, attributes := #[] }, { accessFlags := 26, nameIndex := 1101, descriptorIndex := 1102, attributes := #[] }, { accessFlags := 26, nameIndex := 1121, descriptorIndex := 1122, attributes := #[] }, { accessFlags := 25, nameIndex := 599, descriptorIndex := 600, attributes := #[] }, { accessFlags := 24, nameIndex := 1125, descriptorIndex := 18, attributes := #[] }, { accessFlags := 24, nameIndex := 1127, descriptorIndex := 18, attributes := #[] }])
  fields := #[{ name := "value", type := (.array .byte), accessFlags := 18, slot := 0, constantValue := 0 }, { name := "coder", type := .byte, accessFlags := 18, slot := 1, constantValue := 0 }, { name := "hash", type := .int, accessFlags := 2, slot := 2, constantValue := 0 }, { name := "hashIsZero", type := .boolean, accessFlags := 2, slot := 3, constantValue := 0 }, { name := "serialVersionUID", type := .long, accessFlags := 26, slot := 0, constantValue := 0 }, { name := "COMPACT_STRINGS", type := .boolean, accessFlags := 24, slot := 1, constantValue := 0 }, { name := "serialPersistentFields", type := (.array (.object "java/io/ObjectStreamField")), accessFlags := 26, slot := 2, constantValue := 0 }, { name := "REPL", type := .char, accessFlags := 26, slot := 3, constantValue := 0 }, { name := "CASE_INSENSITIVE_ORDER", type := (.object "java/util/Comparator"), accessFlags := 25, slot := 4, constantValue := 0 }, { name := "LATIN1", type := .byte, accessFlags := 24, slot := 5, constantValue := 0 }, { name := "UTF16", type := .byte, accessFlags := 24, slot := 6, constantValue := 0 }]
  methods := #[k7m0, k7m1, k7m2, k7m3, k7m4, k7m5]
  instanceTypes := #[(.array .byte), .byte, .int, .boolean]
  staticTypes := #[.long, .boolean, (.array (.object "java/io/ObjectStreamField")), .char, (.object "java/util/Comparator"), .byte, .byte]
  resolved := Array.replicate 1451 none
  statics := some 0 }

def pool8 : Array CpInfo := pool [(1, .methodref 2 3), (0, .class_ 4), (0, .nameAndType 5 6), (0, u "java/lang/Object"), (0, u "<init>"), (0, u "()V"), (0, .fieldref 8 9), (0, .class_ 10), (0, .nameAndType 11 12), (0, u "com/example/grotti/grotti/Operation"), (0, u "app"), (0, u "Ljava/lang/String;"), (0, .fieldref 8 14), (0, .nameAndType 15 12), (0, u "op"), (0, .methodref 17 18), (0, .class_ 19), (0, .nameAndType 20 21), (0, u "java/lang/String"), (0, u "equals"), (0, u "(Ljava/lang/Object;)Z"), (10, u "(Ljava/lang/String;Ljava/lang/String;)V")] 24

def k8c0 : Code := { maxStack := 2, maxLocals := 3, code := prog_20_method_1_code, exceptionTable := #[], attributes := #[] }
def k8m0 : Method := { name := "<init>", desc := "(Ljava/lang/String;Ljava/lang/String;)V", sig := { parameters := [(.object "java/lang/String"), (.object "java/lang/String")], returnType := none }, accessFlags := 0, code := some k8c0 }
def k8c1 : Code := { maxStack := 2, maxLocals := 3, code := prog_20_method_4_code, exceptionTable := #[], attributes := #[] }
def k8m1 : Method := { name := "equals", desc := "(Ljava/lang/Object;)Z", sig := { parameters := [(.object "java/lang/Object")], returnType := some .boolean }, accessFlags := 1, code := some k8c1 }
/-- com/example/grotti/grotti/Operation -/
def k8 : Class := { plain "com/example/grotti/grotti/Operation" (some 0) with
  accessFlags := 32
  interfaces := #[]
  cf := some (fileOf pool8 8 #[] #[{ accessFlags := 0, nameIndex := 5, descriptorIndex := 32, attributes := #[] }, { accessFlags := 1, nameIndex := 20, descriptorIndex := 21, attributes := #[] }] 32 2 #[] #[{ accessFlags := 18, nameIndex := 11, descriptorIndex := 12, attributes := #[] }, { accessFlags := 18, nameIndex := 15, descriptorIndex := 12, attributes := #[] }])
  fields := #[{ name := "app", type := (.object "java/lang/String"), accessFlags := 18, slot := 0, constantValue := 0 }, { name := "op", type := (.object "java/lang/String"), accessFlags := 18, slot := 1, constantValue := 0 }]
  methods := #[k8m0, k8m1]
  instanceTypes := #[(.object "java/lang/String"), (.object "java/lang/String")]
  staticTypes := #[]
  resolved := Array.replicate 57 none
  statics := none }

def pool9 : Array CpInfo := pool [(6, .class_ 8), (1, u "java/lang/Object"), (0, u "<init>"), (0, u "()V"), (1, .class_ 14), (1, u "java/lang/StringUTF16"), (31, u "$assertionsDisabled"), (0, u "Z"), (13, u "HI_BYTE_SHIFT"), (0, u "I"), (2, u "LO_BYTE_SHIFT"), (49, .methodref 12 116), (0, .nameAndType 117 118), (0, u "compress"), (0, u "([CI[BII)I"), (3, u "([CII)[B"), (138, u "coderFromArrayLen"), (0, u "([BI)B"), (106, .class_ 371), (1, u "java/lang/StringUTF16$LinesSpliterator"), (58, u "MAX_LENGTH"), (196, .class_ 628), (0, u "java/lang/StringUTF16$CodePointsSpliterator"), (0, .class_ 630), (0, u "java/lang/StringUTF16$CharsSpliterator")] 4

def k9m0 : Method := { name := "<init>", desc := "()V", sig := { parameters := [], returnType := none }, accessFlags := 0, code := none }
def k9c1 : Code := { maxStack := 2, maxLocals := 2, code := jdk_52_method_15_code, exceptionTable := #[], attributes := #[] }
def k9m1 : Method := { name := "coderFromArrayLen", desc := "([BI)B", sig := { parameters := [(.array .byte), .int], returnType := some .byte }, accessFlags := 8, code := some k9c1 }
def k9c2 : Code := { maxStack := 5, maxLocals := 6, code := jdk_52_method_16_code, exceptionTable := #[], attributes := #[] }
def k9m2 : Method := { name := "compress", desc := "([CII)[B", sig := { parameters := [(.array .char), .int, .int], returnType := some (.array .byte) }, accessFlags := 9, code := some k9c2 }
def k9c3 : Code := { maxStack := 3, maxLocals := 7, code := jdk_52_method_21_code, exceptionTable := #[], attributes := #[] }
def k9m3 : Method := { name := "compress", desc := "([CI[BII)I", sig := { parameters := [(.array .char), .int, (.array .byte), .int, .int], returnType := some .int }, accessFlags := 9, code := some k9c3 }
/-- java/lang/StringUTF16 -/
def k9 : Class := { plain "java/lang/StringUTF16" (some 0) with
  accessFlags := 48
  interfaces := #[]
  cf := some (fileOf pool9 12 #[.nestMembers #[627, 629, 369]] #[{ accessFlags := 0, nameIndex := 9, descriptorIndex := 10, attributes := #[] }, { accessFlags := 8, nameIndex := 261, descriptorIndex := 262, attributes := #[] }, { accessFlags := 9, nameIndex := 117, descriptorIndex := 122, attributes := #[] }, { accessFlags := 9, nameIndex := 117, descriptorIndex := 118, attributes := #[] }] 48 6 #[] #[{ accessFlags := 26, nameIndex := 61, descriptorIndex := 62, attributes := #[] }, { accessFlags := 26, nameIndex := 65, descriptorIndex := 62, attributes := #[] }, { accessFlags := 24, nameIndex := 430, descriptorIndex := 62, attributes := #[] }, { accessFlags := 4120, nameIndex := 46, descriptorIndex := 47, attributes := #[] }])
  fields := #[{ name := "HI_BYTE_SHIFT", type := .int, accessFlags := 26, slot := 0, constantValue := 0 }, { name := "LO_BYTE_SHIFT", type := .int, accessFlags := 26, slot := 1, constantValue := 0 }, { name := "MAX_LENGTH", type := .int, accessFlags := 24, slot := 2, constantValue := 0 }, { name := "$assertionsDisabled", type := .boolean, accessFlags := 4120, slot := 3, constantValue := 0 }]
  methods := #[k9m0, k9m1, k9m2, k9m3]
  instanceTypes := #[]
  staticTypes := #[.int, .int, .int, .boolean]
  resolved := Array.replicate 635 none
  statics := none }

def pool10 : Array CpInfo := pool [(4, .class_ 6), (1, u "java/lang/Object"), (0, u "<init>"), (0, u "()V"), (5, .class_ 16), (1, u "java/lang/StringLatin1"), (73, u "canEncode"), (14, u "(C)Z"), (15, u "$assertionsDisabled"), (0, u "Z"), (98, .class_ 223), (1, u "java/lang/StringLatin1$LinesSpliterator"), (57, u "equals"), (0, u "([B[B)Z"), (97, u "toBytes"), (1, u "(C)[B"), (7, .class_ 391), (0, u "java/lang/StringLatin1$CharsSpliterator")] 3

def k10m0 : Method := { name := "<init>", desc := "()V", sig := { parameters := [], returnType := none }, accessFlags := 0, code := none }
def k10c1 : Code := { maxStack := 2, maxLocals := 1, code := jdk_43_method_3_code, exceptionTable := #[], attributes := #[] }
def k10m1 : Method := { name := "canEncode", desc := "(C)Z", sig := { parameters := [.char], returnType := some .boolean }, accessFlags := 9, code := some k10c1 }
def k10c2 : Code := { maxStack := 3, maxLocals := 3, code := jdk_43_method_13_code, exceptionTable := #[], attributes := #[] }
def k10m2 : Method := { name := "equals", desc := "([B[B)Z", sig := { parameters := [(.array .byte), (.array .byte)], returnType := some .boolean }, accessFlags := 9, code := some k10c2 }
def k10c3 : Code := { maxStack := 4, maxLocals := 1, code := jdk_43_method_46_code, exceptionTable := #[], attributes := #[] }
def k10m3 : Method := { name := "toBytes", desc := "(C)[B", sig := { parameters := [.char], returnType := some (.array .byte) }, accessFlags := 9, code := some k10c3 }
/-- java/lang/StringLatin1 -/
def k10 : Class := { plain "java/lang/StringLatin1" (some 0) with
  accessFlags := 48
  interfaces := #[]
  cf := some (fileOf pool10 14 #[.nestMembers #[390, 221]] #[{ accessFlags := 0, nameIndex := 7, descriptorIndex := 8, attributes := #[] }, { accessFlags := 9, nameIndex := 90, descriptorIndex := 105, attributes := #[] }, { accessFlags := 9, nameIndex := 281, descriptorIndex := 282, attributes := #[] }, { accessFlags := 9, nameIndex := 380, descriptorIndex := 382, attributes := #[] }] 48 4 #[] #[{ accessFlags := 4120, nameIndex := 121, descriptorIndex := 122, attributes := #[] }])
  fields := #[{ name := "$assertionsDisabled", type := .boolean, accessFlags := 4120, slot := 0, constantValue := 0 }]
  methods := #[k10m0, k10m1, k10m2, k10m3]
  instanceTypes := #[]
  staticTypes := #[.boolean]
  resolved := Array.replicate 395 none
  statics := none }

def pool11 : Array CpInfo := pool [(2, .class_ 4), (1, u "java/lang/Object"), (0, u "<init>"), (0, u "()V"), (17, .class_ 26), (1, u "jdk/internal/util/Preconditions"), (28, .class_ 56), (0, u "jdk/internal/util/Preconditions$4"), (57, .class_ 115), (0, u "jdk/internal/util/Preconditions$1"), (7, u "SIOOBE_FORMATTER"), (0, u "Ljava/util/function/BiFunction;"), (0, .class_ 126), (0, u "jdk/internal/util/Preconditions$2"), (3, u "AIOOBE_FORMATTER"), (0, .class_ 132), (0, u "jdk/internal/util/Preconditions$3"), (3, u "IOOBE_FORMATTER")] 57

def k11m0 : Method := { name := "<init>", desc := "()V", sig := { parameters := [], returnType := none }, accessFlags := 1, code := none }
/-- jdk/internal/util/Preconditions -/
def k11 : Class := { plain "jdk/internal/util/Preconditions" (some 0) with
  accessFlags := 33
  interfaces := #[]
  cf := some (fileOf pool11 24 #[.nestMembers #[55, 131, 125, 114]] #[{ accessFlags := 1, nameIndex := 5, descriptorIndex := 6, attributes := #[] }] 33 2 #[] #[{ accessFlags := 25, nameIndex := 123, descriptorIndex := 124, attributes := #[] }, { accessFlags := 25, nameIndex := 130, descriptorIndex := 124, attributes := #[] }, { accessFlags := 25, nameIndex := 136, descriptorIndex := 124, attributes := #[] }])
  fields := #[{ name := "SIOOBE_FORMATTER", type := (.object "java/util/function/BiFunction"), accessFlags := 25, slot := 0, constantValue := 0 }, { name := "AIOOBE_FORMATTER", type := (.object "java/util/function/BiFunction"), accessFlags := 25, slot := 1, constantValue := 0 }, { name := "IOOBE_FORMATTER", type := (.object "java/util/function/BiFunction"), accessFlags := 25, slot := 2, constantValue := 0 }]
  methods := #[k11m0]
  instanceTypes := #[]
  staticTypes := #[(.object "java/util/function/BiFunction"), (.object "java/util/function/BiFunction"), (.object "java/util/function/BiFunction")]
  resolved := Array.replicate 194 none
  statics := some 1 }

def pool12 : Array CpInfo := pool [(9, u "<init>"), (6, .class_ 18), (1, u "java/lang/Object"), (0, u "()V"), (1, .class_ 23), (1, u "jdk/internal/util/ArraysSupport"), (0, u "LOG2_ARRAY_LONG_INDEX_SCALE"), (0, u "I"), (2, u "U"), (0, u "Ljdk/internal/misc/Unsafe;"), (8, u "BIG_ENDIAN"), (0, u "Z"), (8, u "LOG2_BYTE_BIT_SIZE"), (4, u "LOG2_ARRAY_INT_INDEX_SCALE"), (54, u "JLA"), (0, u "Ljdk/internal/access/JavaLangAccess;"), (11, u "LOG2_ARRAY_BOOLEAN_INDEX_SCALE"), (9, u "LOG2_ARRAY_BYTE_INDEX_SCALE"), (5, u "LOG2_ARRAY_CHAR_INDEX_SCALE"), (5, u "LOG2_ARRAY_SHORT_INDEX_SCALE"), (18, u "LOG2_ARRAY_FLOAT_INDEX_SCALE"), (24, u "LOG2_ARRAY_DOUBLE_INDEX_SCALE"), (89, u "T_BOOLEAN"), (2, u "T_CHAR"), (1, u "T_FLOAT"), (1, u "T_DOUBLE"), (1, u "T_BYTE"), (1, u "T_SHORT"), (1, u "T_INT"), (1, u "T_LONG"), (1, u "SOFT_MAX_ARRAY_LENGTH")] 83

def k12m0 : Method := { name := "<init>", desc := "()V", sig := { parameters := [], returnType := none }, accessFlags := 2, code := none }
/-- jdk/internal/util/ArraysSupport -/
def k12 : Class := { plain "jdk/internal/util/ArraysSupport" (some 0) with
  accessFlags := 33
  interfaces := #[]
  cf := some (fileOf pool12 21 #[] #[{ accessFlags := 2, nameIndex := 9, descriptorIndex := 19, attributes := #[] }] 33 16 #[] #[{ accessFlags := 24, nameIndex := 28, descriptorIndex := 29, attributes := #[] }, { accessFlags := 26, nameIndex := 38, descriptorIndex := 39, attributes := #[] }, { accessFlags := 25, nameIndex := 121, descriptorIndex := 25, attributes := #[] }, { accessFlags := 25, nameIndex := 131, descriptorIndex := 25, attributes := #[] }, { accessFlags := 25, nameIndex := 137, descriptorIndex := 25, attributes := #[] }, { accessFlags := 25, nameIndex := 143, descriptorIndex := 25, attributes := #[] }, { accessFlags := 25, nameIndex := 53, descriptorIndex := 25, attributes := #[] }, { accessFlags := 25, nameIndex := 24, descriptorIndex := 25, attributes := #[] }, { accessFlags := 25, nameIndex := 162, descriptorIndex := 25, attributes := #[] }, { accessFlags := 25, nameIndex := 187, descriptorIndex := 25, attributes := #[] }, { accessFlags := 26, nameIndex := 48, descriptorIndex := 25, attributes := #[] }, { accessFlags := 25, nameIndex := 277, descriptorIndex := 25, attributes := #[] }, { accessFlags := 25, nameIndex := 280, descriptorIndex := 25, attributes := #[] }, { accessFlags := 25, nameIndex := 282, descriptorIndex := 25, attributes := #[] }, { accessFlags := 25, nameIndex := 284, descriptorIndex := 25, attributes := #[] }, { accessFlags := 25, nameIndex := 286, descriptorIndex := 25, attributes := #[] }, { accessFlags := 25, nameIndex := 288, descriptorIndex := 25, attributes := #[] }, { accessFlags := 25, nameIndex := 290, descriptorIndex := 25, attributes := #[] }, { accessFlags := 25, nameIndex := 292, descriptorIndex := 25, attributes := #[] }, { accessFlags := 26, nameIndex := 108, descriptorIndex := 109, attributes := #[] }, { accessFlags := 25, nameIndex := 294, descriptorIndex := 25, attributes := #[] }])
  fields := #[{ name := "U", type := (.object "jdk/internal/misc/Unsafe"), accessFlags := 24, slot := 0, constantValue := 0 }, { name := "BIG_ENDIAN", type := .boolean, accessFlags := 26, slot := 1, constantValue := 0 }, { name := "LOG2_ARRAY_BOOLEAN_INDEX_SCALE", type := .int, accessFlags := 25, slot := 2, constantValue := 0 }, { name := "LOG2_ARRAY_BYTE_INDEX_SCALE", type := .int, accessFlags := 25, slot := 3, constantValue := 0 }, { name := "LOG2_ARRAY_CHAR_INDEX_SCALE", type := .int, accessFlags := 25, slot := 4, constantValue := 0 }, { name := "LOG2_ARRAY_SHORT_INDEX_SCALE", type := .int, accessFlags := 25, slot := 5, constantValue := 0 }, { name := "LOG2_ARRAY_INT_INDEX_SCALE", type := .int, accessFlags := 25, slot := 6, constantValue := 0 }, { name := "LOG2_ARRAY_LONG_INDEX_SCALE", type := .int, accessFlags := 25, slot := 7, constantValue := 0 }, { name := "LOG2_ARRAY_FLOAT_INDEX_SCALE", type := .int, accessFlags := 25, slot := 8, constantValue := 0 }, { name := "LOG2_ARRAY_DOUBLE_INDEX_SCALE", type := .int, accessFlags := 25, slot := 9, constantValue := 0 }, { name := "LOG2_BYTE_BIT_SIZE", type := .int, accessFlags := 26, slot := 10, constantValue := 0 }, { name := "T_BOOLEAN", type := .int, accessFlags := 25, slot := 11, constantValue := 0 }, { name := "T_CHAR", type := .int, accessFlags := 25, slot := 12, constantValue := 0 }, { name := "T_FLOAT", type := .int, accessFlags := 25, slot := 13, constantValue := 0 }, { name := "T_DOUBLE", type := .int, accessFlags := 25, slot := 14, constantValue := 0 }, { name := "T_BYTE", type := .int, accessFlags := 25, slot := 15, constantValue := 0 }, { name := "T_SHORT", type := .int, accessFlags := 25, slot := 16, constantValue := 0 }, { name := "T_INT", type := .int, accessFlags := 25, slot := 17, constantValue := 0 }, { name := "T_LONG", type := .int, accessFlags := 25, slot := 18, constantValue := 0 }, { name := "JLA", type := (.object "jdk/internal/access/JavaLangAccess"), accessFlags := 26, slot := 19, constantValue := 0 }, { name := "SOFT_MAX_ARRAY_LENGTH", type := .int, accessFlags := 25, slot := 20, constantValue := 0 }]
  methods := #[k12m0]
  instanceTypes := #[]
  staticTypes := #[(.object "jdk/internal/misc/Unsafe"), .boolean, .int, .int, .int, .int, .int, .int, .int, .int, .int, .int, .int, .int, .int, .int, .int, .int, .int, (.object "jdk/internal/access/JavaLangAccess"), .int]
  resolved := Array.replicate 378 none
  statics := none }

def pool13 : Array CpInfo := pool [(1, u "java/lang/Cloneable"), (0, .class_ 1), (0, u "java/lang/Object"), (0, .class_ 3)] 3

/-- java/lang/Cloneable -/
def k13 : Class := { plain "java/lang/Cloneable" (some 0) with
  accessFlags := 1537
  interfaces := #[]
  cf := some (fileOf pool13 2 #[] #[] 1537 4 #[] #[])
  fields := #[]
  methods := #[]
  instanceTypes := #[]
  staticTypes := #[]
  resolved := Array.replicate 8 none
  statics := none }

/-- the primitive byte -/
def k14 : Class := { plain "byte" none with kind := .primitive 'B', accessFlags := 0x411 }
/-- [B -/
def k15 : Class := { plain "[B" (some 0) with kind := .array 14 .byte, interfaces := #[13, 2], accessFlags := 1041 }

/-- the primitive char -/
def k16 : Class := { plain "char" none with kind := .primitive 'C', accessFlags := 0x411 }
/-- [C -/
def k17 : Class := { plain "[C" (some 0) with kind := .array 16 .char, interfaces := #[13, 2], accessFlags := 1041 }

/-- the primitive int -/
def k18 : Class := { plain "int" none with kind := .primitive 'I', accessFlags := 0x411 }
/-- [I -/
def k19 : Class := { plain "[I" (some 0) with kind := .array 18 .int, interfaces := #[13, 2], accessFlags := 1041 }

def heap : Heap := #[{ cls := 7, slots := #[.long 0, .int 1, .null, .int 0, .null, .int 0, .int 0], vm := .statics 7 },
  { cls := 11, slots := #[.null, .null, .null], vm := .statics 11 }]
def classes : Array Class := #[k0, k1, k2, k3, k4, k5, k6, k7, k8, k9, k10, k11, k12, k13, k14, k15, k16, k17, k18, k19]
def interned : List (Array UInt16 × Addr) := []
def slotsUsed : Nat := 10
def theMethod : MethodId := ⟨1, 3⟩
def args0 : Array Value := #[.int 5, .int 6, .int 7]
def aboutOver (below : List Frame) : State where
  vm := { classes := classes, interned := interned.toArray }
  heap := heap
  slotsUsed := slotsUsed
  threads := #[{ frames := .invoking theMethod args0 :: below }]
def below0 : List Frame := [.native { method := ⟨0, 0⟩, args := #[] }]
def about1 : State := aboutOver below0
def p0 : Program := .bare "" "" ""
def e0 : Env := launch0.env 0 0 0
theorem w_frames : about1.frames = Frame.invoking theMethod args0 :: below0 := rfl
set_option maxRecDepth 65536 in
theorem w_args : argsFit about1.vm theMethod args0 = true := by decide +kernel
set_option maxRecDepth 65536 in
theorem w_heap : heapFits about1 = true := by decide +kernel
set_option maxRecDepth 65536 in
theorem w_runnable : about1.curStatus? = some .runnable := by decide +kernel
set_option maxRecDepth 65536 in
theorem w_alone : about1.alone = true := by decide +kernel
set_option maxRecDepth 65536 in
theorem w_named : about1.methodNamed? x = some theMethod := by decide +kernel
set_option maxRecDepth 65536 in
theorem w_hears : about1.hears theMethod below0 = true := by decide +kernel
set_option maxRecDepth 65536 in
theorem w_ripe : about1.ripe theMethod args0 below0 = true := by decide +kernel
theorem w_running : about1.status = .running := rfl
set_option maxRecDepth 65536 in
theorem w_room : about1.hasRoom e0.platform room_1 = true :=
  launch0.hasRoom_least _ room_1 (by decide +kernel) (by decide +kernel) (by decide +kernel) (by decide +kernel) (by decide +kernel) (by decide +kernel)
theorem allAtoms_all (ts : List Jvm.Cond) (a : Array Jvm.Value) (st : Jvm.State) : (allAtoms ts).before a st = ts.all (fun c => c.before a st) := by
  induction ts with
  | nil => rfl
  | cons c t ih =>
    show (Jvm.Cond.and c (allAtoms t)).before a st = _
    rw [Jvm.Cond.before_and, ih, List.all_cons]
def words1 : List Jvm.Cond := Jvm.Cond.code x code maxLocals ret :: tables_1
/-- a 'code' word, met by the world's own term for the bytes: nothing is compared byte by byte -/
theorem code_word {y : MethodName} {bytes : ByteArray} {mx : Nat} {rt : Option FieldType} {a : Array Value} {s : State} {m : MethodId} {meth : Method} {c : Code} (h1 : s.methodNamed? y = some m) (h2 : s.vm.method? m = some meth) (h3 : meth.code = some c) (h4 : c.code = bytes)
    (h5 : (c.maxLocals == mx && c.exceptionTable.isEmpty && decide (c.maxStack ≤ mostOperands) && decide (meth.sig.returnType = rt) && !meth.locks && decide (parseMethodDescriptor y.desc = some meth.sig)) = true) : (Jvm.Cond.code y bytes mx rt).before a s = true := by
  simp only [Bool.and_eq_true, beq_iff_eq, Bool.not_eq_true', decide_eq_true_eq] at h5
  obtain ⟨⟨⟨⟨⟨g1, g2⟩, g3⟩, g4⟩, g5⟩, g6⟩ := h5
  simp [Cond.before, Cond.holds, Cond.value, h1, h2, h3, h4, g1, g2, g3, g4, g5, g6]
def isCode : Jvm.Cond → Bool
  | .code _ _ _ _ => true
  | _ => false
theorem all_split {L : List Jvm.Cond} {P : Jvm.Cond → Bool} (h1 : L.all (fun c => isCode c || P c) = true) (h2 : ∀ c ∈ L.filter isCode, P c = true) : L.all P = true := by
  refine List.all_eq_true.mpr fun c hc => ?_
  have h := List.all_eq_true.mp h1 c hc
  rcases Bool.eq_false_or_eq_true (isCode c) with hi | hi
  · exact h2 c (List.mem_filter.mpr ⟨hc, hi⟩)
  · simpa [hi] using h
set_option maxRecDepth 65536 in
theorem w_c0 : (Jvm.Cond.code x code maxLocals ret).before args0 about1 = true := code_word (m := ⟨1, 3⟩) (meth := k1m3) (c := k1c3) (by decide +kernel) rfl rfl rfl (by decide +kernel)
set_option maxRecDepth 65536 in
theorem w_c1 : (Jvm.Cond.code ({ cls := "com/example/grotti/grotti/OperationEqualsPinLaw", name := "mk", desc := "(III)Ljava/lang/String;" } : Jvm.MethodName) method_2_code (4 : Nat) (Option.some (Jvm.ClassFile.FieldType.object "java/lang/String"))).before args0 about1 = true := code_word (m := ⟨1, 1⟩) (meth := k1m1) (c := k1c1) (by decide +kernel) rfl rfl rfl (by decide +kernel)
set_option maxRecDepth 65536 in
theorem w_c2 : (Jvm.Cond.code ({ cls := "java/lang/String", name := "<init>", desc := "([C)V" } : Jvm.MethodName) jdk_42_method_3_code (2 : Nat) (Option.none : Option Jvm.ClassFile.FieldType)).before args0 about1 = true := code_word (m := ⟨7, 1⟩) (meth := k7m1) (c := k7c1) (by decide +kernel) rfl rfl rfl (by decide +kernel)
set_option maxRecDepth 65536 in
theorem w_c3 : (Jvm.Cond.code ({ cls := "java/lang/String", name := "<init>", desc := "([CIILjava/lang/Void;)V" } : Jvm.MethodName) jdk_42_method_149_code (6 : Nat) (Option.none : Option Jvm.ClassFile.FieldType)).before args0 about1 = true := code_word (m := ⟨7, 4⟩) (meth := k7m4) (c := k7c4) (by decide +kernel) rfl rfl rfl (by decide +kernel)
set_option maxRecDepth 65536 in
theorem w_c4 : (Jvm.Cond.code ({ cls := "java/lang/Object", name := "<init>", desc := "()V" } : Jvm.MethodName) object_method_1_code (1 : Nat) (Option.none : Option Jvm.ClassFile.FieldType)).before args0 about1 = true := code_word (m := ⟨0, 0⟩) (meth := k0m0) (c := k0c0) (by decide +kernel) rfl rfl rfl (by decide +kernel)
set_option maxRecDepth 65536 in
theorem w_c5 : (Jvm.Cond.code ({ cls := "java/lang/StringUTF16", name := "compress", desc := "([CII)[B" } : Jvm.MethodName) jdk_52_method_16_code (6 : Nat) (Option.some (Jvm.ClassFile.FieldType.array Jvm.ClassFile.FieldType.byte))).before args0 about1 = true := code_word (m := ⟨9, 2⟩) (meth := k9m2) (c := k9c2) (by decide +kernel) rfl rfl rfl (by decide +kernel)
set_option maxRecDepth 65536 in
theorem w_c6 : (Jvm.Cond.code ({ cls := "java/lang/StringUTF16", name := "compress", desc := "([CI[BII)I" } : Jvm.MethodName) jdk_52_method_21_code (7 : Nat) (Option.some Jvm.ClassFile.FieldType.int)).before args0 about1 = true := code_word (m := ⟨9, 3⟩) (meth := k9m3) (c := k9c3) (by decide +kernel) rfl rfl rfl (by decide +kernel)
set_option maxRecDepth 65536 in
theorem w_c7 : (Jvm.Cond.code ({ cls := "java/lang/StringUTF16", name := "coderFromArrayLen", desc := "([BI)B" } : Jvm.MethodName) jdk_52_method_15_code (2 : Nat) (Option.some Jvm.ClassFile.FieldType.byte)).before args0 about1 = true := code_word (m := ⟨9, 1⟩) (meth := k9m1) (c := k9c1) (by decide +kernel) rfl rfl rfl (by decide +kernel)
set_option maxRecDepth 65536 in
theorem w_c8 : (Jvm.Cond.code ({ cls := "com/example/grotti/grotti/Operation", name := "<init>", desc := "(Ljava/lang/String;Ljava/lang/String;)V" } : Jvm.MethodName) prog_20_method_1_code (3 : Nat) (Option.none : Option Jvm.ClassFile.FieldType)).before args0 about1 = true := code_word (m := ⟨8, 0⟩) (meth := k8m0) (c := k8c0) (by decide +kernel) rfl rfl rfl (by decide +kernel)
set_option maxRecDepth 65536 in
theorem w_c9 : (Jvm.Cond.code ({ cls := "com/example/grotti/grotti/OperationEqualsPinLaw", name := "same", desc := "(IIIIII)Z" } : Jvm.MethodName) method_3_code (6 : Nat) (Option.some Jvm.ClassFile.FieldType.boolean)).before args0 about1 = true := code_word (m := ⟨1, 2⟩) (meth := k1m2) (c := k1c2) (by decide +kernel) rfl rfl rfl (by decide +kernel)
set_option maxRecDepth 65536 in
theorem w_c10 : (Jvm.Cond.code ({ cls := "com/example/grotti/grotti/Operation", name := "equals", desc := "(Ljava/lang/Object;)Z" } : Jvm.MethodName) prog_20_method_4_code (3 : Nat) (Option.some Jvm.ClassFile.FieldType.boolean)).before args0 about1 = true := code_word (m := ⟨8, 1⟩) (meth := k8m1) (c := k8c1) (by decide +kernel) rfl rfl rfl (by decide +kernel)
set_option maxRecDepth 65536 in
theorem w_c11 : (Jvm.Cond.code ({ cls := "java/lang/String", name := "equals", desc := "(Ljava/lang/Object;)Z" } : Jvm.MethodName) jdk_42_method_66_code (3 : Nat) (Option.some Jvm.ClassFile.FieldType.boolean)).before args0 about1 = true := code_word (m := ⟨7, 2⟩) (meth := k7m2) (c := k7c2) (by decide +kernel) rfl rfl rfl (by decide +kernel)
set_option maxRecDepth 65536 in
theorem w_c12 : (Jvm.Cond.code ({ cls := "java/lang/StringLatin1", name := "equals", desc := "([B[B)Z" } : Jvm.MethodName) jdk_43_method_13_code (3 : Nat) (Option.some Jvm.ClassFile.FieldType.boolean)).before args0 about1 = true := code_word (m := ⟨10, 2⟩) (meth := k10m2) (c := k10c2) (by decide +kernel) rfl rfl rfl (by decide +kernel)
set_option maxRecDepth 65536 in
theorem w_c13 : (Jvm.Cond.code ({ cls := "java/lang/String", name := "valueOf", desc := "(C)Ljava/lang/String;" } : Jvm.MethodName) jdk_42_method_139_code (1 : Nat) (Option.some (Jvm.ClassFile.FieldType.object "java/lang/String"))).before args0 about1 = true := code_word (m := ⟨7, 3⟩) (meth := k7m3) (c := k7c3) (by decide +kernel) rfl rfl rfl (by decide +kernel)
set_option maxRecDepth 65536 in
theorem w_c14 : (Jvm.Cond.code ({ cls := "java/lang/StringLatin1", name := "canEncode", desc := "(C)Z" } : Jvm.MethodName) jdk_43_method_3_code (1 : Nat) (Option.some Jvm.ClassFile.FieldType.boolean)).before args0 about1 = true := code_word (m := ⟨10, 1⟩) (meth := k10m1) (c := k10c1) (by decide +kernel) rfl rfl rfl (by decide +kernel)
set_option maxRecDepth 65536 in
theorem w_c15 : (Jvm.Cond.code ({ cls := "java/lang/StringLatin1", name := "toBytes", desc := "(C)[B" } : Jvm.MethodName) jdk_43_method_46_code (1 : Nat) (Option.some (Jvm.ClassFile.FieldType.array Jvm.ClassFile.FieldType.byte))).before args0 about1 = true := code_word (m := ⟨10, 3⟩) (meth := k10m3) (c := k10c3) (by decide +kernel) rfl rfl rfl (by decide +kernel)
set_option maxRecDepth 65536 in
theorem w_c16 : (Jvm.Cond.code ({ cls := "java/lang/String", name := "<init>", desc := "([BB)V" } : Jvm.MethodName) jdk_42_method_151_code (3 : Nat) (Option.none : Option Jvm.ClassFile.FieldType)).before args0 about1 = true := code_word (m := ⟨7, 5⟩) (meth := k7m5) (c := k7c5) (by decide +kernel) rfl rfl rfl (by decide +kernel)
def codes1 : List Jvm.Cond := [Jvm.Cond.code x code maxLocals ret, Jvm.Cond.code ({ cls := "com/example/grotti/grotti/OperationEqualsPinLaw", name := "mk", desc := "(III)Ljava/lang/String;" } : Jvm.MethodName) method_2_code (4 : Nat) (Option.some (Jvm.ClassFile.FieldType.object "java/lang/String")), Jvm.Cond.code ({ cls := "java/lang/String", name := "<init>", desc := "([C)V" } : Jvm.MethodName) jdk_42_method_3_code (2 : Nat) (Option.none : Option Jvm.ClassFile.FieldType), Jvm.Cond.code ({ cls := "java/lang/String", name := "<init>", desc := "([CIILjava/lang/Void;)V" } : Jvm.MethodName) jdk_42_method_149_code (6 : Nat) (Option.none : Option Jvm.ClassFile.FieldType), Jvm.Cond.code ({ cls := "java/lang/Object", name := "<init>", desc := "()V" } : Jvm.MethodName) object_method_1_code (1 : Nat) (Option.none : Option Jvm.ClassFile.FieldType), Jvm.Cond.code ({ cls := "java/lang/StringUTF16", name := "compress", desc := "([CII)[B" } : Jvm.MethodName) jdk_52_method_16_code (6 : Nat) (Option.some (Jvm.ClassFile.FieldType.array Jvm.ClassFile.FieldType.byte)), Jvm.Cond.code ({ cls := "java/lang/StringUTF16", name := "compress", desc := "([CI[BII)I" } : Jvm.MethodName) jdk_52_method_21_code (7 : Nat) (Option.some Jvm.ClassFile.FieldType.int), Jvm.Cond.code ({ cls := "java/lang/StringUTF16", name := "coderFromArrayLen", desc := "([BI)B" } : Jvm.MethodName) jdk_52_method_15_code (2 : Nat) (Option.some Jvm.ClassFile.FieldType.byte), Jvm.Cond.code ({ cls := "com/example/grotti/grotti/Operation", name := "<init>", desc := "(Ljava/lang/String;Ljava/lang/String;)V" } : Jvm.MethodName) prog_20_method_1_code (3 : Nat) (Option.none : Option Jvm.ClassFile.FieldType), Jvm.Cond.code ({ cls := "com/example/grotti/grotti/OperationEqualsPinLaw", name := "same", desc := "(IIIIII)Z" } : Jvm.MethodName) method_3_code (6 : Nat) (Option.some Jvm.ClassFile.FieldType.boolean), Jvm.Cond.code ({ cls := "com/example/grotti/grotti/Operation", name := "equals", desc := "(Ljava/lang/Object;)Z" } : Jvm.MethodName) prog_20_method_4_code (3 : Nat) (Option.some Jvm.ClassFile.FieldType.boolean), Jvm.Cond.code ({ cls := "java/lang/String", name := "equals", desc := "(Ljava/lang/Object;)Z" } : Jvm.MethodName) jdk_42_method_66_code (3 : Nat) (Option.some Jvm.ClassFile.FieldType.boolean), Jvm.Cond.code ({ cls := "java/lang/StringLatin1", name := "equals", desc := "([B[B)Z" } : Jvm.MethodName) jdk_43_method_13_code (3 : Nat) (Option.some Jvm.ClassFile.FieldType.boolean), Jvm.Cond.code ({ cls := "java/lang/String", name := "valueOf", desc := "(C)Ljava/lang/String;" } : Jvm.MethodName) jdk_42_method_139_code (1 : Nat) (Option.some (Jvm.ClassFile.FieldType.object "java/lang/String")), Jvm.Cond.code ({ cls := "java/lang/StringLatin1", name := "canEncode", desc := "(C)Z" } : Jvm.MethodName) jdk_43_method_3_code (1 : Nat) (Option.some Jvm.ClassFile.FieldType.boolean), Jvm.Cond.code ({ cls := "java/lang/StringLatin1", name := "toBytes", desc := "(C)[B" } : Jvm.MethodName) jdk_43_method_46_code (1 : Nat) (Option.some (Jvm.ClassFile.FieldType.array Jvm.ClassFile.FieldType.byte)), Jvm.Cond.code ({ cls := "java/lang/String", name := "<init>", desc := "([BB)V" } : Jvm.MethodName) jdk_42_method_151_code (3 : Nat) (Option.none : Option Jvm.ClassFile.FieldType)]
set_option maxRecDepth 65536 in
theorem codes_eq : words1.filter isCode = codes1 := rfl
theorem w_codes : ∀ c ∈ words1.filter isCode, c.before args0 about1 = true := by
  rw [codes_eq]
  intro c hc
  simp only [codes1, List.mem_cons, List.not_mem_nil, or_false] at hc
  rcases hc with rfl | rfl | rfl | rfl | rfl | rfl | rfl | rfl | rfl | rfl | rfl | rfl | rfl | rfl | rfl | rfl | rfl
  · exact w_c0
  · exact w_c1
  · exact w_c2
  · exact w_c3
  · exact w_c4
  · exact w_c5
  · exact w_c6
  · exact w_c7
  · exact w_c8
  · exact w_c9
  · exact w_c10
  · exact w_c11
  · exact w_c12
  · exact w_c13
  · exact w_c14
  · exact w_c15
  · exact w_c16
set_option maxRecDepth 65536 in
theorem w_t1 : (words1.take 24).all (fun c => isCode c || c.before args0 about1) = true := by decide +kernel
set_option maxRecDepth 65536 in
theorem w_t2 : ((words1.drop 24).take 24).all (fun c => isCode c || c.before args0 about1) = true := by decide +kernel
set_option maxRecDepth 65536 in
theorem w_t3 : (((words1.drop 24).drop 24).take 24).all (fun c => isCode c || c.before args0 about1) = true := by decide +kernel
set_option maxRecDepth 65536 in
theorem w_t4 : (((words1.drop 24).drop 24).drop 24).all (fun c => isCode c || c.before args0 about1) = true := by decide +kernel
theorem w_tables : (allAtoms (Jvm.Cond.code x code maxLocals ret :: tables_1)).before args0 about1 = true := by
  rw [allAtoms_all]
  show words1.all (fun c => c.before args0 about1) = true
  refine all_split ?_ w_codes
  rw [← List.take_append_drop 24 words1, List.all_append, w_t1, ← List.take_append_drop 24 (words1.drop 24), List.all_append, w_t2, ← List.take_append_drop 24 ((words1.drop 24).drop 24), List.all_append, w_t3, w_t4]
  rfl
set_option maxRecDepth 65536 in
theorem w_rest : rest_1_c.before args0 about1 = true := by decide +kernel
set_option maxRecDepth 65536 in
theorem w_case : (Jvm.Cond.and given_1 narrow_1).before args0 about1 = true := by decide +kernel
set_option maxRecDepth 65536 in
theorem w_consts : constsHeld consts_1 about1 := Jvm.Lit.constsHeldB_iff.mp (by decide +kernel)
theorem w_applies : (headSpec (Jvm.Cond.code x code maxLocals ret :: tables_1) room_1).applies x e0.platform about1 = true :=
  (Spec.applies_iff w_frames).mpr ⟨w_running, w_runnable, w_alone, w_named, w_hears, w_ripe, w_room, w_tables⟩
theorem atStart : AtStart classFile x code maxLocals ret World_1 tables_1 room_1 Calls_1 rest_1 Pre_1 launch0 p0 e0 about1 theMethod args0 below0 :=
  ⟨lists_1, trivial, launch0.admits_env _ _ _, launch0.least_env, fairChoices_fair.cas, fairChoices_fair.clock, w_frames, w_args, w_heap, w_applies, ⟨w_consts, trivial⟩, w_rest, w_case⟩
end start1
theorem witness_1 : WitnessClaimed_1 := ⟨start1.p0, start1.e0, start1.about1, start1.theMethod, start1.args0, start1.below0, start1.atStart⟩
end Jvm.Pilot.@@N@@
