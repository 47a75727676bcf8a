import JvmDerived
import JvmDerived.Pilot.@@N@@Statement
import JvmDerived.Pilot.@@N@@Code
set_option linter.unusedVariables false
set_option linter.unusedSimpArgs false
@@BLOCK:NumsL.lean.txt@@
namespace Jvm.RoadKit
open Sem ClassFile Op Lib Jvm.Stand Jvm.Free Jvm.LawKit
section New
variable {p : Program} {l : Launch} {e : Env} {R : Room} {s : State} {m : MethodId} {args : Array Value} {below : List Frame} {meth : Method} {c : Code} {T : State} {locs : List Loc} {cells slots : Nat}
theorem retI (X : Stand p l e R s m args below meth c T locs cells slots) (hx : p.tables.exec = Jvm.exec) {pc : Nat} {Ls : Array Slot} {z : Int32} {rest : List Value} (hret : meth.sig.returnType = some .int) (hd : decode c.code pc = .ok (.ireturn, 1)) {fs : List Frame}
    (hl : ∀ (f : JFrame) (acts : List Action), f.method = m → f.locked = none → f.entered = [] → (doReturn e (T.setTop f) acts (some (.int z))).1 = T.setFrames fs) : Steps p.tables e below (T.setTop (mkF m pc Ls (.int z :: rest))) (T.setFrames fs) := by
  have hm' : T.vm.method? m = some meth := X.method'
  have hn : narrow .int (.int z) = .int z := rfl
  show Steps p.tables e below (T.setTop { method := m, pc := pc, locals := Ls, stack := _ :: rest, locked := none }) _
  jvm_step X.here [X.here.top, hx, hd, hm', hret, hn]
  first | (intro acts; rw [hl _ acts rfl rfl rfl]) | rw [hl _ _ rfl rfl rfl]
  exact Steps.refl _
end New
end Jvm.RoadKit
namespace Jvm.Pilot.@@N@@
open Jvm Jvm.ClassFile Sem Op Lib Jvm.Free Jvm.Stand Jvm.LawKit Jvm.RoadKit Bundle Jvm.Pilot.@@N@@.Jvm.D
/-- what a body that writes nothing leaves -/
def Qp (r : Option Value) (h0 : Heap) (n0 : Nat) (v : Option Value) (h : Heap) (L : List Loc) : Prop := v = r ∧ Fr n0 L ∧ h = h0
theorem own_fld {args : Array Value} {s : State} {t : Term} {C n d : String} {x : Addr} {k : Int32} (ht : t.eval args s none [] s = some (.ref x)) (h : (Cond.eq (.field t C n d) (.int k)).value args s none s [] = some true) : Fld s s.heap x C n d (.int k) := by
  obtain ⟨u, v, a1, a2, k1, -⟩ := cmp_v (Or.inl h)
  have a3 : (Term.int k).eval args s none [] s = some (.int k) := rfl
  cases a3.symm.trans a2
  have a4 : u = .int k := by
    cases u <;> simp [Cond.value, a1, a3] at h ⊢
    exact h
  subst a4
  rw [fld_at ht] at a1
  exact Fld.start a1
theorem own_fld_inj {Z : State} {h : Heap} {a : Addr} {C n d : String} {v w : Value} (F : Fld Z h a C n d v) (G : Fld Z h a C n d w) : v = w := by
  obtain ⟨c1, cf1, k1, i1, f1, h1, h2, -, -, -, -, h7⟩ := F
  obtain ⟨c2, cf2, k2, i2, f2, g1, g2, -, -, -, -, g7⟩ := G
  cases h1.symm.trans g1
  cases h2.symm.trans g2
  exact Option.some.inj (h7.symm.trans g7)
theorem own_fld_ne {Z : State} {h : Heap} {a b : Addr} {C n d : String} {v w : Int32} (F : Fld Z h a C n d (.int v)) (G : Fld Z h b C n d (.int w)) (hn : ¬ v = w) : a ≠ b := fun q => by
  subst q
  exact hn (Value.int.inj (own_fld_inj F G))
theorem nar_ref (t : FieldType) (w : Value) (h : w.isRef = true) : narrow t w = w := by
  rcases ref_cases h with rfl | ⟨a, rfl⟩ <;> cases t <;> rfl

def Fx (Z : State) (h : Heap) (w_BUY : Addr) (w_SELL : Addr) : Prop := (Sta Z h "com/example/orderwarden/orderwarden/Side" "BUY" "Lcom/example/orderwarden/orderwarden/Side;" (.ref w_BUY)) ∧ (Exa Z h w_BUY "com/example/orderwarden/orderwarden/Side") ∧ (Sta Z h "com/example/orderwarden/orderwarden/Side" "SELL" "Lcom/example/orderwarden/orderwarden/Side;" (.ref w_SELL)) ∧ (Exa Z h w_SELL "com/example/orderwarden/orderwarden/Side") ∧ (Fld Z h w_SELL "java/lang/Enum" "ordinal" "I" (.int (1 : Int32))) ∧ (Fld Z h w_BUY "java/lang/Enum" "ordinal" "I" (.int (0 : Int32)))


theorem d1_0 : decode prog_47_method_4_code 0 = .ok (.aload_n 0, 1) := by decide +kernel
theorem d1_1 : decode prog_47_method_4_code 1 = .ok (.getstatic 3, 3) := by decide +kernel
theorem d1_4 : decode prog_47_method_4_code 4 = .ok (.if_acmp .ne 9, 3) := by decide +kernel
theorem d1_7 : decode prog_47_method_4_code 7 = .ok (.getstatic 7, 3) := by decide +kernel
theorem d1_10 : decode prog_47_method_4_code 10 = .ok (.goto 6, 3) := by decide +kernel
theorem d1_13 : decode prog_47_method_4_code 13 = .ok (.getstatic 3, 3) := by decide +kernel
theorem d1_16 : decode prog_47_method_4_code 16 = .ok (.areturn, 1) := by decide +kernel
theorem pn_1 : plainName "com/example/orderwarden/orderwarden/Side" = true := by first | (simp [plainName, overriddenIn]; done) | decide +kernel
theorem ef_1 (m : MethodId) (a0 : Addr) : entryFrame m #[(.ref a0)] 1 = mkF m 0 #[.val (.ref a0)] [] := by first | (simp [entryFrame, mkF, argsToLocals, Value.category]; done) | rfl
def v1 (a0 : Addr) (w_BUY : Addr) (w_SELL : Addr)  : Addr := if a0 = w_BUY then w_SELL else w_BUY
set_option maxRecDepth 65536 in
set_option maxHeartbeats 40000000 in
theorem rm1 (l : Launch) (Z : State) (ar0 : Array Value) (hw : ∀ d ∈ tables_1, d.before ar0 Z = true) (ws : List Jvm.Cond) (a0 : Addr) (w_BUY : Addr) (w_SELL : Addr) (h0 : Heap) (n0 : Nat) (Z0 : n0 ≤ h0.size) (F : Fx Z h0 w_BUY w_SELL)  (r : Addr) (hre : r = v1 a0 w_BUY w_SELL) :
    MetFree l (⟨"com/example/orderwarden/orderwarden/Side", "opposite", "()Lcom/example/orderwarden/orderwarden/Side;"⟩ : MethodName) (head1 ((Jvm.Cond.code (⟨"com/example/orderwarden/orderwarden/Side", "opposite", "()Lcom/example/orderwarden/orderwarden/Side;"⟩ : MethodName) prog_47_method_4_code 1 (some (.object "com/example/orderwarden/orderwarden/Side"))) :: ws) ({ frames := 0, cells := 0, slots := 0, locals := 0 } : Room)) (fun a U => a = #[(.ref a0)] ∧ Z.Warmed39 U.vm ∧ U.heap = h0) (fun _ _ _ _ _ => True) (fun _ U o U' => ∃ v L, o = .returned v ∧ Qp (some (.ref r)) h0 n0 v U'.heap L ∧ FrameEnd U o U' L ({ frames := 0, cells := 0, slots := 0, locals := 0 } : Room).cells ({ frames := 0, cells := 0, slots := 0, locals := 0 } : Room).slots) := by
  obtain ⟨S_BUY, E_BUY, S_SELL, E_SELL, F_ordinal_SELL, F_ordinal_BUY⟩ := id F
  refine MetFree.of_bodySF (plainFor_of_name pn_1) hisR ?_
  intro p e s m args below meth c s₁ Bd hml0 hP hK
  obtain ⟨rfl, hZ, hh⟩ := hP
  have hx := Bd.exec
  have hby := Bd.bytes
  have hml : c.maxLocals = 1 := hml0
  have hown : s.vm.findClass "com/example/orderwarden/orderwarden/Side" = some m.cls := findClass_of_methodNamed Bd.named
  have X0 : Stand p l e ({ frames := 0, cells := 0, slots := 0, locals := 0 } : Room) s m #[(.ref a0)] below meth c s₁ [] 0 0 := Stand.of_body Bd
  have e0 : s₁.heap = h0 := by rw [← hh, Bd.state]; rfl
  have N0 := Fr.nil n0
  have pre0 : ∀ t, Steps p.tables e below (s₁.setTop (mkF m 0 #[.val (.ref a0)] [])) t → Steps p.tables e below (s₁.setTop (entryFrame m #[(.ref a0)] 1)) t := fun t k => castTop (ef_1 m a0) k
  obtain ⟨T1, X1, e1, st1⟩ := getS2 X0 hx hZ hown (host := "") (Or.inl (hw _ (List.mem_of_getElem? (i := 8) rfl))) Via.refl e0 S_BUY (g := (mkF m 1 #[.val (.ref a0)] [(.ref a0)])) rfl (hb hby d1_1)
  have pre2 : ∀ t, Steps p.tables e below (T1.setTop (mkF m 4 #[.val (.ref a0)] [(.ref w_BUY), (.ref a0)])) t → Steps p.tables e below (s₁.setTop (entryFrame m #[(.ref a0)] 1)) t := by
    intro t k
    refine pre0 _ ?_
    show Steps p.tables e below (s₁.setTop (mkF m 0 #[.val (.ref a0)] [])) _
    refine XS.aloadN X0.here hx rfl (hb hby d1_0) rfl rfl ?_
    show Steps p.tables e below (s₁.setTop (mkF m 1 #[.val (.ref a0)] [(.ref a0)])) _
    refine st1 _ ?_
    exact k
  by_cases hc3 : a0 = w_BUY
  ·
    obtain ⟨T4, X4, e4, st4⟩ := getS2 X1 hx hZ hown (host := "") (Or.inl (hw _ (List.mem_of_getElem? (i := 9) rfl))) Via.refl e1 S_SELL (g := (mkF m 7 #[.val (.ref a0)] [])) rfl (hb hby d1_7)
    have hv : (some (.ref r) : Option Value) = some (.ref w_SELL) := by rw [hre]; unfold v1; rw [if_pos hc3]
    rw [hv]
    obtain ⟨fs, hr, hrun, hended, hW, hsame⟩ := X4.leave (v := some (.ref w_SELL)) (fun h => by rw [Bd.returns] at h; cases h)
    refine ⟨_, _, pre2 _ ?_, hrun, hended, _, _, rfl, ?_, ⟨_, rfl⟩, hW, hsame.mono (by decide) (by decide)⟩
    · show Steps p.tables e below (T1.setTop (mkF m 4 #[.val (.ref a0)] [(.ref w_BUY), (.ref a0)])) _
      refine Jvm.RoadKit.acmp (g := (mkF m 4 #[.val (.ref a0)] [(.ref w_BUY), (.ref a0)])) X1 hx rfl rfl rfl (pc0 := 4) (pc' := 7) (same := true) rfl (hb hby d1_4) rfl (decide_eq_true (congrArg Value.ref hc3)) (by decide) (by decide) ?_
      show Steps p.tables e below (T1.setTop (mkF m 7 #[.val (.ref a0)] [])) _
      refine st4 _ ?_
      show Steps p.tables e below (T4.setTop (mkF m 10 #[.val (.ref a0)] [(.ref w_SELL)])) _
      refine XS.goto X4.here hx rfl (pc0 := 10) (pc' := 16) rfl (hb hby d1_10) (by decide) (by decide) ?_
      show Steps p.tables e below (T4.setTop (mkF m 16 #[.val (.ref a0)] [(.ref w_SELL)])) _
      exact retOut X4 hx Bd.returns rfl (Or.inr (Or.inr (Or.inr (Or.inr ⟨rfl, rfl, rfl⟩)))) (hb hby d1_16) hr
    · show Qp (some (.ref w_SELL)) h0 n0 _ T4.heap _
      rw [e4]
      exact ⟨rfl, N0, rfl⟩
  ·
    obtain ⟨T5, X5, e5, st5⟩ := getS2 X1 hx hZ hown (host := "") (Or.inl (hw _ (List.mem_of_getElem? (i := 8) rfl))) Via.refl e1 S_BUY (g := (mkF m 13 #[.val (.ref a0)] [])) rfl (hb hby d1_13)
    have hv : (some (.ref r) : Option Value) = some (.ref w_BUY) := by rw [hre]; unfold v1; rw [if_neg hc3]
    rw [hv]
    obtain ⟨fs, hr, hrun, hended, hW, hsame⟩ := X5.leave (v := some (.ref w_BUY)) (fun h => by rw [Bd.returns] at h; cases h)
    refine ⟨_, _, pre2 _ ?_, hrun, hended, _, _, rfl, ?_, ⟨_, rfl⟩, hW, hsame.mono (by decide) (by decide)⟩
    · show Steps p.tables e below (T1.setTop (mkF m 4 #[.val (.ref a0)] [(.ref w_BUY), (.ref a0)])) _
      refine Jvm.RoadKit.acmp (g := (mkF m 4 #[.val (.ref a0)] [(.ref w_BUY), (.ref a0)])) X1 hx rfl rfl rfl (pc0 := 4) (pc' := 13) (same := false) rfl (hb hby d1_4) rfl (decide_eq_false (fun q => hc3 (Value.ref.inj q))) (by decide) (by decide) ?_
      show Steps p.tables e below (T1.setTop (mkF m 13 #[.val (.ref a0)] [])) _
      refine st5 _ ?_
      show Steps p.tables e below (T5.setTop (mkF m 16 #[.val (.ref a0)] [(.ref w_BUY)])) _
      exact retOut X5 hx Bd.returns rfl (Or.inr (Or.inr (Or.inr (Or.inr ⟨rfl, rfl, rfl⟩)))) (hb hby d1_16) hr
    · show Qp (some (.ref w_BUY)) h0 n0 _ T5.heap _
      rw [e5]
      exact ⟨rfl, N0, rfl⟩

theorem d2_0 : decode prog_47_method_6_code 0 = .ok (.aload_n 0, 1) := by decide +kernel
theorem d2_1 : decode prog_47_method_6_code 1 = .ok (.getstatic 3, 3) := by decide +kernel
theorem d2_4 : decode prog_47_method_6_code 4 = .ok (.if_acmp .ne 17, 3) := by decide +kernel
theorem d2_7 : decode prog_47_method_6_code 7 = .ok (.lload_n 3, 1) := by decide +kernel
theorem d2_8 : decode prog_47_method_6_code 8 = .ok (.lload_n 1, 1) := by decide +kernel
theorem d2_9 : decode prog_47_method_6_code 9 = .ok (.lcmp, 1) := by decide +kernel
theorem d2_10 : decode prog_47_method_6_code 10 = .ok (.ifCond .gt 7, 3) := by decide +kernel
theorem d2_13 : decode prog_47_method_6_code 13 = .ok (.iconst 1, 1) := by decide +kernel
theorem d2_14 : decode prog_47_method_6_code 14 = .ok (.goto 18, 3) := by decide +kernel
theorem d2_17 : decode prog_47_method_6_code 17 = .ok (.iconst 0, 1) := by decide +kernel
theorem d2_18 : decode prog_47_method_6_code 18 = .ok (.goto 14, 3) := by decide +kernel
theorem d2_21 : decode prog_47_method_6_code 21 = .ok (.lload_n 3, 1) := by decide +kernel
theorem d2_22 : decode prog_47_method_6_code 22 = .ok (.lload_n 1, 1) := by decide +kernel
theorem d2_23 : decode prog_47_method_6_code 23 = .ok (.lcmp, 1) := by decide +kernel
theorem d2_24 : decode prog_47_method_6_code 24 = .ok (.ifCond .lt 7, 3) := by decide +kernel
theorem d2_27 : decode prog_47_method_6_code 27 = .ok (.iconst 1, 1) := by decide +kernel
theorem d2_28 : decode prog_47_method_6_code 28 = .ok (.goto 4, 3) := by decide +kernel
theorem d2_31 : decode prog_47_method_6_code 31 = .ok (.iconst 0, 1) := by decide +kernel
theorem d2_32 : decode prog_47_method_6_code 32 = .ok (.ireturn, 1) := by decide +kernel
theorem pn_2 : plainName "com/example/orderwarden/orderwarden/Side" = true := by first | (simp [plainName, overriddenIn]; done) | decide +kernel
theorem ef_2 (m : MethodId) (a0 : Addr) (q1 : Int64) (q2 : Int64) : entryFrame m #[(.ref a0), (.long q1), (.long q2)] 5 = mkF m 0 #[.val (.ref a0), .val (.long q1), .second, .val (.long q2), .second] [] := by first | (simp [entryFrame, mkF, argsToLocals, Value.category]; done) | rfl
def v2 (a0 : Addr) (q1 : Int64) (q2 : Int64) (w_BUY : Addr) (w_SELL : Addr)  : Int32 := if a0 = w_BUY then if (0 : Int32) < (lcmpW q2 q1) then (0 : Int32) else (1 : Int32) else if (lcmpW q2 q1) < (0 : Int32) then (0 : Int32) else (1 : Int32)
set_option maxRecDepth 65536 in
set_option maxHeartbeats 40000000 in
theorem rm2 (l : Launch) (Z : State) (ar0 : Array Value) (hw : ∀ d ∈ tables_1, d.before ar0 Z = true) (ws : List Jvm.Cond) (a0 : Addr) (q1 : Int64) (q2 : Int64) (w_BUY : Addr) (w_SELL : Addr) (h0 : Heap) (n0 : Nat) (Z0 : n0 ≤ h0.size) (F : Fx Z h0 w_BUY w_SELL)  (r : Int32) (hre : r = v2 a0 q1 q2 w_BUY w_SELL) :
    MetFree l (⟨"com/example/orderwarden/orderwarden/Side", "accepts", "(JJ)Z"⟩ : MethodName) (head1 ((Jvm.Cond.code (⟨"com/example/orderwarden/orderwarden/Side", "accepts", "(JJ)Z"⟩ : MethodName) prog_47_method_6_code 5 (some .boolean)) :: ws) ({ frames := 0, cells := 0, slots := 0, locals := 0 } : Room)) (fun a U => a = #[(.ref a0), (.long q1), (.long q2)] ∧ Z.Warmed39 U.vm ∧ U.heap = h0) (fun _ _ _ _ _ => True) (fun _ U o U' => ∃ v L, o = .returned v ∧ Qp (some (.int r)) h0 n0 v U'.heap L ∧ FrameEnd U o U' L ({ frames := 0, cells := 0, slots := 0, locals := 0 } : Room).cells ({ frames := 0, cells := 0, slots := 0, locals := 0 } : Room).slots) := by
  obtain ⟨S_BUY, E_BUY, S_SELL, E_SELL, F_ordinal_SELL, F_ordinal_BUY⟩ := id F
  refine MetFree.of_bodySF (plainFor_of_name pn_2) hisR ?_
  intro p e s m args below meth c s₁ Bd hml0 hP hK
  obtain ⟨rfl, hZ, hh⟩ := hP
  have hx := Bd.exec
  have hby := Bd.bytes
  have hml : c.maxLocals = 5 := hml0
  have hown : s.vm.findClass "com/example/orderwarden/orderwarden/Side" = some m.cls := findClass_of_methodNamed Bd.named
  have X0 : Stand p l e ({ frames := 0, cells := 0, slots := 0, locals := 0 } : Room) s m #[(.ref a0), (.long q1), (.long q2)] below meth c s₁ [] 0 0 := Stand.of_body Bd
  have e0 : s₁.heap = h0 := by rw [← hh, Bd.state]; rfl
  have N0 := Fr.nil n0
  have pre0 : ∀ t, Steps p.tables e below (s₁.setTop (mkF m 0 #[.val (.ref a0), .val (.long q1), .second, .val (.long q2), .second] [])) t → Steps p.tables e below (s₁.setTop (entryFrame m #[(.ref a0), (.long q1), (.long q2)] 5)) t := fun t k => castTop (ef_2 m a0 q1 q2) k
  obtain ⟨T1, X1, e1, st1⟩ := getS2 X0 hx hZ hown (host := "") (Or.inl (hw _ (List.mem_of_getElem? (i := 8) rfl))) Via.refl e0 S_BUY (g := (mkF m 1 #[.val (.ref a0), .val (.long q1), .second, .val (.long q2), .second] [(.ref a0)])) rfl (hb hby d2_1)
  have pre2 : ∀ t, Steps p.tables e below (T1.setTop (mkF m 4 #[.val (.ref a0), .val (.long q1), .second, .val (.long q2), .second] [(.ref w_BUY), (.ref a0)])) t → Steps p.tables e below (s₁.setTop (entryFrame m #[(.ref a0), (.long q1), (.long q2)] 5)) t := by
    intro t k
    refine pre0 _ ?_
    show Steps p.tables e below (s₁.setTop (mkF m 0 #[.val (.ref a0), .val (.long q1), .second, .val (.long q2), .second] [])) _
    refine XS.aloadN X0.here hx rfl (hb hby d2_0) rfl rfl ?_
    show Steps p.tables e below (s₁.setTop (mkF m 1 #[.val (.ref a0), .val (.long q1), .second, .val (.long q2), .second] [(.ref a0)])) _
    refine st1 _ ?_
    exact k
  by_cases hc3 : a0 = w_BUY
  ·
    have pre4 : ∀ t, Steps p.tables e below (T1.setTop (mkF m 10 #[.val (.ref a0), .val (.long q1), .second, .val (.long q2), .second] [(.int (lcmpW q2 q1))])) t → Steps p.tables e below (s₁.setTop (entryFrame m #[(.ref a0), (.long q1), (.long q2)] 5)) t := by
      intro t k
      refine pre2 _ ?_
      show Steps p.tables e below (T1.setTop (mkF m 4 #[.val (.ref a0), .val (.long q1), .second, .val (.long q2), .second] [(.ref w_BUY), (.ref a0)])) _
      refine Jvm.RoadKit.acmp (g := (mkF m 4 #[.val (.ref a0), .val (.long q1), .second, .val (.long q2), .second] [(.ref w_BUY), (.ref a0)])) X1 hx rfl rfl rfl (pc0 := 4) (pc' := 7) (same := true) rfl (hb hby d2_4) rfl (decide_eq_true (congrArg Value.ref hc3)) (by decide) (by decide) ?_
      show Steps p.tables e below (T1.setTop (mkF m 7 #[.val (.ref a0), .val (.long q1), .second, .val (.long q2), .second] [])) _
      refine XS.lloadN X1.here hx rfl (hb hby d2_7) rfl ?_
      show Steps p.tables e below (T1.setTop (mkF m 8 #[.val (.ref a0), .val (.long q1), .second, .val (.long q2), .second] [(.long q2)])) _
      refine XS.lloadN X1.here hx rfl (hb hby d2_8) rfl ?_
      show Steps p.tables e below (T1.setTop (mkF m 9 #[.val (.ref a0), .val (.long q1), .second, .val (.long q2), .second] [(.long q1), (.long q2)])) _
      refine XS.lcmp X1.here hx rfl (hb hby d2_9) rfl ?_
      exact k
    by_cases hc5 : (0 : Int32) < (lcmpW q2 q1)
    ·
      have hv : (some (.int r) : Option Value) = some (.int (0 : Int32)) := by rw [hre]; unfold v2; rw [if_pos hc3, if_pos hc5]
      rw [hv]
      obtain ⟨fs, hr, hrun, hended, hW, hsame⟩ := X1.leave (v := some (.int (0 : Int32))) (fun h => by rw [Bd.returns] at h; cases h)
      refine ⟨_, _, pre4 _ ?_, hrun, hended, _, _, rfl, ?_, ⟨_, rfl⟩, hW, hsame.mono (by decide) (by decide)⟩
      · show Steps p.tables e below (T1.setTop (mkF m 10 #[.val (.ref a0), .val (.long q1), .second, .val (.long q2), .second] [(.int (lcmpW q2 q1))])) _
        refine XS.ifYes X1.here hx rfl (pc0 := 10) (pc' := 17) rfl (hb hby d2_10) rfl ((if0 _ _).trans (tlt hc5).2.2.1) (by decide) (by decide) ?_
        show Steps p.tables e below (T1.setTop (mkF m 17 #[.val (.ref a0), .val (.long q1), .second, .val (.long q2), .second] [])) _
        refine XS.iconst X1.here hx rfl (hb hby d2_17) ?_
        show Steps p.tables e below (T1.setTop (mkF m 18 #[.val (.ref a0), .val (.long q1), .second, .val (.long q2), .second] [(.int (0 : Int32))])) _
        refine XS.goto X1.here hx rfl (pc0 := 18) (pc' := 32) rfl (hb hby d2_18) (by decide) (by decide) ?_
        show Steps p.tables e below (T1.setTop (mkF m 32 #[.val (.ref a0), .val (.long q1), .second, .val (.long q2), .second] [(.int (0 : Int32))])) _
        exact retN X1 hx (t := .boolean) Bd.returns (by simp) (hb hby d2_32) hr
      · show Qp (some (.int (0 : Int32))) h0 n0 _ T1.heap _
        rw [e1]
        exact ⟨rfl, N0, rfl⟩
    ·
      have hv : (some (.int r) : Option Value) = some (.int (1 : Int32)) := by rw [hre]; unfold v2; rw [if_pos hc3, if_neg hc5]
      rw [hv]
      obtain ⟨fs, hr, hrun, hended, hW, hsame⟩ := X1.leave (v := some (.int (1 : Int32))) (fun h => by rw [Bd.returns] at h; cases h)
      refine ⟨_, _, pre4 _ ?_, hrun, hended, _, _, rfl, ?_, ⟨_, rfl⟩, hW, hsame.mono (by decide) (by decide)⟩
      · show Steps p.tables e below (T1.setTop (mkF m 10 #[.val (.ref a0), .val (.long q1), .second, .val (.long q2), .second] [(.int (lcmpW q2 q1))])) _
        refine XS.ifNo X1.here hx rfl (hb hby d2_10) rfl ((if0 _ _).trans (flt hc5).2.2.1) ?_
        show Steps p.tables e below (T1.setTop (mkF m 13 #[.val (.ref a0), .val (.long q1), .second, .val (.long q2), .second] [])) _
        refine XS.iconst X1.here hx rfl (hb hby d2_13) ?_
        show Steps p.tables e below (T1.setTop (mkF m 14 #[.val (.ref a0), .val (.long q1), .second, .val (.long q2), .second] [(.int (1 : Int32))])) _
        refine XS.goto X1.here hx rfl (pc0 := 14) (pc' := 32) rfl (hb hby d2_14) (by decide) (by decide) ?_
        show Steps p.tables e below (T1.setTop (mkF m 32 #[.val (.ref a0), .val (.long q1), .second, .val (.long q2), .second] [(.int (1 : Int32))])) _
        exact retN X1 hx (t := .boolean) Bd.returns (by simp) (hb hby d2_32) hr
      · show Qp (some (.int (1 : Int32))) h0 n0 _ T1.heap _
        rw [e1]
        exact ⟨rfl, N0, rfl⟩
  ·
    have pre6 : ∀ t, Steps p.tables e below (T1.setTop (mkF m 24 #[.val (.ref a0), .val (.long q1), .second, .val (.long q2), .second] [(.int (lcmpW q2 q1))])) t → Steps p.tables e below (s₁.setTop (entryFrame m #[(.ref a0), (.long q1), (.long q2)] 5)) t := by
      intro t k
      refine pre2 _ ?_
      show Steps p.tables e below (T1.setTop (mkF m 4 #[.val (.ref a0), .val (.long q1), .second, .val (.long q2), .second] [(.ref w_BUY), (.ref a0)])) _
      refine Jvm.RoadKit.acmp (g := (mkF m 4 #[.val (.ref a0), .val (.long q1), .second, .val (.long q2), .second] [(.ref w_BUY), (.ref a0)])) X1 hx rfl rfl rfl (pc0 := 4) (pc' := 21) (same := false) rfl (hb hby d2_4) rfl (decide_eq_false (fun q => hc3 (Value.ref.inj q))) (by decide) (by decide) ?_
      show Steps p.tables e below (T1.setTop (mkF m 21 #[.val (.ref a0), .val (.long q1), .second, .val (.long q2), .second] [])) _
      refine XS.lloadN X1.here hx rfl (hb hby d2_21) rfl ?_
      show Steps p.tables e below (T1.setTop (mkF m 22 #[.val (.ref a0), .val (.long q1), .second, .val (.long q2), .second] [(.long q2)])) _
      refine XS.lloadN X1.here hx rfl (hb hby d2_22) rfl ?_
      show Steps p.tables e below (T1.setTop (mkF m 23 #[.val (.ref a0), .val (.long q1), .second, .val (.long q2), .second] [(.long q1), (.long q2)])) _
      refine XS.lcmp X1.here hx rfl (hb hby d2_23) rfl ?_
      exact k
    by_cases hc7 : (lcmpW q2 q1) < (0 : Int32)
    ·
      have hv : (some (.int r) : Option Value) = some (.int (0 : Int32)) := by rw [hre]; unfold v2; rw [if_neg hc3, if_pos hc7]
      rw [hv]
      obtain ⟨fs, hr, hrun, hended, hW, hsame⟩ := X1.leave (v := some (.int (0 : Int32))) (fun h => by rw [Bd.returns] at h; cases h)
      refine ⟨_, _, pre6 _ ?_, hrun, hended, _, _, rfl, ?_, ⟨_, rfl⟩, hW, hsame.mono (by decide) (by decide)⟩
      · show Steps p.tables e below (T1.setTop (mkF m 24 #[.val (.ref a0), .val (.long q1), .second, .val (.long q2), .second] [(.int (lcmpW q2 q1))])) _
        refine XS.ifYes X1.here hx rfl (pc0 := 24) (pc' := 31) rfl (hb hby d2_24) rfl ((if0 _ _).trans (tlt hc7).1) (by decide) (by decide) ?_
        show Steps p.tables e below (T1.setTop (mkF m 31 #[.val (.ref a0), .val (.long q1), .second, .val (.long q2), .second] [])) _
        refine XS.iconst X1.here hx rfl (hb hby d2_31) ?_
        show Steps p.tables e below (T1.setTop (mkF m 32 #[.val (.ref a0), .val (.long q1), .second, .val (.long q2), .second] [(.int (0 : Int32))])) _
        exact retN X1 hx (t := .boolean) Bd.returns (by simp) (hb hby d2_32) hr
      · show Qp (some (.int (0 : Int32))) h0 n0 _ T1.heap _
        rw [e1]
        exact ⟨rfl, N0, rfl⟩
    ·
      have hv : (some (.int r) : Option Value) = some (.int (1 : Int32)) := by rw [hre]; unfold v2; rw [if_neg hc3, if_neg hc7]
      rw [hv]
      obtain ⟨fs, hr, hrun, hended, hW, hsame⟩ := X1.leave (v := some (.int (1 : Int32))) (fun h => by rw [Bd.returns] at h; cases h)
      refine ⟨_, _, pre6 _ ?_, hrun, hended, _, _, rfl, ?_, ⟨_, rfl⟩, hW, hsame.mono (by decide) (by decide)⟩
      · show Steps p.tables e below (T1.setTop (mkF m 24 #[.val (.ref a0), .val (.long q1), .second, .val (.long q2), .second] [(.int (lcmpW q2 q1))])) _
        refine XS.ifNo X1.here hx rfl (hb hby d2_24) rfl ((if0 _ _).trans (flt hc7).1) ?_
        show Steps p.tables e below (T1.setTop (mkF m 27 #[.val (.ref a0), .val (.long q1), .second, .val (.long q2), .second] [])) _
        refine XS.iconst X1.here hx rfl (hb hby d2_27) ?_
        show Steps p.tables e below (T1.setTop (mkF m 28 #[.val (.ref a0), .val (.long q1), .second, .val (.long q2), .second] [(.int (1 : Int32))])) _
        refine XS.goto X1.here hx rfl (pc0 := 28) (pc' := 32) rfl (hb hby d2_28) (by decide) (by decide) ?_
        show Steps p.tables e below (T1.setTop (mkF m 32 #[.val (.ref a0), .val (.long q1), .second, .val (.long q2), .second] [(.int (1 : Int32))])) _
        exact retN X1 hx (t := .boolean) Bd.returns (by simp) (hb hby d2_32) hr
      · show Qp (some (.int (1 : Int32))) h0 n0 _ T1.heap _
        rw [e1]
        exact ⟨rfl, N0, rfl⟩

theorem d3_0 : decode prog_47_method_5_code 0 = .ok (.aload_n 0, 1) := by decide +kernel
theorem d3_1 : decode prog_47_method_5_code 1 = .ok (.getstatic 3, 3) := by decide +kernel
theorem d3_4 : decode prog_47_method_5_code 4 = .ok (.if_acmp .ne 9, 3) := by decide +kernel
theorem d3_7 : decode prog_47_method_5_code 7 = .ok (.ldc2_w 31, 3) := by decide +kernel
theorem d3_10 : decode prog_47_method_5_code 10 = .ok (.goto 4, 3) := by decide +kernel
theorem d3_13 : decode prog_47_method_5_code 13 = .ok (.lconst 0, 1) := by decide +kernel
theorem d3_14 : decode prog_47_method_5_code 14 = .ok (.lreturn, 1) := by decide +kernel
theorem pn_3 : plainName "com/example/orderwarden/orderwarden/Side" = true := by first | (simp [plainName, overriddenIn]; done) | decide +kernel
theorem ef_3 (m : MethodId) (a0 : Addr) : entryFrame m #[(.ref a0)] 1 = mkF m 0 #[.val (.ref a0)] [] := by first | (simp [entryFrame, mkF, argsToLocals, Value.category]; done) | rfl
def v3 (a0 : Addr) (w_BUY : Addr) (w_SELL : Addr)  : Int64 := if a0 = w_BUY then (9223372036854775807 : Int64) else (0 : Int64)
set_option maxRecDepth 65536 in
set_option maxHeartbeats 40000000 in
theorem rm3 (l : Launch) (Z : State) (ar0 : Array Value) (hw : ∀ d ∈ tables_1, d.before ar0 Z = true) (ws : List Jvm.Cond) (a0 : Addr) (w_BUY : Addr) (w_SELL : Addr) (h0 : Heap) (n0 : Nat) (Z0 : n0 ≤ h0.size) (F : Fx Z h0 w_BUY w_SELL)  (r : Int64) (hre : r = v3 a0 w_BUY w_SELL) :
    MetFree l (⟨"com/example/orderwarden/orderwarden/Side", "loosestLimit", "()J"⟩ : MethodName) (head1 ((Jvm.Cond.code (⟨"com/example/orderwarden/orderwarden/Side", "loosestLimit", "()J"⟩ : MethodName) prog_47_method_5_code 1 (some .long)) :: ws) ({ frames := 0, cells := 0, slots := 0, locals := 0 } : Room)) (fun a U => a = #[(.ref a0)] ∧ Z.Warmed39 U.vm ∧ U.heap = h0) (fun _ _ _ _ _ => True) (fun _ U o U' => ∃ v L, o = .returned v ∧ Qp (some (.long r)) h0 n0 v U'.heap L ∧ FrameEnd U o U' L ({ frames := 0, cells := 0, slots := 0, locals := 0 } : Room).cells ({ frames := 0, cells := 0, slots := 0, locals := 0 } : Room).slots) := by
  obtain ⟨S_BUY, E_BUY, S_SELL, E_SELL, F_ordinal_SELL, F_ordinal_BUY⟩ := id F
  refine MetFree.of_bodySF (plainFor_of_name pn_3) hisR ?_
  intro p e s m args below meth c s₁ Bd hml0 hP hK
  obtain ⟨rfl, hZ, hh⟩ := hP
  have hx := Bd.exec
  have hby := Bd.bytes
  have hml : c.maxLocals = 1 := hml0
  have hown : s.vm.findClass "com/example/orderwarden/orderwarden/Side" = some m.cls := findClass_of_methodNamed Bd.named
  have X0 : Stand p l e ({ frames := 0, cells := 0, slots := 0, locals := 0 } : Room) s m #[(.ref a0)] below meth c s₁ [] 0 0 := Stand.of_body Bd
  have e0 : s₁.heap = h0 := by rw [← hh, Bd.state]; rfl
  have N0 := Fr.nil n0
  have pre0 : ∀ t, Steps p.tables e below (s₁.setTop (mkF m 0 #[.val (.ref a0)] [])) t → Steps p.tables e below (s₁.setTop (entryFrame m #[(.ref a0)] 1)) t := fun t k => castTop (ef_3 m a0) k
  obtain ⟨T1, X1, e1, st1⟩ := getS2 X0 hx hZ hown (host := "") (Or.inl (hw _ (List.mem_of_getElem? (i := 8) rfl))) Via.refl e0 S_BUY (g := (mkF m 1 #[.val (.ref a0)] [(.ref a0)])) rfl (hb hby d3_1)
  have pre2 : ∀ t, Steps p.tables e below (T1.setTop (mkF m 4 #[.val (.ref a0)] [(.ref w_BUY), (.ref a0)])) t → Steps p.tables e below (s₁.setTop (entryFrame m #[(.ref a0)] 1)) t := by
    intro t k
    refine pre0 _ ?_
    show Steps p.tables e below (s₁.setTop (mkF m 0 #[.val (.ref a0)] [])) _
    refine XS.aloadN X0.here hx rfl (hb hby d3_0) rfl rfl ?_
    show Steps p.tables e below (s₁.setTop (mkF m 1 #[.val (.ref a0)] [(.ref a0)])) _
    refine st1 _ ?_
    exact k
  by_cases hc3 : a0 = w_BUY
  ·
    have hv : (some (.long r) : Option Value) = some (.long (9223372036854775807 : Int64)) := by rw [hre]; unfold v3; rw [if_pos hc3]
    rw [hv]
    obtain ⟨fs, hr, hrun, hended, hW, hsame⟩ := X1.leave (v := some (.long (9223372036854775807 : Int64))) (fun h => by rw [Bd.returns] at h; cases h)
    refine ⟨_, _, pre2 _ ?_, hrun, hended, _, _, rfl, ?_, ⟨_, rfl⟩, hW, hsame.mono (by decide) (by decide)⟩
    · show Steps p.tables e below (T1.setTop (mkF m 4 #[.val (.ref a0)] [(.ref w_BUY), (.ref a0)])) _
      refine Jvm.RoadKit.acmp (g := (mkF m 4 #[.val (.ref a0)] [(.ref w_BUY), (.ref a0)])) X1 hx rfl rfl rfl (pc0 := 4) (pc' := 7) (same := true) rfl (hb hby d3_4) rfl (decide_eq_true (congrArg Value.ref hc3)) (by decide) (by decide) ?_
      show Steps p.tables e below (T1.setTop (mkF m 7 #[.val (.ref a0)] [])) _
      refine X1.ldc2Long hx hown (mvT hZ (hw _ (List.mem_of_getElem? (i := 22) rfl))) (g := (mkF m 7 #[.val (.ref a0)] [])) rfl (hb hby d3_7) _ ?_
      show Steps p.tables e below (T1.setTop (mkF m 10 #[.val (.ref a0)] [(.long (9223372036854775807 : Int64))])) _
      refine XS.goto X1.here hx rfl (pc0 := 10) (pc' := 14) rfl (hb hby d3_10) (by decide) (by decide) ?_
      show Steps p.tables e below (T1.setTop (mkF m 14 #[.val (.ref a0)] [(.long (9223372036854775807 : Int64))])) _
      exact X1.lreturnOut hx Bd.returns (hb hby d3_14) hr
    · show Qp (some (.long (9223372036854775807 : Int64))) h0 n0 _ T1.heap _
      rw [e1]
      exact ⟨rfl, N0, rfl⟩
  ·
    have hv : (some (.long r) : Option Value) = some (.long (0 : Int64)) := by rw [hre]; unfold v3; rw [if_neg hc3]
    rw [hv]
    obtain ⟨fs, hr, hrun, hended, hW, hsame⟩ := X1.leave (v := some (.long (0 : Int64))) (fun h => by rw [Bd.returns] at h; cases h)
    refine ⟨_, _, pre2 _ ?_, hrun, hended, _, _, rfl, ?_, ⟨_, rfl⟩, hW, hsame.mono (by decide) (by decide)⟩
    · show Steps p.tables e below (T1.setTop (mkF m 4 #[.val (.ref a0)] [(.ref w_BUY), (.ref a0)])) _
      refine Jvm.RoadKit.acmp (g := (mkF m 4 #[.val (.ref a0)] [(.ref w_BUY), (.ref a0)])) X1 hx rfl rfl rfl (pc0 := 4) (pc' := 13) (same := false) rfl (hb hby d3_4) rfl (decide_eq_false (fun q => hc3 (Value.ref.inj q))) (by decide) (by decide) ?_
      show Steps p.tables e below (T1.setTop (mkF m 13 #[.val (.ref a0)] [])) _
      refine XS.lconst X1.here hx rfl (hb hby d3_13) ?_
      show Steps p.tables e below (T1.setTop (mkF m 14 #[.val (.ref a0)] [(.long (0 : Int64))])) _
      exact X1.lreturnOut hx Bd.returns (hb hby d3_14) hr
    · show Qp (some (.long (0 : Int64))) h0 n0 _ T1.heap _
      rw [e1]
      exact ⟨rfl, N0, rfl⟩

theorem own_buy {w_BUY w_SELL : Addr} {l p : Int64} (h : p ≤ l) : (1 : Int32) = v2 w_BUY l p w_BUY w_SELL := by
  unfold v2
  rw [if_pos rfl, if_neg (by rw [lcW, lc_gt]; exact Int64.not_lt.mpr h)]
theorem own_buy0 {w_BUY w_SELL : Addr} {l p : Int64} (h : l < p) : (0 : Int32) = v2 w_BUY l p w_BUY w_SELL := by
  unfold v2
  rw [if_pos rfl, if_pos (by rw [lcW, lc_gt]; exact h)]
theorem own_sell {w_BUY w_SELL : Addr} {l p : Int64} (hn : w_SELL ≠ w_BUY) (h : l ≤ p) : (1 : Int32) = v2 w_SELL l p w_BUY w_SELL := by
  unfold v2
  rw [if_neg hn, if_neg (by rw [lcW, lc_lt]; exact Int64.not_lt.mpr h)]
theorem own_sell0 {w_BUY w_SELL : Addr} {l p : Int64} (hn : w_SELL ≠ w_BUY) (h : p < l) : (0 : Int32) = v2 w_SELL l p w_BUY w_SELL := by
  unfold v2
  rw [if_neg hn, if_pos (by rw [lcW, lc_lt]; exact h)]
theorem own_and (q : Int64) : (0 : Int64) ≤ (q &&& (9223372036854775807 : Int64)) ∧ (q &&& (9223372036854775807 : Int64)) ≤ (9223372036854775807 : Int64) := by
  have e := Jvm.Kit.i64_mask q 9223372036854775807 (k := 63) (by decide) (by decide)
  have a : (0 : Int64).toInt = 0 := by decide
  have b : (9223372036854775807 : Int64).toInt = 9223372036854775807 := by decide
  rw [Int64.le_iff_toInt_le, Int64.le_iff_toInt_le, a, b, e]
  omega
theorem own_gt {l p : Int64} (h1 : ¬ p < l) (h2 : ¬ p = l) : l < p := by
  rw [Int64.lt_iff_toInt_lt] at *
  rw [← Int64.toInt_inj] at h2
  omega
theorem own_le {l p : Int64} (h : l < p) : l ≤ p := by
  rw [Int64.lt_iff_toInt_lt] at h
  rw [Int64.le_iff_toInt_le]
  omega
theorem own_refl (l : Int64) : l ≤ l := by
  rw [Int64.le_iff_toInt_le]
  omega
theorem own_irr (l : Int64) : ¬ l < l := by
  rw [Int64.lt_iff_toInt_lt]
  omega
theorem own_ne {l p : Int64} (h : p < l) : ¬ p = l := fun e => by
  rw [e] at h
  exact own_irr l h

theorem pn_0 : plainName "com/example/orderwarden/orderwarden/SideAcceptsPinLaw" = true := by first | (simp [plainName, overriddenIn]; done) | decide +kernel
theorem pd_0_106 : parseMethodDescriptor "(JJ)Z" = some ⟨[.long, .long], some .boolean⟩ := by decide +kernel
theorem pd_0_116 : parseMethodDescriptor "(JJ)Z" = some ⟨[.long, .long], some .boolean⟩ := by decide +kernel
theorem pd_0_133 : parseMethodDescriptor "(JJ)Z" = some ⟨[.long, .long], some .boolean⟩ := by decide +kernel
theorem pd_0_178 : parseMethodDescriptor "()J" = some ⟨[], some .long⟩ := by decide +kernel
theorem pd_0_186 : parseMethodDescriptor "(JJ)Z" = some ⟨[.long, .long], some .boolean⟩ := by decide +kernel
theorem pd_0_20 : parseMethodDescriptor "()Lcom/example/orderwarden/orderwarden/Side;" = some ⟨[], some (.object "com/example/orderwarden/orderwarden/Side")⟩ := by decide +kernel
theorem pd_0_29 : parseMethodDescriptor "(JJ)Z" = some ⟨[.long, .long], some .boolean⟩ := by decide +kernel
theorem pd_0_38 : parseMethodDescriptor "(JJ)Z" = some ⟨[.long, .long], some .boolean⟩ := by decide +kernel
theorem ef_0 (m : MethodId) (q0 : Int64) (q1 : Int64) (p2 : Int32) : entryFrame m #[(.long q0), (.long q1), (.int p2)] maxLocals = mkF m 0 #[.val (.long q0), .second, .val (.long q1), .second, .val (.int p2), .unset, .unset, .unset, .unset, .unset, .unset, .unset] [] := by first | (simp [entryFrame, mkF, argsToLocals, Value.category, maxLocals]; done) | rfl
set_option maxRecDepth 65536 in
set_option maxHeartbeats 40000000 in
theorem rm0 (l : Launch) (Z : State) (ar0 : Array Value) (hw : ∀ d ∈ tables_1, d.before ar0 Z = true) (ws : List Jvm.Cond) (q0 : Int64) (q1 : Int64) (p2 : Int32) (w_BUY : Addr) (w_SELL : Addr) (h0 : Heap) (n0 : Nat) (Z0 : n0 ≤ h0.size) (F : Fx Z h0 w_BUY w_SELL)   :
    MetFree l x (head1 ((Jvm.Cond.code x code maxLocals ret) :: ws) room_1) (fun a U => a = #[(.long q0), (.long q1), (.int p2)] ∧ Z.Warmed39 U.vm ∧ U.heap = h0) (fun _ _ _ _ _ => True) (fun _ U o U' => ∃ v L, o = .returned v ∧ Qp (some (.int (1 : Int32))) h0 n0 v U'.heap L ∧ FrameEnd U o U' L room_1.cells room_1.slots) := by
  obtain ⟨S_BUY, E_BUY, S_SELL, E_SELL, F_ordinal_SELL, F_ordinal_BUY⟩ := id F
  refine MetFree.of_bodySF (plainFor_of_name pn_0) hisR ?_
  intro p e s m args below meth c s₁ Bd hml0 hP hK
  obtain ⟨rfl, hZ, hh⟩ := hP
  have hx := Bd.exec
  have hby := Bd.bytes
  have hml : c.maxLocals = 12 := hml0
  have hown : s.vm.findClass "com/example/orderwarden/orderwarden/SideAcceptsPinLaw" = some m.cls := findClass_of_methodNamed Bd.named
  have X0 : Stand p l e room_1 s m #[(.long q0), (.long q1), (.int p2)] below meth c s₁ [] 0 0 := Stand.of_body Bd
  have e0 : s₁.heap = h0 := by rw [← hh, Bd.state]; rfl
  have N0 := Fr.nil n0
  have pre0 : ∀ t, Steps p.tables e below (s₁.setTop (mkF m 0 #[.val (.long q0), .second, .val (.long q1), .second, .val (.int p2), .unset, .unset, .unset, .unset, .unset, .unset, .unset] [])) t → Steps p.tables e below (s₁.setTop (entryFrame m #[(.long q0), (.long q1), (.int p2)] maxLocals)) t := fun t k => castTop (ef_0 m q0 q1 p2) k
  have ne_BUY_SELL : w_BUY ≠ w_SELL := own_fld_ne F_ordinal_BUY F_ordinal_SELL (by decide)
  have ne_SELL_BUY := Ne.symm ne_BUY_SELL
  by_cases hs1 : q1 < q0
  ·
    have pre2 : ∀ t, Steps p.tables e below (s₁.setTop (mkF m 4 #[.val (.long q0), .second, .val (.long q1), .second, .val (.int p2), .unset, .unset, .unset, .unset, .unset, .unset, .unset] [(.int (p2 &&& (1 : Int32)))])) t → Steps p.tables e below (s₁.setTop (entryFrame m #[(.long q0), (.long q1), (.int p2)] maxLocals)) t := by
      intro t k
      refine pre0 _ ?_
      show Steps p.tables e below (s₁.setTop (mkF m 0 #[.val (.long q0), .second, .val (.long q1), .second, .val (.int p2), .unset, .unset, .unset, .unset, .unset, .unset, .unset] [])) _
      refine XS.iload X0.here hx rfl (hb hby at_0) rfl ?_
      show Steps p.tables e below (s₁.setTop (mkF m 2 #[.val (.long q0), .second, .val (.long q1), .second, .val (.int p2), .unset, .unset, .unset, .unset, .unset, .unset, .unset] [(.int p2)])) _
      refine XS.iconst X0.here hx rfl (hb hby at_2) ?_
      show Steps p.tables e below (s₁.setTop (mkF m 3 #[.val (.long q0), .second, .val (.long q1), .second, .val (.int p2), .unset, .unset, .unset, .unset, .unset, .unset, .unset] [(.int (1 : Int32)), (.int p2)])) _
      refine XS.iand X0.here hx rfl (hb hby at_3) rfl ?_
      exact k
    by_cases hc3 : (p2 &&& (1 : Int32)) = (0 : Int32)
    ·
      obtain ⟨T4, X4, e4, st4⟩ := getS2 X0 hx hZ hown (host := "") (Or.inl (hw _ (List.mem_of_getElem? (i := 0) rfl))) Via.refl e0 S_BUY (g := (mkF m 13 #[.val (.long q0), .second, .val (.long q1), .second, .val (.int p2), .unset, .unset, .unset, .unset, .unset, .unset, .unset] [])) rfl (hb hby at_13)
      have hr5 : w_SELL = v1 w_BUY w_BUY w_SELL := by unfold v1; rw [if_pos rfl]
      obtain ⟨cq5, kq5, q5a, q5b, q5c⟩ := isOf hZ e4 (show Exa Z h0 w_BUY "com/example/orderwarden/orderwarden/Side" from E_BUY)
      obtain ⟨_, _, ⟨T5, L5, k5, n5⟩, -, X5, ⟨Lc5, hQ5, l5, y5, z5⟩, st5⟩ := X4.virtualBack hx (y := (⟨"com/example/orderwarden/orderwarden/Side", "opposite", "()Lcom/example/orderwarden/orderwarden/Side;"⟩ : MethodName)) (z := (⟨"com/example/orderwarden/orderwarden/Side", "opposite", "()Lcom/example/orderwarden/orderwarden/Side;"⟩ : MethodName)) hown (mvT hZ (hw _ (List.mem_of_getElem? (i := 3) rfl))) (mvT hZ (hw _ (List.mem_of_getElem? (i := 4) rfl))) (notFace_of_selects (args := #[]) (mvT hZ (hw _ (List.mem_of_getElem? (i := 6) rfl)))) (mvT hZ (hw _ (List.mem_of_getElem? (i := 6) rfl))) (mvT hZ (hw _ (List.mem_of_getElem? (i := 5) rfl))) (by decide) (backOf (W := 0) (rm1 l Z ar0 hw [] w_BUY w_BUY w_SELL h0 n0 Z0 F  w_SELL hr5) hZ (hw _ (List.mem_of_getElem? (i := 7) rfl)) (hw _ (List.mem_of_getElem? (i := 1) rfl)) (by decide) (by decide)) q5a q5c (g := (mkF m 20 #[.val (.long q0), .second, .val (.long q1), .second, .val (.int p2), .val (.ref w_BUY), .unset, .unset, .unset, .unset, .unset, .unset] [(.ref w_BUY)])) rfl (by rw [hml]; rfl) (Steps.refl _) (argsL := []) (rest := []) (lenOf pd_0_20 rfl) rfl (by show 2 * 0 + _ ≤ _; exact Nat.le_of_eq rfl) (hb hby at_20) (fun _ _ => ⟨rfl, e4, (by decide : 0 + 0 ≤ _), (by decide : 0 + 0 ≤ _)⟩)
      dsimp only [Pt.U, Pt.locs, Pt.cells, Pt.slots] at X5 l5 y5 z5 st5 hQ5
      subst l5 y5 z5
      obtain ⟨rfl, N5q, e5⟩ := hQ5
      have N5 := Fr.app N0 N5q
      have hr6 : (1 : Int32) = v2 w_BUY q0 q1 w_BUY w_SELL := own_buy (own_le hs1)
      obtain ⟨cq6, kq6, q6a, q6b, q6c⟩ := isOf hZ e5 (show Exa Z h0 w_BUY "com/example/orderwarden/orderwarden/Side" from E_BUY)
      obtain ⟨_, _, ⟨T6, L6, k6, n6⟩, -, X6, ⟨Lc6, hQ6, l6, y6, z6⟩, st6⟩ := X5.virtualBack hx (y := (⟨"com/example/orderwarden/orderwarden/Side", "accepts", "(JJ)Z"⟩ : MethodName)) (z := (⟨"com/example/orderwarden/orderwarden/Side", "accepts", "(JJ)Z"⟩ : MethodName)) hown (mvT hZ (hw _ (List.mem_of_getElem? (i := 11) rfl))) (mvT hZ (hw _ (List.mem_of_getElem? (i := 12) rfl))) (notFace_of_selects (args := #[]) (mvT hZ (hw _ (List.mem_of_getElem? (i := 14) rfl)))) (mvT hZ (hw _ (List.mem_of_getElem? (i := 14) rfl))) (mvT hZ (hw _ (List.mem_of_getElem? (i := 13) rfl))) (by decide) (backOf (W := 0) (rm2 l Z ar0 hw [] w_BUY q0 q1 w_BUY w_SELL h0 n0 Z0 F  (1 : Int32) hr6) hZ (hw _ (List.mem_of_getElem? (i := 15) rfl)) (hw _ (List.mem_of_getElem? (i := 1) rfl)) (by decide) (by decide)) q6a q6c (g := (mkF m 29 #[.val (.long q0), .second, .val (.long q1), .second, .val (.int p2), .val (.ref w_BUY), .val (.ref w_SELL), .unset, .unset, .unset, .unset, .unset] [(.long q1), (.long q0), (.ref w_BUY)])) rfl (by rw [hml]; rfl) (Steps.refl _) (argsL := [(.long q0), (.long q1)]) (rest := []) (lenOf pd_0_29 rfl) rfl (by show 2 * 0 + _ ≤ _; exact Nat.le_of_eq rfl) (hb hby at_29) (fun _ _ => ⟨rfl, e5, (by decide : 0 + 0 ≤ _), (by decide : 0 + 0 ≤ _)⟩)
      dsimp only [Pt.U, Pt.locs, Pt.cells, Pt.slots] at X6 l6 y6 z6 st6 hQ6
      subst l6 y6 z6
      obtain ⟨rfl, N6q, e6⟩ := hQ6
      have N6 := Fr.app N5 N6q
      have hr7 : (0 : Int32) = v2 w_SELL q0 q1 w_BUY w_SELL := own_sell0 ne_SELL_BUY hs1
      obtain ⟨cq7, kq7, q7a, q7b, q7c⟩ := isOf hZ e6 (show Exa Z h0 w_SELL "com/example/orderwarden/orderwarden/Side" from E_SELL)
      obtain ⟨_, _, ⟨T7, L7, k7, n7⟩, -, X7, ⟨Lc7, hQ7, l7, y7, z7⟩, st7⟩ := X6.virtualBack hx (y := (⟨"com/example/orderwarden/orderwarden/Side", "accepts", "(JJ)Z"⟩ : MethodName)) (z := (⟨"com/example/orderwarden/orderwarden/Side", "accepts", "(JJ)Z"⟩ : MethodName)) hown (mvT hZ (hw _ (List.mem_of_getElem? (i := 11) rfl))) (mvT hZ (hw _ (List.mem_of_getElem? (i := 12) rfl))) (notFace_of_selects (args := #[]) (mvT hZ (hw _ (List.mem_of_getElem? (i := 14) rfl)))) (mvT hZ (hw _ (List.mem_of_getElem? (i := 14) rfl))) (mvT hZ (hw _ (List.mem_of_getElem? (i := 13) rfl))) (by decide) (backOf (W := 0) (rm2 l Z ar0 hw [] w_SELL q0 q1 w_BUY w_SELL h0 n0 Z0 F  (0 : Int32) hr7) hZ (hw _ (List.mem_of_getElem? (i := 15) rfl)) (hw _ (List.mem_of_getElem? (i := 1) rfl)) (by decide) (by decide)) q7a q7c (g := (mkF m 38 #[.val (.long q0), .second, .val (.long q1), .second, .val (.int p2), .val (.ref w_BUY), .val (.ref w_SELL), .val (.int (1 : Int32)), .unset, .unset, .unset, .unset] [(.long q1), (.long q0), (.ref w_SELL)])) rfl (by rw [hml]; rfl) (Steps.refl _) (argsL := [(.long q0), (.long q1)]) (rest := []) (lenOf pd_0_38 rfl) rfl (by show 2 * 0 + _ ≤ _; exact Nat.le_of_eq rfl) (hb hby at_38) (fun _ _ => ⟨rfl, e6, (by decide : 0 + 0 ≤ _), (by decide : 0 + 0 ≤ _)⟩)
      dsimp only [Pt.U, Pt.locs, Pt.cells, Pt.slots] at X7 l7 y7 z7 st7 hQ7
      subst l7 y7 z7
      obtain ⟨rfl, N7q, e7⟩ := hQ7
      have N7 := Fr.app N6 N7q
      have hk8 : ¬ ((lcmpW q1 q0) = (0 : Int32)) := by rw [lcW, lc_eq]; exact own_ne hs1
      obtain ⟨T9, X9, e9, st9⟩ := getS2 X7 hx hZ hown (host := "") (Or.inl (hw _ (List.mem_of_getElem? (i := 0) rfl))) Via.refl e7 S_BUY (g := (mkF m 101 #[.val (.long q0), .second, .val (.long q1), .second, .val (.int p2), .val (.ref w_BUY), .val (.ref w_SELL), .val (.int (1 : Int32)), .val (.int (0 : Int32)), .val (.int (1 : Int32)), .unset, .unset] [])) rfl (hb hby at_101)
      have hr10 : (1 : Int32) = v2 w_BUY q0 q1 w_BUY w_SELL := own_buy (own_le hs1)
      obtain ⟨cq10, kq10, q10a, q10b, q10c⟩ := isOf hZ e9 (show Exa Z h0 w_BUY "com/example/orderwarden/orderwarden/Side" from E_BUY)
      obtain ⟨_, _, ⟨T10, L10, k10, n10⟩, -, X10, ⟨Lc10, hQ10, l10, y10, z10⟩, st10⟩ := X9.virtualBack hx (y := (⟨"com/example/orderwarden/orderwarden/Side", "accepts", "(JJ)Z"⟩ : MethodName)) (z := (⟨"com/example/orderwarden/orderwarden/Side", "accepts", "(JJ)Z"⟩ : MethodName)) hown (mvT hZ (hw _ (List.mem_of_getElem? (i := 11) rfl))) (mvT hZ (hw _ (List.mem_of_getElem? (i := 12) rfl))) (notFace_of_selects (args := #[]) (mvT hZ (hw _ (List.mem_of_getElem? (i := 14) rfl)))) (mvT hZ (hw _ (List.mem_of_getElem? (i := 14) rfl))) (mvT hZ (hw _ (List.mem_of_getElem? (i := 13) rfl))) (by decide) (backOf (W := 0) (rm2 l Z ar0 hw [] w_BUY q0 q1 w_BUY w_SELL h0 n0 Z0 F  (1 : Int32) hr10) hZ (hw _ (List.mem_of_getElem? (i := 15) rfl)) (hw _ (List.mem_of_getElem? (i := 1) rfl)) (by decide) (by decide)) q10a q10c (g := (mkF m 106 #[.val (.long q0), .second, .val (.long q1), .second, .val (.int p2), .val (.ref w_BUY), .val (.ref w_SELL), .val (.int (1 : Int32)), .val (.int (0 : Int32)), .val (.int (1 : Int32)), .unset, .unset] [(.long q1), (.long q0), (.ref w_BUY)])) rfl (by rw [hml]; rfl) (Steps.refl _) (argsL := [(.long q0), (.long q1)]) (rest := []) (lenOf pd_0_106 rfl) rfl (by show 2 * 0 + _ ≤ _; exact Nat.le_of_eq rfl) (hb hby at_106) (fun _ _ => ⟨rfl, e9, (by decide : 0 + 0 ≤ _), (by decide : 0 + 0 ≤ _)⟩)
      dsimp only [Pt.U, Pt.locs, Pt.cells, Pt.slots] at X10 l10 y10 z10 st10 hQ10
      subst l10 y10 z10
      obtain ⟨rfl, N10q, e10⟩ := hQ10
      have N10 := Fr.app N7 N10q
      obtain ⟨T11, X11, e11, st11⟩ := getS2 X10 hx hZ hown (host := "") (Or.inl (hw _ (List.mem_of_getElem? (i := 16) rfl))) Via.refl e10 S_SELL (g := (mkF m 111 #[.val (.long q0), .second, .val (.long q1), .second, .val (.int p2), .val (.ref w_BUY), .val (.ref w_SELL), .val (.int (1 : Int32)), .val (.int (0 : Int32)), .val (.int (1 : Int32)), .val (.int (1 : Int32)), .unset] [])) rfl (hb hby at_111)
      have hr12 : (0 : Int32) = v2 w_SELL q0 q1 w_BUY w_SELL := own_sell0 ne_SELL_BUY hs1
      obtain ⟨cq12, kq12, q12a, q12b, q12c⟩ := isOf hZ e11 (show Exa Z h0 w_SELL "com/example/orderwarden/orderwarden/Side" from E_SELL)
      obtain ⟨_, _, ⟨T12, L12, k12, n12⟩, -, X12, ⟨Lc12, hQ12, l12, y12, z12⟩, st12⟩ := X11.virtualBack hx (y := (⟨"com/example/orderwarden/orderwarden/Side", "accepts", "(JJ)Z"⟩ : MethodName)) (z := (⟨"com/example/orderwarden/orderwarden/Side", "accepts", "(JJ)Z"⟩ : MethodName)) hown (mvT hZ (hw _ (List.mem_of_getElem? (i := 11) rfl))) (mvT hZ (hw _ (List.mem_of_getElem? (i := 12) rfl))) (notFace_of_selects (args := #[]) (mvT hZ (hw _ (List.mem_of_getElem? (i := 14) rfl)))) (mvT hZ (hw _ (List.mem_of_getElem? (i := 14) rfl))) (mvT hZ (hw _ (List.mem_of_getElem? (i := 13) rfl))) (by decide) (backOf (W := 0) (rm2 l Z ar0 hw [] w_SELL q0 q1 w_BUY w_SELL h0 n0 Z0 F  (0 : Int32) hr12) hZ (hw _ (List.mem_of_getElem? (i := 15) rfl)) (hw _ (List.mem_of_getElem? (i := 1) rfl)) (by decide) (by decide)) q12a q12c (g := (mkF m 116 #[.val (.long q0), .second, .val (.long q1), .second, .val (.int p2), .val (.ref w_BUY), .val (.ref w_SELL), .val (.int (1 : Int32)), .val (.int (0 : Int32)), .val (.int (1 : Int32)), .val (.int (1 : Int32)), .unset] [(.long q1), (.long q0), (.ref w_SELL)])) rfl (by rw [hml]; rfl) (Steps.refl _) (argsL := [(.long q0), (.long q1)]) (rest := []) (lenOf pd_0_116 rfl) rfl (by show 2 * 0 + _ ≤ _; exact Nat.le_of_eq rfl) (hb hby at_116) (fun _ _ => ⟨rfl, e11, (by decide : 0 + 0 ≤ _), (by decide : 0 + 0 ≤ _)⟩)
      dsimp only [Pt.U, Pt.locs, Pt.cells, Pt.slots] at X12 l12 y12 z12 st12 hQ12
      subst l12 y12 z12
      obtain ⟨rfl, N12q, e12⟩ := hQ12
      have N12 := Fr.app N10 N12q
      obtain ⟨T13, X13, e13, st13⟩ := getS2 X12 hx hZ hown (host := "") (Or.inl (hw _ (List.mem_of_getElem? (i := 0) rfl))) Via.refl e12 S_BUY (g := (mkF m 128 #[.val (.long q0), .second, .val (.long q1), .second, .val (.int p2), .val (.ref w_BUY), .val (.ref w_SELL), .val (.int (1 : Int32)), .val (.int (0 : Int32)), .val (.int (1 : Int32)), .val (.int (1 : Int32)), .val (.int (0 : Int32))] [(.int (0 : Int32))])) rfl (hb hby at_128)
      have hr14 : (0 : Int32) = v2 w_BUY q1 q0 w_BUY w_SELL := own_buy0 hs1
      obtain ⟨cq14, kq14, q14a, q14b, q14c⟩ := isOf hZ e13 (show Exa Z h0 w_BUY "com/example/orderwarden/orderwarden/Side" from E_BUY)
      obtain ⟨_, _, ⟨T14, L14, k14, n14⟩, -, X14, ⟨Lc14, hQ14, l14, y14, z14⟩, st14⟩ := X13.virtualBack hx (y := (⟨"com/example/orderwarden/orderwarden/Side", "accepts", "(JJ)Z"⟩ : MethodName)) (z := (⟨"com/example/orderwarden/orderwarden/Side", "accepts", "(JJ)Z"⟩ : MethodName)) hown (mvT hZ (hw _ (List.mem_of_getElem? (i := 11) rfl))) (mvT hZ (hw _ (List.mem_of_getElem? (i := 12) rfl))) (notFace_of_selects (args := #[]) (mvT hZ (hw _ (List.mem_of_getElem? (i := 14) rfl)))) (mvT hZ (hw _ (List.mem_of_getElem? (i := 14) rfl))) (mvT hZ (hw _ (List.mem_of_getElem? (i := 13) rfl))) (by decide) (backOf (W := 1) (rm2 l Z ar0 hw [] w_BUY q1 q0 w_BUY w_SELL h0 n0 Z0 F  (0 : Int32) hr14) hZ (hw _ (List.mem_of_getElem? (i := 15) rfl)) (hw _ (List.mem_of_getElem? (i := 1) rfl)) (by decide) (by decide)) q14a q14c (g := (mkF m 133 #[.val (.long q0), .second, .val (.long q1), .second, .val (.int p2), .val (.ref w_BUY), .val (.ref w_SELL), .val (.int (1 : Int32)), .val (.int (0 : Int32)), .val (.int (1 : Int32)), .val (.int (1 : Int32)), .val (.int (0 : Int32))] [(.long q0), (.long q1), (.ref w_BUY), (.int (0 : Int32))])) rfl (by rw [hml]; rfl) (Steps.refl _) (argsL := [(.long q1), (.long q0)]) (rest := [(.int (0 : Int32))]) (lenOf pd_0_133 rfl) rfl (by show 2 * 0 + _ ≤ _; exact Nat.le_of_eq rfl) (hb hby at_133) (fun _ _ => ⟨rfl, e13, (by decide : 0 + 0 ≤ _), (by decide : 0 + 0 ≤ _)⟩)
      dsimp only [Pt.U, Pt.locs, Pt.cells, Pt.slots] at X14 l14 y14 z14 st14 hQ14
      subst l14 y14 z14
      obtain ⟨rfl, N14q, e14⟩ := hQ14
      have N14 := Fr.app N12 N14q
      have hk15 : (lcmpW q1 q0) < (0 : Int32) := by rw [lcW, lc_lt]; exact hs1
      have hr16 : (9223372036854775807 : Int64) = v3 w_BUY w_BUY w_SELL := by unfold v3; rw [if_pos rfl]
      obtain ⟨cq16, kq16, q16a, q16b, q16c⟩ := isOf hZ e14 (show Exa Z h0 w_BUY "com/example/orderwarden/orderwarden/Side" from E_BUY)
      obtain ⟨_, _, ⟨T16, L16, k16, n16⟩, -, X16, ⟨Lc16, hQ16, l16, y16, z16⟩, st16⟩ := X14.virtualBack hx (y := (⟨"com/example/orderwarden/orderwarden/Side", "loosestLimit", "()J"⟩ : MethodName)) (z := (⟨"com/example/orderwarden/orderwarden/Side", "loosestLimit", "()J"⟩ : MethodName)) hown (mvT hZ (hw _ (List.mem_of_getElem? (i := 17) rfl))) (mvT hZ (hw _ (List.mem_of_getElem? (i := 18) rfl))) (notFace_of_selects (args := #[]) (mvT hZ (hw _ (List.mem_of_getElem? (i := 20) rfl)))) (mvT hZ (hw _ (List.mem_of_getElem? (i := 20) rfl))) (mvT hZ (hw _ (List.mem_of_getElem? (i := 19) rfl))) (by decide) (backOf (W := 1) (rm3 l Z ar0 hw [] w_BUY w_BUY w_SELL h0 n0 Z0 F  (9223372036854775807 : Int64) hr16) hZ (hw _ (List.mem_of_getElem? (i := 21) rfl)) (hw _ (List.mem_of_getElem? (i := 1) rfl)) (by decide) (by decide)) q16a q16c (g := (mkF m 178 #[.val (.long q0), .second, .val (.long q1), .second, .val (.int p2), .val (.ref w_BUY), .val (.ref w_SELL), .val (.int (1 : Int32)), .val (.int (0 : Int32)), .val (.int (1 : Int32)), .val (.int (1 : Int32)), .val (.int (0 : Int32))] [(.ref w_BUY), (.ref w_BUY)])) rfl (by rw [hml]; rfl) (Steps.refl _) (argsL := []) (rest := [(.ref w_BUY)]) (lenOf pd_0_178 rfl) rfl (by show 2 * 0 + _ ≤ _; exact Nat.le_of_eq rfl) (hb hby at_178) (fun _ _ => ⟨rfl, e14, (by decide : 0 + 0 ≤ _), (by decide : 0 + 0 ≤ _)⟩)
      dsimp only [Pt.U, Pt.locs, Pt.cells, Pt.slots] at X16 l16 y16 z16 st16 hQ16
      subst l16 y16 z16
      obtain ⟨rfl, N16q, e16⟩ := hQ16
      have N16 := Fr.app N14 N16q
      have hr17 : (1 : Int32) = v2 w_BUY (9223372036854775807 : Int64) (q1 &&& (9223372036854775807 : Int64)) w_BUY w_SELL := own_buy (own_and _).2
      obtain ⟨cq17, kq17, q17a, q17b, q17c⟩ := isOf hZ e16 (show Exa Z h0 w_BUY "com/example/orderwarden/orderwarden/Side" from E_BUY)
      obtain ⟨_, _, ⟨T17, L17, k17, n17⟩, -, X17, ⟨Lc17, hQ17, l17, y17, z17⟩, st17⟩ := X16.virtualBack hx (y := (⟨"com/example/orderwarden/orderwarden/Side", "accepts", "(JJ)Z"⟩ : MethodName)) (z := (⟨"com/example/orderwarden/orderwarden/Side", "accepts", "(JJ)Z"⟩ : MethodName)) hown (mvT hZ (hw _ (List.mem_of_getElem? (i := 11) rfl))) (mvT hZ (hw _ (List.mem_of_getElem? (i := 12) rfl))) (notFace_of_selects (args := #[]) (mvT hZ (hw _ (List.mem_of_getElem? (i := 14) rfl)))) (mvT hZ (hw _ (List.mem_of_getElem? (i := 14) rfl))) (mvT hZ (hw _ (List.mem_of_getElem? (i := 13) rfl))) (by decide) (backOf (W := 0) (rm2 l Z ar0 hw [] w_BUY (9223372036854775807 : Int64) (q1 &&& (9223372036854775807 : Int64)) w_BUY w_SELL h0 n0 Z0 F  (1 : Int32) hr17) hZ (hw _ (List.mem_of_getElem? (i := 15) rfl)) (hw _ (List.mem_of_getElem? (i := 1) rfl)) (by decide) (by decide)) q17a q17c (g := (mkF m 186 #[.val (.long q0), .second, .val (.long q1), .second, .val (.int p2), .val (.ref w_BUY), .val (.ref w_SELL), .val (.int (1 : Int32)), .val (.int (0 : Int32)), .val (.int (1 : Int32)), .val (.int (1 : Int32)), .val (.int (0 : Int32))] [(.long (q1 &&& (9223372036854775807 : Int64))), (.long (9223372036854775807 : Int64)), (.ref w_BUY)])) rfl (by rw [hml]; rfl) (Steps.refl _) (argsL := [(.long (9223372036854775807 : Int64)), (.long (q1 &&& (9223372036854775807 : Int64)))]) (rest := []) (lenOf pd_0_186 rfl) rfl (by show 2 * 0 + _ ≤ _; exact Nat.le_of_eq rfl) (hb hby at_186) (fun _ _ => ⟨rfl, e16, (by decide : 0 + 0 ≤ _), (by decide : 0 + 0 ≤ _)⟩)
      dsimp only [Pt.U, Pt.locs, Pt.cells, Pt.slots] at X17 l17 y17 z17 st17 hQ17
      subst l17 y17 z17
      obtain ⟨rfl, N17q, e17⟩ := hQ17
      have N17 := Fr.app N16 N17q
      obtain ⟨fs, hr, hrun, hended, hW, hsame⟩ := X17.leave (v := some (.int (1 : Int32))) (fun h => by rw [Bd.returns] at h; cases h)
      refine ⟨_, _, pre2 _ ?_, hrun, hended, _, _, rfl, ?_, ⟨_, rfl⟩, hW, hsame.mono (by decide) (by decide)⟩
      · show Steps p.tables e below (s₁.setTop (mkF m 4 #[.val (.long q0), .second, .val (.long q1), .second, .val (.int p2), .unset, .unset, .unset, .unset, .unset, .unset, .unset] [(.int (p2 &&& (1 : Int32)))])) _
        refine XS.ifYes X0.here hx rfl (pc0 := 4) (pc' := 13) rfl (hb hby at_4) rfl ((if0 _ _).trans (teq hc3).1) (by decide) (by decide) ?_
        show Steps p.tables e below (s₁.setTop (mkF m 13 #[.val (.long q0), .second, .val (.long q1), .second, .val (.int p2), .unset, .unset, .unset, .unset, .unset, .unset, .unset] [])) _
        refine st4 _ ?_
        show Steps p.tables e below (T4.setTop (mkF m 16 #[.val (.long q0), .second, .val (.long q1), .second, .val (.int p2), .unset, .unset, .unset, .unset, .unset, .unset, .unset] [(.ref w_BUY)])) _
        refine XS.astore X4.here hx rfl (hb hby at_16) rfl rfl (l' := #[.val (.long q0), .second, .val (.long q1), .second, .val (.int p2), .val (.ref w_BUY), .unset, .unset, .unset, .unset, .unset, .unset]) rfl ?_
        show Steps p.tables e below (T4.setTop (mkF m 18 #[.val (.long q0), .second, .val (.long q1), .second, .val (.int p2), .val (.ref w_BUY), .unset, .unset, .unset, .unset, .unset, .unset] [])) _
        refine XS.aload X4.here hx rfl (hb hby at_18) rfl rfl ?_
        show Steps p.tables e below (T4.setTop (mkF m 20 #[.val (.long q0), .second, .val (.long q1), .second, .val (.int p2), .val (.ref w_BUY), .unset, .unset, .unset, .unset, .unset, .unset] [(.ref w_BUY)])) _
        refine st5.trans ?_
        show Steps p.tables e below (T5.setTop (mkF m 23 #[.val (.long q0), .second, .val (.long q1), .second, .val (.int p2), .val (.ref w_BUY), .unset, .unset, .unset, .unset, .unset, .unset] [(.ref w_SELL)])) _
        refine XS.astore X5.here hx rfl (hb hby at_23) rfl rfl (l' := #[.val (.long q0), .second, .val (.long q1), .second, .val (.int p2), .val (.ref w_BUY), .val (.ref w_SELL), .unset, .unset, .unset, .unset, .unset]) rfl ?_
        show Steps p.tables e below (T5.setTop (mkF m 25 #[.val (.long q0), .second, .val (.long q1), .second, .val (.int p2), .val (.ref w_BUY), .val (.ref w_SELL), .unset, .unset, .unset, .unset, .unset] [])) _
        refine XS.aload X5.here hx rfl (hb hby at_25) rfl rfl ?_
        show Steps p.tables e below (T5.setTop (mkF m 27 #[.val (.long q0), .second, .val (.long q1), .second, .val (.int p2), .val (.ref w_BUY), .val (.ref w_SELL), .unset, .unset, .unset, .unset, .unset] [(.ref w_BUY)])) _
        refine XS.lloadN X5.here hx rfl (hb hby at_27) rfl ?_
        show Steps p.tables e below (T5.setTop (mkF m 28 #[.val (.long q0), .second, .val (.long q1), .second, .val (.int p2), .val (.ref w_BUY), .val (.ref w_SELL), .unset, .unset, .unset, .unset, .unset] [(.long q0), (.ref w_BUY)])) _
        refine XS.lloadN X5.here hx rfl (hb hby at_28) rfl ?_
        show Steps p.tables e below (T5.setTop (mkF m 29 #[.val (.long q0), .second, .val (.long q1), .second, .val (.int p2), .val (.ref w_BUY), .val (.ref w_SELL), .unset, .unset, .unset, .unset, .unset] [(.long q1), (.long q0), (.ref w_BUY)])) _
        refine st6.trans ?_
        show Steps p.tables e below (T6.setTop (mkF m 32 #[.val (.long q0), .second, .val (.long q1), .second, .val (.int p2), .val (.ref w_BUY), .val (.ref w_SELL), .unset, .unset, .unset, .unset, .unset] [(.int (1 : Int32))])) _
        refine XS.istore X6.here hx rfl (hb hby at_32) rfl (l' := #[.val (.long q0), .second, .val (.long q1), .second, .val (.int p2), .val (.ref w_BUY), .val (.ref w_SELL), .val (.int (1 : Int32)), .unset, .unset, .unset, .unset]) rfl ?_
        show Steps p.tables e below (T6.setTop (mkF m 34 #[.val (.long q0), .second, .val (.long q1), .second, .val (.int p2), .val (.ref w_BUY), .val (.ref w_SELL), .val (.int (1 : Int32)), .unset, .unset, .unset, .unset] [])) _
        refine XS.aload X6.here hx rfl (hb hby at_34) rfl rfl ?_
        show Steps p.tables e below (T6.setTop (mkF m 36 #[.val (.long q0), .second, .val (.long q1), .second, .val (.int p2), .val (.ref w_BUY), .val (.ref w_SELL), .val (.int (1 : Int32)), .unset, .unset, .unset, .unset] [(.ref w_SELL)])) _
        refine XS.lloadN X6.here hx rfl (hb hby at_36) rfl ?_
        show Steps p.tables e below (T6.setTop (mkF m 37 #[.val (.long q0), .second, .val (.long q1), .second, .val (.int p2), .val (.ref w_BUY), .val (.ref w_SELL), .val (.int (1 : Int32)), .unset, .unset, .unset, .unset] [(.long q0), (.ref w_SELL)])) _
        refine XS.lloadN X6.here hx rfl (hb hby at_37) rfl ?_
        show Steps p.tables e below (T6.setTop (mkF m 38 #[.val (.long q0), .second, .val (.long q1), .second, .val (.int p2), .val (.ref w_BUY), .val (.ref w_SELL), .val (.int (1 : Int32)), .unset, .unset, .unset, .unset] [(.long q1), (.long q0), (.ref w_SELL)])) _
        refine st7.trans ?_
        show Steps p.tables e below (T7.setTop (mkF m 41 #[.val (.long q0), .second, .val (.long q1), .second, .val (.int p2), .val (.ref w_BUY), .val (.ref w_SELL), .val (.int (1 : Int32)), .unset, .unset, .unset, .unset] [(.int (0 : Int32))])) _
        refine XS.istore X7.here hx rfl (hb hby at_41) rfl (l' := #[.val (.long q0), .second, .val (.long q1), .second, .val (.int p2), .val (.ref w_BUY), .val (.ref w_SELL), .val (.int (1 : Int32)), .val (.int (0 : Int32)), .unset, .unset, .unset]) rfl ?_
        show Steps p.tables e below (T7.setTop (mkF m 43 #[.val (.long q0), .second, .val (.long q1), .second, .val (.int p2), .val (.ref w_BUY), .val (.ref w_SELL), .val (.int (1 : Int32)), .val (.int (0 : Int32)), .unset, .unset, .unset] [])) _
        refine XS.iload X7.here hx rfl (hb hby at_43) rfl ?_
        show Steps p.tables e below (T7.setTop (mkF m 45 #[.val (.long q0), .second, .val (.long q1), .second, .val (.int p2), .val (.ref w_BUY), .val (.ref w_SELL), .val (.int (1 : Int32)), .val (.int (0 : Int32)), .unset, .unset, .unset] [(.int (1 : Int32))])) _
        refine XS.ifYes X7.here hx rfl (pc0 := 45) (pc' := 53) rfl (hb hby at_45) rfl ((if0 _ _).trans (feq (by decide : ¬ ((1 : Int32) = (0 : Int32)))).2) (by decide) (by decide) ?_
        show Steps p.tables e below (T7.setTop (mkF m 53 #[.val (.long q0), .second, .val (.long q1), .second, .val (.int p2), .val (.ref w_BUY), .val (.ref w_SELL), .val (.int (1 : Int32)), .val (.int (0 : Int32)), .unset, .unset, .unset] [])) _
        refine XS.iconst X7.here hx rfl (hb hby at_53) ?_
        show Steps p.tables e below (T7.setTop (mkF m 54 #[.val (.long q0), .second, .val (.long q1), .second, .val (.int p2), .val (.ref w_BUY), .val (.ref w_SELL), .val (.int (1 : Int32)), .val (.int (0 : Int32)), .unset, .unset, .unset] [(.int (1 : Int32))])) _
        refine XS.goto X7.here hx rfl (pc0 := 54) (pc' := 58) rfl (hb hby at_54) (by decide) (by decide) ?_
        show Steps p.tables e below (T7.setTop (mkF m 58 #[.val (.long q0), .second, .val (.long q1), .second, .val (.int p2), .val (.ref w_BUY), .val (.ref w_SELL), .val (.int (1 : Int32)), .val (.int (0 : Int32)), .unset, .unset, .unset] [(.int (1 : Int32))])) _
        refine XS.istore X7.here hx rfl (hb hby at_58) rfl (l' := #[.val (.long q0), .second, .val (.long q1), .second, .val (.int p2), .val (.ref w_BUY), .val (.ref w_SELL), .val (.int (1 : Int32)), .val (.int (0 : Int32)), .val (.int (1 : Int32)), .unset, .unset]) rfl ?_
        show Steps p.tables e below (T7.setTop (mkF m 60 #[.val (.long q0), .second, .val (.long q1), .second, .val (.int p2), .val (.ref w_BUY), .val (.ref w_SELL), .val (.int (1 : Int32)), .val (.int (0 : Int32)), .val (.int (1 : Int32)), .unset, .unset] [])) _
        refine XS.iload X7.here hx rfl (hb hby at_60) rfl ?_
        show Steps p.tables e below (T7.setTop (mkF m 62 #[.val (.long q0), .second, .val (.long q1), .second, .val (.int p2), .val (.ref w_BUY), .val (.ref w_SELL), .val (.int (1 : Int32)), .val (.int (0 : Int32)), .val (.int (1 : Int32)), .unset, .unset] [(.int (1 : Int32))])) _
        refine XS.ifNo X7.here hx rfl (hb hby at_62) rfl ((if0 _ _).trans (feq (by decide : ¬ ((1 : Int32) = (0 : Int32)))).1) ?_
        show Steps p.tables e below (T7.setTop (mkF m 65 #[.val (.long q0), .second, .val (.long q1), .second, .val (.int p2), .val (.ref w_BUY), .val (.ref w_SELL), .val (.int (1 : Int32)), .val (.int (0 : Int32)), .val (.int (1 : Int32)), .unset, .unset] [])) _
        refine XS.iload X7.here hx rfl (hb hby at_65) rfl ?_
        show Steps p.tables e below (T7.setTop (mkF m 67 #[.val (.long q0), .second, .val (.long q1), .second, .val (.int p2), .val (.ref w_BUY), .val (.ref w_SELL), .val (.int (1 : Int32)), .val (.int (0 : Int32)), .val (.int (1 : Int32)), .unset, .unset] [(.int (1 : Int32))])) _
        refine XS.ifNo X7.here hx rfl (hb hby at_67) rfl ((if0 _ _).trans (feq (by decide : ¬ ((1 : Int32) = (0 : Int32)))).1) ?_
        show Steps p.tables e below (T7.setTop (mkF m 70 #[.val (.long q0), .second, .val (.long q1), .second, .val (.int p2), .val (.ref w_BUY), .val (.ref w_SELL), .val (.int (1 : Int32)), .val (.int (0 : Int32)), .val (.int (1 : Int32)), .unset, .unset] [])) _
        refine XS.iload X7.here hx rfl (hb hby at_70) rfl ?_
        show Steps p.tables e below (T7.setTop (mkF m 72 #[.val (.long q0), .second, .val (.long q1), .second, .val (.int p2), .val (.ref w_BUY), .val (.ref w_SELL), .val (.int (1 : Int32)), .val (.int (0 : Int32)), .val (.int (1 : Int32)), .unset, .unset] [(.int (0 : Int32))])) _
        refine XS.ifYes X7.here hx rfl (pc0 := 72) (pc' := 79) rfl (hb hby at_72) rfl ((if0 _ _).trans (teq (by decide : (0 : Int32) = (0 : Int32))).1) (by decide) (by decide) ?_
        show Steps p.tables e below (T7.setTop (mkF m 79 #[.val (.long q0), .second, .val (.long q1), .second, .val (.int p2), .val (.ref w_BUY), .val (.ref w_SELL), .val (.int (1 : Int32)), .val (.int (0 : Int32)), .val (.int (1 : Int32)), .unset, .unset] [])) _
        refine XS.iconst X7.here hx rfl (hb hby at_79) ?_
        show Steps p.tables e below (T7.setTop (mkF m 80 #[.val (.long q0), .second, .val (.long q1), .second, .val (.int p2), .val (.ref w_BUY), .val (.ref w_SELL), .val (.int (1 : Int32)), .val (.int (0 : Int32)), .val (.int (1 : Int32)), .unset, .unset] [(.int (0 : Int32))])) _
        refine XS.lloadN X7.here hx rfl (hb hby at_80) rfl ?_
        show Steps p.tables e below (T7.setTop (mkF m 81 #[.val (.long q0), .second, .val (.long q1), .second, .val (.int p2), .val (.ref w_BUY), .val (.ref w_SELL), .val (.int (1 : Int32)), .val (.int (0 : Int32)), .val (.int (1 : Int32)), .unset, .unset] [(.long q1), (.int (0 : Int32))])) _
        refine XS.lloadN X7.here hx rfl (hb hby at_81) rfl ?_
        show Steps p.tables e below (T7.setTop (mkF m 82 #[.val (.long q0), .second, .val (.long q1), .second, .val (.int p2), .val (.ref w_BUY), .val (.ref w_SELL), .val (.int (1 : Int32)), .val (.int (0 : Int32)), .val (.int (1 : Int32)), .unset, .unset] [(.long q0), (.long q1), (.int (0 : Int32))])) _
        refine XS.lcmp X7.here hx rfl (hb hby at_82) rfl ?_
        show Steps p.tables e below (T7.setTop (mkF m 83 #[.val (.long q0), .second, .val (.long q1), .second, .val (.int p2), .val (.ref w_BUY), .val (.ref w_SELL), .val (.int (1 : Int32)), .val (.int (0 : Int32)), .val (.int (1 : Int32)), .unset, .unset] [(.int (lcmpW q1 q0)), (.int (0 : Int32))])) _
        refine XS.ifYes X7.here hx rfl (pc0 := 83) (pc' := 90) rfl (hb hby at_83) rfl ((if0 _ _).trans (feq hk8).2) (by decide) (by decide) ?_
        show Steps p.tables e below (T7.setTop (mkF m 90 #[.val (.long q0), .second, .val (.long q1), .second, .val (.int p2), .val (.ref w_BUY), .val (.ref w_SELL), .val (.int (1 : Int32)), .val (.int (0 : Int32)), .val (.int (1 : Int32)), .unset, .unset] [(.int (0 : Int32))])) _
        refine XS.iconst X7.here hx rfl (hb hby at_90) ?_
        show Steps p.tables e below (T7.setTop (mkF m 91 #[.val (.long q0), .second, .val (.long q1), .second, .val (.int p2), .val (.ref w_BUY), .val (.ref w_SELL), .val (.int (1 : Int32)), .val (.int (0 : Int32)), .val (.int (1 : Int32)), .unset, .unset] [(.int (0 : Int32)), (.int (0 : Int32))])) _
        refine XS.icmpNo X7.here hx rfl (hb hby at_91) rfl (teq (by decide : (0 : Int32) = (0 : Int32))).2 ?_
        show Steps p.tables e below (T7.setTop (mkF m 94 #[.val (.long q0), .second, .val (.long q1), .second, .val (.int p2), .val (.ref w_BUY), .val (.ref w_SELL), .val (.int (1 : Int32)), .val (.int (0 : Int32)), .val (.int (1 : Int32)), .unset, .unset] [])) _
        refine XS.iconst X7.here hx rfl (hb hby at_94) ?_
        show Steps p.tables e below (T7.setTop (mkF m 95 #[.val (.long q0), .second, .val (.long q1), .second, .val (.int p2), .val (.ref w_BUY), .val (.ref w_SELL), .val (.int (1 : Int32)), .val (.int (0 : Int32)), .val (.int (1 : Int32)), .unset, .unset] [(.int (1 : Int32))])) _
        refine XS.goto X7.here hx rfl (pc0 := 95) (pc' := 99) rfl (hb hby at_95) (by decide) (by decide) ?_
        show Steps p.tables e below (T7.setTop (mkF m 99 #[.val (.long q0), .second, .val (.long q1), .second, .val (.int p2), .val (.ref w_BUY), .val (.ref w_SELL), .val (.int (1 : Int32)), .val (.int (0 : Int32)), .val (.int (1 : Int32)), .unset, .unset] [(.int (1 : Int32))])) _
        refine XS.istore X7.here hx rfl (hb hby at_99) rfl (l' := #[.val (.long q0), .second, .val (.long q1), .second, .val (.int p2), .val (.ref w_BUY), .val (.ref w_SELL), .val (.int (1 : Int32)), .val (.int (0 : Int32)), .val (.int (1 : Int32)), .unset, .unset]) rfl ?_
        show Steps p.tables e below (T7.setTop (mkF m 101 #[.val (.long q0), .second, .val (.long q1), .second, .val (.int p2), .val (.ref w_BUY), .val (.ref w_SELL), .val (.int (1 : Int32)), .val (.int (0 : Int32)), .val (.int (1 : Int32)), .unset, .unset] [])) _
        refine st9 _ ?_
        show Steps p.tables e below (T9.setTop (mkF m 104 #[.val (.long q0), .second, .val (.long q1), .second, .val (.int p2), .val (.ref w_BUY), .val (.ref w_SELL), .val (.int (1 : Int32)), .val (.int (0 : Int32)), .val (.int (1 : Int32)), .unset, .unset] [(.ref w_BUY)])) _
        refine XS.lloadN X9.here hx rfl (hb hby at_104) rfl ?_
        show Steps p.tables e below (T9.setTop (mkF m 105 #[.val (.long q0), .second, .val (.long q1), .second, .val (.int p2), .val (.ref w_BUY), .val (.ref w_SELL), .val (.int (1 : Int32)), .val (.int (0 : Int32)), .val (.int (1 : Int32)), .unset, .unset] [(.long q0), (.ref w_BUY)])) _
        refine XS.lloadN X9.here hx rfl (hb hby at_105) rfl ?_
        show Steps p.tables e below (T9.setTop (mkF m 106 #[.val (.long q0), .second, .val (.long q1), .second, .val (.int p2), .val (.ref w_BUY), .val (.ref w_SELL), .val (.int (1 : Int32)), .val (.int (0 : Int32)), .val (.int (1 : Int32)), .unset, .unset] [(.long q1), (.long q0), (.ref w_BUY)])) _
        refine st10.trans ?_
        show Steps p.tables e below (T10.setTop (mkF m 109 #[.val (.long q0), .second, .val (.long q1), .second, .val (.int p2), .val (.ref w_BUY), .val (.ref w_SELL), .val (.int (1 : Int32)), .val (.int (0 : Int32)), .val (.int (1 : Int32)), .unset, .unset] [(.int (1 : Int32))])) _
        refine XS.istore X10.here hx rfl (hb hby at_109) rfl (l' := #[.val (.long q0), .second, .val (.long q1), .second, .val (.int p2), .val (.ref w_BUY), .val (.ref w_SELL), .val (.int (1 : Int32)), .val (.int (0 : Int32)), .val (.int (1 : Int32)), .val (.int (1 : Int32)), .unset]) rfl ?_
        show Steps p.tables e below (T10.setTop (mkF m 111 #[.val (.long q0), .second, .val (.long q1), .second, .val (.int p2), .val (.ref w_BUY), .val (.ref w_SELL), .val (.int (1 : Int32)), .val (.int (0 : Int32)), .val (.int (1 : Int32)), .val (.int (1 : Int32)), .unset] [])) _
        refine st11 _ ?_
        show Steps p.tables e below (T11.setTop (mkF m 114 #[.val (.long q0), .second, .val (.long q1), .second, .val (.int p2), .val (.ref w_BUY), .val (.ref w_SELL), .val (.int (1 : Int32)), .val (.int (0 : Int32)), .val (.int (1 : Int32)), .val (.int (1 : Int32)), .unset] [(.ref w_SELL)])) _
        refine XS.lloadN X11.here hx rfl (hb hby at_114) rfl ?_
        show Steps p.tables e below (T11.setTop (mkF m 115 #[.val (.long q0), .second, .val (.long q1), .second, .val (.int p2), .val (.ref w_BUY), .val (.ref w_SELL), .val (.int (1 : Int32)), .val (.int (0 : Int32)), .val (.int (1 : Int32)), .val (.int (1 : Int32)), .unset] [(.long q0), (.ref w_SELL)])) _
        refine XS.lloadN X11.here hx rfl (hb hby at_115) rfl ?_
        show Steps p.tables e below (T11.setTop (mkF m 116 #[.val (.long q0), .second, .val (.long q1), .second, .val (.int p2), .val (.ref w_BUY), .val (.ref w_SELL), .val (.int (1 : Int32)), .val (.int (0 : Int32)), .val (.int (1 : Int32)), .val (.int (1 : Int32)), .unset] [(.long q1), (.long q0), (.ref w_SELL)])) _
        refine st12.trans ?_
        show Steps p.tables e below (T12.setTop (mkF m 119 #[.val (.long q0), .second, .val (.long q1), .second, .val (.int p2), .val (.ref w_BUY), .val (.ref w_SELL), .val (.int (1 : Int32)), .val (.int (0 : Int32)), .val (.int (1 : Int32)), .val (.int (1 : Int32)), .unset] [(.int (0 : Int32))])) _
        refine XS.istore X12.here hx rfl (hb hby at_119) rfl (l' := #[.val (.long q0), .second, .val (.long q1), .second, .val (.int p2), .val (.ref w_BUY), .val (.ref w_SELL), .val (.int (1 : Int32)), .val (.int (0 : Int32)), .val (.int (1 : Int32)), .val (.int (1 : Int32)), .val (.int (0 : Int32))]) rfl ?_
        show Steps p.tables e below (T12.setTop (mkF m 121 #[.val (.long q0), .second, .val (.long q1), .second, .val (.int p2), .val (.ref w_BUY), .val (.ref w_SELL), .val (.int (1 : Int32)), .val (.int (0 : Int32)), .val (.int (1 : Int32)), .val (.int (1 : Int32)), .val (.int (0 : Int32))] [])) _
        refine XS.iload X12.here hx rfl (hb hby at_121) rfl ?_
        show Steps p.tables e below (T12.setTop (mkF m 123 #[.val (.long q0), .second, .val (.long q1), .second, .val (.int p2), .val (.ref w_BUY), .val (.ref w_SELL), .val (.int (1 : Int32)), .val (.int (0 : Int32)), .val (.int (1 : Int32)), .val (.int (1 : Int32)), .val (.int (0 : Int32))] [(.int (1 : Int32))])) _
        refine XS.ifNo X12.here hx rfl (hb hby at_123) rfl ((if0 _ _).trans (feq (by decide : ¬ ((1 : Int32) = (0 : Int32)))).1) ?_
        show Steps p.tables e below (T12.setTop (mkF m 126 #[.val (.long q0), .second, .val (.long q1), .second, .val (.int p2), .val (.ref w_BUY), .val (.ref w_SELL), .val (.int (1 : Int32)), .val (.int (0 : Int32)), .val (.int (1 : Int32)), .val (.int (1 : Int32)), .val (.int (0 : Int32))] [])) _
        refine XS.iload X12.here hx rfl (hb hby at_126) rfl ?_
        show Steps p.tables e below (T12.setTop (mkF m 128 #[.val (.long q0), .second, .val (.long q1), .second, .val (.int p2), .val (.ref w_BUY), .val (.ref w_SELL), .val (.int (1 : Int32)), .val (.int (0 : Int32)), .val (.int (1 : Int32)), .val (.int (1 : Int32)), .val (.int (0 : Int32))] [(.int (0 : Int32))])) _
        refine st13 _ ?_
        show Steps p.tables e below (T13.setTop (mkF m 131 #[.val (.long q0), .second, .val (.long q1), .second, .val (.int p2), .val (.ref w_BUY), .val (.ref w_SELL), .val (.int (1 : Int32)), .val (.int (0 : Int32)), .val (.int (1 : Int32)), .val (.int (1 : Int32)), .val (.int (0 : Int32))] [(.ref w_BUY), (.int (0 : Int32))])) _
        refine XS.lloadN X13.here hx rfl (hb hby at_131) rfl ?_
        show Steps p.tables e below (T13.setTop (mkF m 132 #[.val (.long q0), .second, .val (.long q1), .second, .val (.int p2), .val (.ref w_BUY), .val (.ref w_SELL), .val (.int (1 : Int32)), .val (.int (0 : Int32)), .val (.int (1 : Int32)), .val (.int (1 : Int32)), .val (.int (0 : Int32))] [(.long q1), (.ref w_BUY), (.int (0 : Int32))])) _
        refine XS.lloadN X13.here hx rfl (hb hby at_132) rfl ?_
        show Steps p.tables e below (T13.setTop (mkF m 133 #[.val (.long q0), .second, .val (.long q1), .second, .val (.int p2), .val (.ref w_BUY), .val (.ref w_SELL), .val (.int (1 : Int32)), .val (.int (0 : Int32)), .val (.int (1 : Int32)), .val (.int (1 : Int32)), .val (.int (0 : Int32))] [(.long q0), (.long q1), (.ref w_BUY), (.int (0 : Int32))])) _
        refine st14.trans ?_
        show Steps p.tables e below (T14.setTop (mkF m 136 #[.val (.long q0), .second, .val (.long q1), .second, .val (.int p2), .val (.ref w_BUY), .val (.ref w_SELL), .val (.int (1 : Int32)), .val (.int (0 : Int32)), .val (.int (1 : Int32)), .val (.int (1 : Int32)), .val (.int (0 : Int32))] [(.int (0 : Int32)), (.int (0 : Int32))])) _
        refine XS.icmpNo X14.here hx rfl (hb hby at_136) rfl (teq (by decide : (0 : Int32) = (0 : Int32))).2 ?_
        show Steps p.tables e below (T14.setTop (mkF m 139 #[.val (.long q0), .second, .val (.long q1), .second, .val (.int p2), .val (.ref w_BUY), .val (.ref w_SELL), .val (.int (1 : Int32)), .val (.int (0 : Int32)), .val (.int (1 : Int32)), .val (.int (1 : Int32)), .val (.int (0 : Int32))] [])) _
        refine XS.iconst X14.here hx rfl (hb hby at_139) ?_
        show Steps p.tables e below (T14.setTop (mkF m 140 #[.val (.long q0), .second, .val (.long q1), .second, .val (.int p2), .val (.ref w_BUY), .val (.ref w_SELL), .val (.int (1 : Int32)), .val (.int (0 : Int32)), .val (.int (1 : Int32)), .val (.int (1 : Int32)), .val (.int (0 : Int32))] [(.int (1 : Int32))])) _
        refine XS.goto X14.here hx rfl (pc0 := 140) (pc' := 144) rfl (hb hby at_140) (by decide) (by decide) ?_
        show Steps p.tables e below (T14.setTop (mkF m 144 #[.val (.long q0), .second, .val (.long q1), .second, .val (.int p2), .val (.ref w_BUY), .val (.ref w_SELL), .val (.int (1 : Int32)), .val (.int (0 : Int32)), .val (.int (1 : Int32)), .val (.int (1 : Int32)), .val (.int (0 : Int32))] [(.int (1 : Int32))])) _
        refine XS.istore X14.here hx rfl (hb hby at_144) rfl (l' := #[.val (.long q0), .second, .val (.long q1), .second, .val (.int p2), .val (.ref w_BUY), .val (.ref w_SELL), .val (.int (1 : Int32)), .val (.int (0 : Int32)), .val (.int (1 : Int32)), .val (.int (1 : Int32)), .val (.int (0 : Int32))]) rfl ?_
        show Steps p.tables e below (T14.setTop (mkF m 146 #[.val (.long q0), .second, .val (.long q1), .second, .val (.int p2), .val (.ref w_BUY), .val (.ref w_SELL), .val (.int (1 : Int32)), .val (.int (0 : Int32)), .val (.int (1 : Int32)), .val (.int (1 : Int32)), .val (.int (0 : Int32))] [])) _
        refine XS.lloadN X14.here hx rfl (hb hby at_146) rfl ?_
        show Steps p.tables e below (T14.setTop (mkF m 147 #[.val (.long q0), .second, .val (.long q1), .second, .val (.int p2), .val (.ref w_BUY), .val (.ref w_SELL), .val (.int (1 : Int32)), .val (.int (0 : Int32)), .val (.int (1 : Int32)), .val (.int (1 : Int32)), .val (.int (0 : Int32))] [(.long q1)])) _
        refine XS.lloadN X14.here hx rfl (hb hby at_147) rfl ?_
        show Steps p.tables e below (T14.setTop (mkF m 148 #[.val (.long q0), .second, .val (.long q1), .second, .val (.int p2), .val (.ref w_BUY), .val (.ref w_SELL), .val (.int (1 : Int32)), .val (.int (0 : Int32)), .val (.int (1 : Int32)), .val (.int (1 : Int32)), .val (.int (0 : Int32))] [(.long q0), (.long q1)])) _
        refine XS.lcmp X14.here hx rfl (hb hby at_148) rfl ?_
        show Steps p.tables e below (T14.setTop (mkF m 149 #[.val (.long q0), .second, .val (.long q1), .second, .val (.int p2), .val (.ref w_BUY), .val (.ref w_SELL), .val (.int (1 : Int32)), .val (.int (0 : Int32)), .val (.int (1 : Int32)), .val (.int (1 : Int32)), .val (.int (0 : Int32))] [(.int (lcmpW q1 q0))])) _
        refine XS.ifNo X14.here hx rfl (hb hby at_149) rfl ((if0 _ _).trans (tlt hk15).2.1) ?_
        show Steps p.tables e below (T14.setTop (mkF m 152 #[.val (.long q0), .second, .val (.long q1), .second, .val (.int p2), .val (.ref w_BUY), .val (.ref w_SELL), .val (.int (1 : Int32)), .val (.int (0 : Int32)), .val (.int (1 : Int32)), .val (.int (1 : Int32)), .val (.int (0 : Int32))] [])) _
        refine XS.iload X14.here hx rfl (hb hby at_152) rfl ?_
        show Steps p.tables e below (T14.setTop (mkF m 154 #[.val (.long q0), .second, .val (.long q1), .second, .val (.int p2), .val (.ref w_BUY), .val (.ref w_SELL), .val (.int (1 : Int32)), .val (.int (0 : Int32)), .val (.int (1 : Int32)), .val (.int (1 : Int32)), .val (.int (0 : Int32))] [(.int (1 : Int32))])) _
        refine XS.ifNo X14.here hx rfl (hb hby at_154) rfl ((if0 _ _).trans (feq (by decide : ¬ ((1 : Int32) = (0 : Int32)))).1) ?_
        show Steps p.tables e below (T14.setTop (mkF m 157 #[.val (.long q0), .second, .val (.long q1), .second, .val (.int p2), .val (.ref w_BUY), .val (.ref w_SELL), .val (.int (1 : Int32)), .val (.int (0 : Int32)), .val (.int (1 : Int32)), .val (.int (1 : Int32)), .val (.int (0 : Int32))] [])) _
        refine XS.iload X14.here hx rfl (hb hby at_157) rfl ?_
        show Steps p.tables e below (T14.setTop (mkF m 159 #[.val (.long q0), .second, .val (.long q1), .second, .val (.int p2), .val (.ref w_BUY), .val (.ref w_SELL), .val (.int (1 : Int32)), .val (.int (0 : Int32)), .val (.int (1 : Int32)), .val (.int (1 : Int32)), .val (.int (0 : Int32))] [(.int (1 : Int32))])) _
        refine XS.ifNo X14.here hx rfl (hb hby at_159) rfl ((if0 _ _).trans (feq (by decide : ¬ ((1 : Int32) = (0 : Int32)))).1) ?_
        show Steps p.tables e below (T14.setTop (mkF m 162 #[.val (.long q0), .second, .val (.long q1), .second, .val (.int p2), .val (.ref w_BUY), .val (.ref w_SELL), .val (.int (1 : Int32)), .val (.int (0 : Int32)), .val (.int (1 : Int32)), .val (.int (1 : Int32)), .val (.int (0 : Int32))] [])) _
        refine XS.iconst X14.here hx rfl (hb hby at_162) ?_
        show Steps p.tables e below (T14.setTop (mkF m 163 #[.val (.long q0), .second, .val (.long q1), .second, .val (.int p2), .val (.ref w_BUY), .val (.ref w_SELL), .val (.int (1 : Int32)), .val (.int (0 : Int32)), .val (.int (1 : Int32)), .val (.int (1 : Int32)), .val (.int (0 : Int32))] [(.int (1 : Int32))])) _
        refine XS.goto X14.here hx rfl (pc0 := 163) (pc' := 167) rfl (hb hby at_163) (by decide) (by decide) ?_
        show Steps p.tables e below (T14.setTop (mkF m 167 #[.val (.long q0), .second, .val (.long q1), .second, .val (.int p2), .val (.ref w_BUY), .val (.ref w_SELL), .val (.int (1 : Int32)), .val (.int (0 : Int32)), .val (.int (1 : Int32)), .val (.int (1 : Int32)), .val (.int (0 : Int32))] [(.int (1 : Int32))])) _
        refine XS.istore X14.here hx rfl (hb hby at_167) rfl (l' := #[.val (.long q0), .second, .val (.long q1), .second, .val (.int p2), .val (.ref w_BUY), .val (.ref w_SELL), .val (.int (1 : Int32)), .val (.int (0 : Int32)), .val (.int (1 : Int32)), .val (.int (1 : Int32)), .val (.int (0 : Int32))]) rfl ?_
        show Steps p.tables e below (T14.setTop (mkF m 169 #[.val (.long q0), .second, .val (.long q1), .second, .val (.int p2), .val (.ref w_BUY), .val (.ref w_SELL), .val (.int (1 : Int32)), .val (.int (0 : Int32)), .val (.int (1 : Int32)), .val (.int (1 : Int32)), .val (.int (0 : Int32))] [])) _
        refine XS.iload X14.here hx rfl (hb hby at_169) rfl ?_
        show Steps p.tables e below (T14.setTop (mkF m 171 #[.val (.long q0), .second, .val (.long q1), .second, .val (.int p2), .val (.ref w_BUY), .val (.ref w_SELL), .val (.int (1 : Int32)), .val (.int (0 : Int32)), .val (.int (1 : Int32)), .val (.int (1 : Int32)), .val (.int (0 : Int32))] [(.int (1 : Int32))])) _
        refine XS.ifNo X14.here hx rfl (hb hby at_171) rfl ((if0 _ _).trans (feq (by decide : ¬ ((1 : Int32) = (0 : Int32)))).1) ?_
        show Steps p.tables e below (T14.setTop (mkF m 174 #[.val (.long q0), .second, .val (.long q1), .second, .val (.int p2), .val (.ref w_BUY), .val (.ref w_SELL), .val (.int (1 : Int32)), .val (.int (0 : Int32)), .val (.int (1 : Int32)), .val (.int (1 : Int32)), .val (.int (0 : Int32))] [])) _
        refine XS.aload X14.here hx rfl (hb hby at_174) rfl rfl ?_
        show Steps p.tables e below (T14.setTop (mkF m 176 #[.val (.long q0), .second, .val (.long q1), .second, .val (.int p2), .val (.ref w_BUY), .val (.ref w_SELL), .val (.int (1 : Int32)), .val (.int (0 : Int32)), .val (.int (1 : Int32)), .val (.int (1 : Int32)), .val (.int (0 : Int32))] [(.ref w_BUY)])) _
        refine XS.aload X14.here hx rfl (hb hby at_176) rfl rfl ?_
        show Steps p.tables e below (T14.setTop (mkF m 178 #[.val (.long q0), .second, .val (.long q1), .second, .val (.int p2), .val (.ref w_BUY), .val (.ref w_SELL), .val (.int (1 : Int32)), .val (.int (0 : Int32)), .val (.int (1 : Int32)), .val (.int (1 : Int32)), .val (.int (0 : Int32))] [(.ref w_BUY), (.ref w_BUY)])) _
        refine st16.trans ?_
        show Steps p.tables e below (T16.setTop (mkF m 181 #[.val (.long q0), .second, .val (.long q1), .second, .val (.int p2), .val (.ref w_BUY), .val (.ref w_SELL), .val (.int (1 : Int32)), .val (.int (0 : Int32)), .val (.int (1 : Int32)), .val (.int (1 : Int32)), .val (.int (0 : Int32))] [(.long (9223372036854775807 : Int64)), (.ref w_BUY)])) _
        refine XS.lloadN X16.here hx rfl (hb hby at_181) rfl ?_
        show Steps p.tables e below (T16.setTop (mkF m 182 #[.val (.long q0), .second, .val (.long q1), .second, .val (.int p2), .val (.ref w_BUY), .val (.ref w_SELL), .val (.int (1 : Int32)), .val (.int (0 : Int32)), .val (.int (1 : Int32)), .val (.int (1 : Int32)), .val (.int (0 : Int32))] [(.long q1), (.long (9223372036854775807 : Int64)), (.ref w_BUY)])) _
        refine X16.ldc2Long hx hown (mvT hZ (hw _ (List.mem_of_getElem? (i := 23) rfl))) (g := (mkF m 182 #[.val (.long q0), .second, .val (.long q1), .second, .val (.int p2), .val (.ref w_BUY), .val (.ref w_SELL), .val (.int (1 : Int32)), .val (.int (0 : Int32)), .val (.int (1 : Int32)), .val (.int (1 : Int32)), .val (.int (0 : Int32))] [(.long q1), (.long (9223372036854775807 : Int64)), (.ref w_BUY)])) rfl (hb hby at_182) _ ?_
        show Steps p.tables e below (T16.setTop (mkF m 185 #[.val (.long q0), .second, .val (.long q1), .second, .val (.int p2), .val (.ref w_BUY), .val (.ref w_SELL), .val (.int (1 : Int32)), .val (.int (0 : Int32)), .val (.int (1 : Int32)), .val (.int (1 : Int32)), .val (.int (0 : Int32))] [(.long (9223372036854775807 : Int64)), (.long q1), (.long (9223372036854775807 : Int64)), (.ref w_BUY)])) _
        refine XS.land X16.here hx rfl (hb hby at_185) rfl ?_
        show Steps p.tables e below (T16.setTop (mkF m 186 #[.val (.long q0), .second, .val (.long q1), .second, .val (.int p2), .val (.ref w_BUY), .val (.ref w_SELL), .val (.int (1 : Int32)), .val (.int (0 : Int32)), .val (.int (1 : Int32)), .val (.int (1 : Int32)), .val (.int (0 : Int32))] [(.long (q1 &&& (9223372036854775807 : Int64))), (.long (9223372036854775807 : Int64)), (.ref w_BUY)])) _
        refine st17.trans ?_
        show Steps p.tables e below (T17.setTop (mkF m 189 #[.val (.long q0), .second, .val (.long q1), .second, .val (.int p2), .val (.ref w_BUY), .val (.ref w_SELL), .val (.int (1 : Int32)), .val (.int (0 : Int32)), .val (.int (1 : Int32)), .val (.int (1 : Int32)), .val (.int (0 : Int32))] [(.int (1 : Int32))])) _
        refine XS.ifNo X17.here hx rfl (hb hby at_189) rfl ((if0 _ _).trans (feq (by decide : ¬ ((1 : Int32) = (0 : Int32)))).1) ?_
        show Steps p.tables e below (T17.setTop (mkF m 192 #[.val (.long q0), .second, .val (.long q1), .second, .val (.int p2), .val (.ref w_BUY), .val (.ref w_SELL), .val (.int (1 : Int32)), .val (.int (0 : Int32)), .val (.int (1 : Int32)), .val (.int (1 : Int32)), .val (.int (0 : Int32))] [])) _
        refine XS.iconst X17.here hx rfl (hb hby at_192) ?_
        show Steps p.tables e below (T17.setTop (mkF m 193 #[.val (.long q0), .second, .val (.long q1), .second, .val (.int p2), .val (.ref w_BUY), .val (.ref w_SELL), .val (.int (1 : Int32)), .val (.int (0 : Int32)), .val (.int (1 : Int32)), .val (.int (1 : Int32)), .val (.int (0 : Int32))] [(.int (1 : Int32))])) _
        refine XS.goto X17.here hx rfl (pc0 := 193) (pc' := 197) rfl (hb hby at_193) (by decide) (by decide) ?_
        show Steps p.tables e below (T17.setTop (mkF m 197 #[.val (.long q0), .second, .val (.long q1), .second, .val (.int p2), .val (.ref w_BUY), .val (.ref w_SELL), .val (.int (1 : Int32)), .val (.int (0 : Int32)), .val (.int (1 : Int32)), .val (.int (1 : Int32)), .val (.int (0 : Int32))] [(.int (1 : Int32))])) _
        refine XS.istore X17.here hx rfl (hb hby at_197) rfl (l' := #[.val (.long q0), .second, .val (.long q1), .second, .val (.int p2), .val (.ref w_BUY), .val (.ref w_SELL), .val (.int (1 : Int32)), .val (.int (0 : Int32)), .val (.int (1 : Int32)), .val (.int (1 : Int32)), .val (.int (0 : Int32))]) rfl ?_
        show Steps p.tables e below (T17.setTop (mkF m 199 #[.val (.long q0), .second, .val (.long q1), .second, .val (.int p2), .val (.ref w_BUY), .val (.ref w_SELL), .val (.int (1 : Int32)), .val (.int (0 : Int32)), .val (.int (1 : Int32)), .val (.int (1 : Int32)), .val (.int (0 : Int32))] [])) _
        refine XS.iload X17.here hx rfl (hb hby at_199) rfl ?_
        show Steps p.tables e below (T17.setTop (mkF m 201 #[.val (.long q0), .second, .val (.long q1), .second, .val (.int p2), .val (.ref w_BUY), .val (.ref w_SELL), .val (.int (1 : Int32)), .val (.int (0 : Int32)), .val (.int (1 : Int32)), .val (.int (1 : Int32)), .val (.int (0 : Int32))] [(.int (1 : Int32))])) _
        exact retN X17 hx (t := .boolean) Bd.returns (by simp) (hb hby at_201) hr
      · show Qp (some (.int (1 : Int32))) h0 n0 _ T17.heap _
        rw [e17]
        exact ⟨rfl, N17, rfl⟩
    ·
      obtain ⟨T18, X18, e18, st18⟩ := getS2 X0 hx hZ hown (host := "") (Or.inl (hw _ (List.mem_of_getElem? (i := 16) rfl))) Via.refl e0 S_SELL (g := (mkF m 7 #[.val (.long q0), .second, .val (.long q1), .second, .val (.int p2), .unset, .unset, .unset, .unset, .unset, .unset, .unset] [])) rfl (hb hby at_7)
      have hr19 : w_BUY = v1 w_SELL w_BUY w_SELL := by unfold v1; rw [if_neg ne_SELL_BUY]
      obtain ⟨cq19, kq19, q19a, q19b, q19c⟩ := isOf hZ e18 (show Exa Z h0 w_SELL "com/example/orderwarden/orderwarden/Side" from E_SELL)
      obtain ⟨_, _, ⟨T19, L19, k19, n19⟩, -, X19, ⟨Lc19, hQ19, l19, y19, z19⟩, st19⟩ := X18.virtualBack hx (y := (⟨"com/example/orderwarden/orderwarden/Side", "opposite", "()Lcom/example/orderwarden/orderwarden/Side;"⟩ : MethodName)) (z := (⟨"com/example/orderwarden/orderwarden/Side", "opposite", "()Lcom/example/orderwarden/orderwarden/Side;"⟩ : MethodName)) hown (mvT hZ (hw _ (List.mem_of_getElem? (i := 3) rfl))) (mvT hZ (hw _ (List.mem_of_getElem? (i := 4) rfl))) (notFace_of_selects (args := #[]) (mvT hZ (hw _ (List.mem_of_getElem? (i := 6) rfl)))) (mvT hZ (hw _ (List.mem_of_getElem? (i := 6) rfl))) (mvT hZ (hw _ (List.mem_of_getElem? (i := 5) rfl))) (by decide) (backOf (W := 0) (rm1 l Z ar0 hw [] w_SELL w_BUY w_SELL h0 n0 Z0 F  w_BUY hr19) hZ (hw _ (List.mem_of_getElem? (i := 7) rfl)) (hw _ (List.mem_of_getElem? (i := 1) rfl)) (by decide) (by decide)) q19a q19c (g := (mkF m 20 #[.val (.long q0), .second, .val (.long q1), .second, .val (.int p2), .val (.ref w_SELL), .unset, .unset, .unset, .unset, .unset, .unset] [(.ref w_SELL)])) rfl (by rw [hml]; rfl) (Steps.refl _) (argsL := []) (rest := []) (lenOf pd_0_20 rfl) rfl (by show 2 * 0 + _ ≤ _; exact Nat.le_of_eq rfl) (hb hby at_20) (fun _ _ => ⟨rfl, e18, (by decide : 0 + 0 ≤ _), (by decide : 0 + 0 ≤ _)⟩)
      dsimp only [Pt.U, Pt.locs, Pt.cells, Pt.slots] at X19 l19 y19 z19 st19 hQ19
      subst l19 y19 z19
      obtain ⟨rfl, N19q, e19⟩ := hQ19
      have N19 := Fr.app N0 N19q
      have hr20 : (0 : Int32) = v2 w_SELL q0 q1 w_BUY w_SELL := own_sell0 ne_SELL_BUY hs1
      obtain ⟨cq20, kq20, q20a, q20b, q20c⟩ := isOf hZ e19 (show Exa Z h0 w_SELL "com/example/orderwarden/orderwarden/Side" from E_SELL)
      obtain ⟨_, _, ⟨T20, L20, k20, n20⟩, -, X20, ⟨Lc20, hQ20, l20, y20, z20⟩, st20⟩ := X19.virtualBack hx (y := (⟨"com/example/orderwarden/orderwarden/Side", "accepts", "(JJ)Z"⟩ : MethodName)) (z := (⟨"com/example/orderwarden/orderwarden/Side", "accepts", "(JJ)Z"⟩ : MethodName)) hown (mvT hZ (hw _ (List.mem_of_getElem? (i := 11) rfl))) (mvT hZ (hw _ (List.mem_of_getElem? (i := 12) rfl))) (notFace_of_selects (args := #[]) (mvT hZ (hw _ (List.mem_of_getElem? (i := 14) rfl)))) (mvT hZ (hw _ (List.mem_of_getElem? (i := 14) rfl))) (mvT hZ (hw _ (List.mem_of_getElem? (i := 13) rfl))) (by decide) (backOf (W := 0) (rm2 l Z ar0 hw [] w_SELL q0 q1 w_BUY w_SELL h0 n0 Z0 F  (0 : Int32) hr20) hZ (hw _ (List.mem_of_getElem? (i := 15) rfl)) (hw _ (List.mem_of_getElem? (i := 1) rfl)) (by decide) (by decide)) q20a q20c (g := (mkF m 29 #[.val (.long q0), .second, .val (.long q1), .second, .val (.int p2), .val (.ref w_SELL), .val (.ref w_BUY), .unset, .unset, .unset, .unset, .unset] [(.long q1), (.long q0), (.ref w_SELL)])) rfl (by rw [hml]; rfl) (Steps.refl _) (argsL := [(.long q0), (.long q1)]) (rest := []) (lenOf pd_0_29 rfl) rfl (by show 2 * 0 + _ ≤ _; exact Nat.le_of_eq rfl) (hb hby at_29) (fun _ _ => ⟨rfl, e19, (by decide : 0 + 0 ≤ _), (by decide : 0 + 0 ≤ _)⟩)
      dsimp only [Pt.U, Pt.locs, Pt.cells, Pt.slots] at X20 l20 y20 z20 st20 hQ20
      subst l20 y20 z20
      obtain ⟨rfl, N20q, e20⟩ := hQ20
      have N20 := Fr.app N19 N20q
      have hr21 : (1 : Int32) = v2 w_BUY q0 q1 w_BUY w_SELL := own_buy (own_le hs1)
      obtain ⟨cq21, kq21, q21a, q21b, q21c⟩ := isOf hZ e20 (show Exa Z h0 w_BUY "com/example/orderwarden/orderwarden/Side" from E_BUY)
      obtain ⟨_, _, ⟨T21, L21, k21, n21⟩, -, X21, ⟨Lc21, hQ21, l21, y21, z21⟩, st21⟩ := X20.virtualBack hx (y := (⟨"com/example/orderwarden/orderwarden/Side", "accepts", "(JJ)Z"⟩ : MethodName)) (z := (⟨"com/example/orderwarden/orderwarden/Side", "accepts", "(JJ)Z"⟩ : MethodName)) hown (mvT hZ (hw _ (List.mem_of_getElem? (i := 11) rfl))) (mvT hZ (hw _ (List.mem_of_getElem? (i := 12) rfl))) (notFace_of_selects (args := #[]) (mvT hZ (hw _ (List.mem_of_getElem? (i := 14) rfl)))) (mvT hZ (hw _ (List.mem_of_getElem? (i := 14) rfl))) (mvT hZ (hw _ (List.mem_of_getElem? (i := 13) rfl))) (by decide) (backOf (W := 0) (rm2 l Z ar0 hw [] w_BUY q0 q1 w_BUY w_SELL h0 n0 Z0 F  (1 : Int32) hr21) hZ (hw _ (List.mem_of_getElem? (i := 15) rfl)) (hw _ (List.mem_of_getElem? (i := 1) rfl)) (by decide) (by decide)) q21a q21c (g := (mkF m 38 #[.val (.long q0), .second, .val (.long q1), .second, .val (.int p2), .val (.ref w_SELL), .val (.ref w_BUY), .val (.int (0 : Int32)), .unset, .unset, .unset, .unset] [(.long q1), (.long q0), (.ref w_BUY)])) rfl (by rw [hml]; rfl) (Steps.refl _) (argsL := [(.long q0), (.long q1)]) (rest := []) (lenOf pd_0_38 rfl) rfl (by show 2 * 0 + _ ≤ _; exact Nat.le_of_eq rfl) (hb hby at_38) (fun _ _ => ⟨rfl, e20, (by decide : 0 + 0 ≤ _), (by decide : 0 + 0 ≤ _)⟩)
      dsimp only [Pt.U, Pt.locs, Pt.cells, Pt.slots] at X21 l21 y21 z21 st21 hQ21
      subst l21 y21 z21
      obtain ⟨rfl, N21q, e21⟩ := hQ21
      have N21 := Fr.app N20 N21q
      have hk22 : ¬ ((lcmpW q1 q0) = (0 : Int32)) := by rw [lcW, lc_eq]; exact own_ne hs1
      obtain ⟨T23, X23, e23, st23⟩ := getS2 X21 hx hZ hown (host := "") (Or.inl (hw _ (List.mem_of_getElem? (i := 0) rfl))) Via.refl e21 S_BUY (g := (mkF m 101 #[.val (.long q0), .second, .val (.long q1), .second, .val (.int p2), .val (.ref w_SELL), .val (.ref w_BUY), .val (.int (0 : Int32)), .val (.int (1 : Int32)), .val (.int (1 : Int32)), .unset, .unset] [])) rfl (hb hby at_101)
      have hr24 : (1 : Int32) = v2 w_BUY q0 q1 w_BUY w_SELL := own_buy (own_le hs1)
      obtain ⟨cq24, kq24, q24a, q24b, q24c⟩ := isOf hZ e23 (show Exa Z h0 w_BUY "com/example/orderwarden/orderwarden/Side" from E_BUY)
      obtain ⟨_, _, ⟨T24, L24, k24, n24⟩, -, X24, ⟨Lc24, hQ24, l24, y24, z24⟩, st24⟩ := X23.virtualBack hx (y := (⟨"com/example/orderwarden/orderwarden/Side", "accepts", "(JJ)Z"⟩ : MethodName)) (z := (⟨"com/example/orderwarden/orderwarden/Side", "accepts", "(JJ)Z"⟩ : MethodName)) hown (mvT hZ (hw _ (List.mem_of_getElem? (i := 11) rfl))) (mvT hZ (hw _ (List.mem_of_getElem? (i := 12) rfl))) (notFace_of_selects (args := #[]) (mvT hZ (hw _ (List.mem_of_getElem? (i := 14) rfl)))) (mvT hZ (hw _ (List.mem_of_getElem? (i := 14) rfl))) (mvT hZ (hw _ (List.mem_of_getElem? (i := 13) rfl))) (by decide) (backOf (W := 0) (rm2 l Z ar0 hw [] w_BUY q0 q1 w_BUY w_SELL h0 n0 Z0 F  (1 : Int32) hr24) hZ (hw _ (List.mem_of_getElem? (i := 15) rfl)) (hw _ (List.mem_of_getElem? (i := 1) rfl)) (by decide) (by decide)) q24a q24c (g := (mkF m 106 #[.val (.long q0), .second, .val (.long q1), .second, .val (.int p2), .val (.ref w_SELL), .val (.ref w_BUY), .val (.int (0 : Int32)), .val (.int (1 : Int32)), .val (.int (1 : Int32)), .unset, .unset] [(.long q1), (.long q0), (.ref w_BUY)])) rfl (by rw [hml]; rfl) (Steps.refl _) (argsL := [(.long q0), (.long q1)]) (rest := []) (lenOf pd_0_106 rfl) rfl (by show 2 * 0 + _ ≤ _; exact Nat.le_of_eq rfl) (hb hby at_106) (fun _ _ => ⟨rfl, e23, (by decide : 0 + 0 ≤ _), (by decide : 0 + 0 ≤ _)⟩)
      dsimp only [Pt.U, Pt.locs, Pt.cells, Pt.slots] at X24 l24 y24 z24 st24 hQ24
      subst l24 y24 z24
      obtain ⟨rfl, N24q, e24⟩ := hQ24
      have N24 := Fr.app N21 N24q
      obtain ⟨T25, X25, e25, st25⟩ := getS2 X24 hx hZ hown (host := "") (Or.inl (hw _ (List.mem_of_getElem? (i := 16) rfl))) Via.refl e24 S_SELL (g := (mkF m 111 #[.val (.long q0), .second, .val (.long q1), .second, .val (.int p2), .val (.ref w_SELL), .val (.ref w_BUY), .val (.int (0 : Int32)), .val (.int (1 : Int32)), .val (.int (1 : Int32)), .val (.int (1 : Int32)), .unset] [])) rfl (hb hby at_111)
      have hr26 : (0 : Int32) = v2 w_SELL q0 q1 w_BUY w_SELL := own_sell0 ne_SELL_BUY hs1
      obtain ⟨cq26, kq26, q26a, q26b, q26c⟩ := isOf hZ e25 (show Exa Z h0 w_SELL "com/example/orderwarden/orderwarden/Side" from E_SELL)
      obtain ⟨_, _, ⟨T26, L26, k26, n26⟩, -, X26, ⟨Lc26, hQ26, l26, y26, z26⟩, st26⟩ := X25.virtualBack hx (y := (⟨"com/example/orderwarden/orderwarden/Side", "accepts", "(JJ)Z"⟩ : MethodName)) (z := (⟨"com/example/orderwarden/orderwarden/Side", "accepts", "(JJ)Z"⟩ : MethodName)) hown (mvT hZ (hw _ (List.mem_of_getElem? (i := 11) rfl))) (mvT hZ (hw _ (List.mem_of_getElem? (i := 12) rfl))) (notFace_of_selects (args := #[]) (mvT hZ (hw _ (List.mem_of_getElem? (i := 14) rfl)))) (mvT hZ (hw _ (List.mem_of_getElem? (i := 14) rfl))) (mvT hZ (hw _ (List.mem_of_getElem? (i := 13) rfl))) (by decide) (backOf (W := 0) (rm2 l Z ar0 hw [] w_SELL q0 q1 w_BUY w_SELL h0 n0 Z0 F  (0 : Int32) hr26) hZ (hw _ (List.mem_of_getElem? (i := 15) rfl)) (hw _ (List.mem_of_getElem? (i := 1) rfl)) (by decide) (by decide)) q26a q26c (g := (mkF m 116 #[.val (.long q0), .second, .val (.long q1), .second, .val (.int p2), .val (.ref w_SELL), .val (.ref w_BUY), .val (.int (0 : Int32)), .val (.int (1 : Int32)), .val (.int (1 : Int32)), .val (.int (1 : Int32)), .unset] [(.long q1), (.long q0), (.ref w_SELL)])) rfl (by rw [hml]; rfl) (Steps.refl _) (argsL := [(.long q0), (.long q1)]) (rest := []) (lenOf pd_0_116 rfl) rfl (by show 2 * 0 + _ ≤ _; exact Nat.le_of_eq rfl) (hb hby at_116) (fun _ _ => ⟨rfl, e25, (by decide : 0 + 0 ≤ _), (by decide : 0 + 0 ≤ _)⟩)
      dsimp only [Pt.U, Pt.locs, Pt.cells, Pt.slots] at X26 l26 y26 z26 st26 hQ26
      subst l26 y26 z26
      obtain ⟨rfl, N26q, e26⟩ := hQ26
      have N26 := Fr.app N24 N26q
      obtain ⟨T27, X27, e27, st27⟩ := getS2 X26 hx hZ hown (host := "") (Or.inl (hw _ (List.mem_of_getElem? (i := 0) rfl))) Via.refl e26 S_BUY (g := (mkF m 128 #[.val (.long q0), .second, .val (.long q1), .second, .val (.int p2), .val (.ref w_SELL), .val (.ref w_BUY), .val (.int (0 : Int32)), .val (.int (1 : Int32)), .val (.int (1 : Int32)), .val (.int (1 : Int32)), .val (.int (0 : Int32))] [(.int (0 : Int32))])) rfl (hb hby at_128)
      have hr28 : (0 : Int32) = v2 w_BUY q1 q0 w_BUY w_SELL := own_buy0 hs1
      obtain ⟨cq28, kq28, q28a, q28b, q28c⟩ := isOf hZ e27 (show Exa Z h0 w_BUY "com/example/orderwarden/orderwarden/Side" from E_BUY)
      obtain ⟨_, _, ⟨T28, L28, k28, n28⟩, -, X28, ⟨Lc28, hQ28, l28, y28, z28⟩, st28⟩ := X27.virtualBack hx (y := (⟨"com/example/orderwarden/orderwarden/Side", "accepts", "(JJ)Z"⟩ : MethodName)) (z := (⟨"com/example/orderwarden/orderwarden/Side", "accepts", "(JJ)Z"⟩ : MethodName)) hown (mvT hZ (hw _ (List.mem_of_getElem? (i := 11) rfl))) (mvT hZ (hw _ (List.mem_of_getElem? (i := 12) rfl))) (notFace_of_selects (args := #[]) (mvT hZ (hw _ (List.mem_of_getElem? (i := 14) rfl)))) (mvT hZ (hw _ (List.mem_of_getElem? (i := 14) rfl))) (mvT hZ (hw _ (List.mem_of_getElem? (i := 13) rfl))) (by decide) (backOf (W := 1) (rm2 l Z ar0 hw [] w_BUY q1 q0 w_BUY w_SELL h0 n0 Z0 F  (0 : Int32) hr28) hZ (hw _ (List.mem_of_getElem? (i := 15) rfl)) (hw _ (List.mem_of_getElem? (i := 1) rfl)) (by decide) (by decide)) q28a q28c (g := (mkF m 133 #[.val (.long q0), .second, .val (.long q1), .second, .val (.int p2), .val (.ref w_SELL), .val (.ref w_BUY), .val (.int (0 : Int32)), .val (.int (1 : Int32)), .val (.int (1 : Int32)), .val (.int (1 : Int32)), .val (.int (0 : Int32))] [(.long q0), (.long q1), (.ref w_BUY), (.int (0 : Int32))])) rfl (by rw [hml]; rfl) (Steps.refl _) (argsL := [(.long q1), (.long q0)]) (rest := [(.int (0 : Int32))]) (lenOf pd_0_133 rfl) rfl (by show 2 * 0 + _ ≤ _; exact Nat.le_of_eq rfl) (hb hby at_133) (fun _ _ => ⟨rfl, e27, (by decide : 0 + 0 ≤ _), (by decide : 0 + 0 ≤ _)⟩)
      dsimp only [Pt.U, Pt.locs, Pt.cells, Pt.slots] at X28 l28 y28 z28 st28 hQ28
      subst l28 y28 z28
      obtain ⟨rfl, N28q, e28⟩ := hQ28
      have N28 := Fr.app N26 N28q
      have hk29 : (lcmpW q1 q0) < (0 : Int32) := by rw [lcW, lc_lt]; exact hs1
      have hr30 : (0 : Int64) = v3 w_SELL w_BUY w_SELL := by unfold v3; rw [if_neg ne_SELL_BUY]
      obtain ⟨cq30, kq30, q30a, q30b, q30c⟩ := isOf hZ e28 (show Exa Z h0 w_SELL "com/example/orderwarden/orderwarden/Side" from E_SELL)
      obtain ⟨_, _, ⟨T30, L30, k30, n30⟩, -, X30, ⟨Lc30, hQ30, l30, y30, z30⟩, st30⟩ := X28.virtualBack hx (y := (⟨"com/example/orderwarden/orderwarden/Side", "loosestLimit", "()J"⟩ : MethodName)) (z := (⟨"com/example/orderwarden/orderwarden/Side", "loosestLimit", "()J"⟩ : MethodName)) hown (mvT hZ (hw _ (List.mem_of_getElem? (i := 17) rfl))) (mvT hZ (hw _ (List.mem_of_getElem? (i := 18) rfl))) (notFace_of_selects (args := #[]) (mvT hZ (hw _ (List.mem_of_getElem? (i := 20) rfl)))) (mvT hZ (hw _ (List.mem_of_getElem? (i := 20) rfl))) (mvT hZ (hw _ (List.mem_of_getElem? (i := 19) rfl))) (by decide) (backOf (W := 1) (rm3 l Z ar0 hw [] w_SELL w_BUY w_SELL h0 n0 Z0 F  (0 : Int64) hr30) hZ (hw _ (List.mem_of_getElem? (i := 21) rfl)) (hw _ (List.mem_of_getElem? (i := 1) rfl)) (by decide) (by decide)) q30a q30c (g := (mkF m 178 #[.val (.long q0), .second, .val (.long q1), .second, .val (.int p2), .val (.ref w_SELL), .val (.ref w_BUY), .val (.int (0 : Int32)), .val (.int (1 : Int32)), .val (.int (1 : Int32)), .val (.int (1 : Int32)), .val (.int (0 : Int32))] [(.ref w_SELL), (.ref w_SELL)])) rfl (by rw [hml]; rfl) (Steps.refl _) (argsL := []) (rest := [(.ref w_SELL)]) (lenOf pd_0_178 rfl) rfl (by show 2 * 0 + _ ≤ _; exact Nat.le_of_eq rfl) (hb hby at_178) (fun _ _ => ⟨rfl, e28, (by decide : 0 + 0 ≤ _), (by decide : 0 + 0 ≤ _)⟩)
      dsimp only [Pt.U, Pt.locs, Pt.cells, Pt.slots] at X30 l30 y30 z30 st30 hQ30
      subst l30 y30 z30
      obtain ⟨rfl, N30q, e30⟩ := hQ30
      have N30 := Fr.app N28 N30q
      have hr31 : (1 : Int32) = v2 w_SELL (0 : Int64) (q1 &&& (9223372036854775807 : Int64)) w_BUY w_SELL := own_sell ne_SELL_BUY (own_and _).1
      obtain ⟨cq31, kq31, q31a, q31b, q31c⟩ := isOf hZ e30 (show Exa Z h0 w_SELL "com/example/orderwarden/orderwarden/Side" from E_SELL)
      obtain ⟨_, _, ⟨T31, L31, k31, n31⟩, -, X31, ⟨Lc31, hQ31, l31, y31, z31⟩, st31⟩ := X30.virtualBack hx (y := (⟨"com/example/orderwarden/orderwarden/Side", "accepts", "(JJ)Z"⟩ : MethodName)) (z := (⟨"com/example/orderwarden/orderwarden/Side", "accepts", "(JJ)Z"⟩ : MethodName)) hown (mvT hZ (hw _ (List.mem_of_getElem? (i := 11) rfl))) (mvT hZ (hw _ (List.mem_of_getElem? (i := 12) rfl))) (notFace_of_selects (args := #[]) (mvT hZ (hw _ (List.mem_of_getElem? (i := 14) rfl)))) (mvT hZ (hw _ (List.mem_of_getElem? (i := 14) rfl))) (mvT hZ (hw _ (List.mem_of_getElem? (i := 13) rfl))) (by decide) (backOf (W := 0) (rm2 l Z ar0 hw [] w_SELL (0 : Int64) (q1 &&& (9223372036854775807 : Int64)) w_BUY w_SELL h0 n0 Z0 F  (1 : Int32) hr31) hZ (hw _ (List.mem_of_getElem? (i := 15) rfl)) (hw _ (List.mem_of_getElem? (i := 1) rfl)) (by decide) (by decide)) q31a q31c (g := (mkF m 186 #[.val (.long q0), .second, .val (.long q1), .second, .val (.int p2), .val (.ref w_SELL), .val (.ref w_BUY), .val (.int (0 : Int32)), .val (.int (1 : Int32)), .val (.int (1 : Int32)), .val (.int (1 : Int32)), .val (.int (0 : Int32))] [(.long (q1 &&& (9223372036854775807 : Int64))), (.long (0 : Int64)), (.ref w_SELL)])) rfl (by rw [hml]; rfl) (Steps.refl _) (argsL := [(.long (0 : Int64)), (.long (q1 &&& (9223372036854775807 : Int64)))]) (rest := []) (lenOf pd_0_186 rfl) rfl (by show 2 * 0 + _ ≤ _; exact Nat.le_of_eq rfl) (hb hby at_186) (fun _ _ => ⟨rfl, e30, (by decide : 0 + 0 ≤ _), (by decide : 0 + 0 ≤ _)⟩)
      dsimp only [Pt.U, Pt.locs, Pt.cells, Pt.slots] at X31 l31 y31 z31 st31 hQ31
      subst l31 y31 z31
      obtain ⟨rfl, N31q, e31⟩ := hQ31
      have N31 := Fr.app N30 N31q
      obtain ⟨fs, hr, hrun, hended, hW, hsame⟩ := X31.leave (v := some (.int (1 : Int32))) (fun h => by rw [Bd.returns] at h; cases h)
      refine ⟨_, _, pre2 _ ?_, hrun, hended, _, _, rfl, ?_, ⟨_, rfl⟩, hW, hsame.mono (by decide) (by decide)⟩
      · show Steps p.tables e below (s₁.setTop (mkF m 4 #[.val (.long q0), .second, .val (.long q1), .second, .val (.int p2), .unset, .unset, .unset, .unset, .unset, .unset, .unset] [(.int (p2 &&& (1 : Int32)))])) _
        refine XS.ifNo X0.here hx rfl (hb hby at_4) rfl ((if0 _ _).trans (feq hc3).1) ?_
        show Steps p.tables e below (s₁.setTop (mkF m 7 #[.val (.long q0), .second, .val (.long q1), .second, .val (.int p2), .unset, .unset, .unset, .unset, .unset, .unset, .unset] [])) _
        refine st18 _ ?_
        show Steps p.tables e below (T18.setTop (mkF m 10 #[.val (.long q0), .second, .val (.long q1), .second, .val (.int p2), .unset, .unset, .unset, .unset, .unset, .unset, .unset] [(.ref w_SELL)])) _
        refine XS.goto X18.here hx rfl (pc0 := 10) (pc' := 16) rfl (hb hby at_10) (by decide) (by decide) ?_
        show Steps p.tables e below (T18.setTop (mkF m 16 #[.val (.long q0), .second, .val (.long q1), .second, .val (.int p2), .unset, .unset, .unset, .unset, .unset, .unset, .unset] [(.ref w_SELL)])) _
        refine XS.astore X18.here hx rfl (hb hby at_16) rfl rfl (l' := #[.val (.long q0), .second, .val (.long q1), .second, .val (.int p2), .val (.ref w_SELL), .unset, .unset, .unset, .unset, .unset, .unset]) rfl ?_
        show Steps p.tables e below (T18.setTop (mkF m 18 #[.val (.long q0), .second, .val (.long q1), .second, .val (.int p2), .val (.ref w_SELL), .unset, .unset, .unset, .unset, .unset, .unset] [])) _
        refine XS.aload X18.here hx rfl (hb hby at_18) rfl rfl ?_
        show Steps p.tables e below (T18.setTop (mkF m 20 #[.val (.long q0), .second, .val (.long q1), .second, .val (.int p2), .val (.ref w_SELL), .unset, .unset, .unset, .unset, .unset, .unset] [(.ref w_SELL)])) _
        refine st19.trans ?_
        show Steps p.tables e below (T19.setTop (mkF m 23 #[.val (.long q0), .second, .val (.long q1), .second, .val (.int p2), .val (.ref w_SELL), .unset, .unset, .unset, .unset, .unset, .unset] [(.ref w_BUY)])) _
        refine XS.astore X19.here hx rfl (hb hby at_23) rfl rfl (l' := #[.val (.long q0), .second, .val (.long q1), .second, .val (.int p2), .val (.ref w_SELL), .val (.ref w_BUY), .unset, .unset, .unset, .unset, .unset]) rfl ?_
        show Steps p.tables e below (T19.setTop (mkF m 25 #[.val (.long q0), .second, .val (.long q1), .second, .val (.int p2), .val (.ref w_SELL), .val (.ref w_BUY), .unset, .unset, .unset, .unset, .unset] [])) _
        refine XS.aload X19.here hx rfl (hb hby at_25) rfl rfl ?_
        show Steps p.tables e below (T19.setTop (mkF m 27 #[.val (.long q0), .second, .val (.long q1), .second, .val (.int p2), .val (.ref w_SELL), .val (.ref w_BUY), .unset, .unset, .unset, .unset, .unset] [(.ref w_SELL)])) _
        refine XS.lloadN X19.here hx rfl (hb hby at_27) rfl ?_
        show Steps p.tables e below (T19.setTop (mkF m 28 #[.val (.long q0), .second, .val (.long q1), .second, .val (.int p2), .val (.ref w_SELL), .val (.ref w_BUY), .unset, .unset, .unset, .unset, .unset] [(.long q0), (.ref w_SELL)])) _
        refine XS.lloadN X19.here hx rfl (hb hby at_28) rfl ?_
        show Steps p.tables e below (T19.setTop (mkF m 29 #[.val (.long q0), .second, .val (.long q1), .second, .val (.int p2), .val (.ref w_SELL), .val (.ref w_BUY), .unset, .unset, .unset, .unset, .unset] [(.long q1), (.long q0), (.ref w_SELL)])) _
        refine st20.trans ?_
        show Steps p.tables e below (T20.setTop (mkF m 32 #[.val (.long q0), .second, .val (.long q1), .second, .val (.int p2), .val (.ref w_SELL), .val (.ref w_BUY), .unset, .unset, .unset, .unset, .unset] [(.int (0 : Int32))])) _
        refine XS.istore X20.here hx rfl (hb hby at_32) rfl (l' := #[.val (.long q0), .second, .val (.long q1), .second, .val (.int p2), .val (.ref w_SELL), .val (.ref w_BUY), .val (.int (0 : Int32)), .unset, .unset, .unset, .unset]) rfl ?_
        show Steps p.tables e below (T20.setTop (mkF m 34 #[.val (.long q0), .second, .val (.long q1), .second, .val (.int p2), .val (.ref w_SELL), .val (.ref w_BUY), .val (.int (0 : Int32)), .unset, .unset, .unset, .unset] [])) _
        refine XS.aload X20.here hx rfl (hb hby at_34) rfl rfl ?_
        show Steps p.tables e below (T20.setTop (mkF m 36 #[.val (.long q0), .second, .val (.long q1), .second, .val (.int p2), .val (.ref w_SELL), .val (.ref w_BUY), .val (.int (0 : Int32)), .unset, .unset, .unset, .unset] [(.ref w_BUY)])) _
        refine XS.lloadN X20.here hx rfl (hb hby at_36) rfl ?_
        show Steps p.tables e below (T20.setTop (mkF m 37 #[.val (.long q0), .second, .val (.long q1), .second, .val (.int p2), .val (.ref w_SELL), .val (.ref w_BUY), .val (.int (0 : Int32)), .unset, .unset, .unset, .unset] [(.long q0), (.ref w_BUY)])) _
        refine XS.lloadN X20.here hx rfl (hb hby at_37) rfl ?_
        show Steps p.tables e below (T20.setTop (mkF m 38 #[.val (.long q0), .second, .val (.long q1), .second, .val (.int p2), .val (.ref w_SELL), .val (.ref w_BUY), .val (.int (0 : Int32)), .unset, .unset, .unset, .unset] [(.long q1), (.long q0), (.ref w_BUY)])) _
        refine st21.trans ?_
        show Steps p.tables e below (T21.setTop (mkF m 41 #[.val (.long q0), .second, .val (.long q1), .second, .val (.int p2), .val (.ref w_SELL), .val (.ref w_BUY), .val (.int (0 : Int32)), .unset, .unset, .unset, .unset] [(.int (1 : Int32))])) _
        refine XS.istore X21.here hx rfl (hb hby at_41) rfl (l' := #[.val (.long q0), .second, .val (.long q1), .second, .val (.int p2), .val (.ref w_SELL), .val (.ref w_BUY), .val (.int (0 : Int32)), .val (.int (1 : Int32)), .unset, .unset, .unset]) rfl ?_
        show Steps p.tables e below (T21.setTop (mkF m 43 #[.val (.long q0), .second, .val (.long q1), .second, .val (.int p2), .val (.ref w_SELL), .val (.ref w_BUY), .val (.int (0 : Int32)), .val (.int (1 : Int32)), .unset, .unset, .unset] [])) _
        refine XS.iload X21.here hx rfl (hb hby at_43) rfl ?_
        show Steps p.tables e below (T21.setTop (mkF m 45 #[.val (.long q0), .second, .val (.long q1), .second, .val (.int p2), .val (.ref w_SELL), .val (.ref w_BUY), .val (.int (0 : Int32)), .val (.int (1 : Int32)), .unset, .unset, .unset] [(.int (0 : Int32))])) _
        refine XS.ifNo X21.here hx rfl (hb hby at_45) rfl ((if0 _ _).trans (teq (by decide : (0 : Int32) = (0 : Int32))).2) ?_
        show Steps p.tables e below (T21.setTop (mkF m 48 #[.val (.long q0), .second, .val (.long q1), .second, .val (.int p2), .val (.ref w_SELL), .val (.ref w_BUY), .val (.int (0 : Int32)), .val (.int (1 : Int32)), .unset, .unset, .unset] [])) _
        refine XS.iload X21.here hx rfl (hb hby at_48) rfl ?_
        show Steps p.tables e below (T21.setTop (mkF m 50 #[.val (.long q0), .second, .val (.long q1), .second, .val (.int p2), .val (.ref w_SELL), .val (.ref w_BUY), .val (.int (0 : Int32)), .val (.int (1 : Int32)), .unset, .unset, .unset] [(.int (1 : Int32))])) _
        refine XS.ifNo X21.here hx rfl (hb hby at_50) rfl ((if0 _ _).trans (feq (by decide : ¬ ((1 : Int32) = (0 : Int32)))).1) ?_
        show Steps p.tables e below (T21.setTop (mkF m 53 #[.val (.long q0), .second, .val (.long q1), .second, .val (.int p2), .val (.ref w_SELL), .val (.ref w_BUY), .val (.int (0 : Int32)), .val (.int (1 : Int32)), .unset, .unset, .unset] [])) _
        refine XS.iconst X21.here hx rfl (hb hby at_53) ?_
        show Steps p.tables e below (T21.setTop (mkF m 54 #[.val (.long q0), .second, .val (.long q1), .second, .val (.int p2), .val (.ref w_SELL), .val (.ref w_BUY), .val (.int (0 : Int32)), .val (.int (1 : Int32)), .unset, .unset, .unset] [(.int (1 : Int32))])) _
        refine XS.goto X21.here hx rfl (pc0 := 54) (pc' := 58) rfl (hb hby at_54) (by decide) (by decide) ?_
        show Steps p.tables e below (T21.setTop (mkF m 58 #[.val (.long q0), .second, .val (.long q1), .second, .val (.int p2), .val (.ref w_SELL), .val (.ref w_BUY), .val (.int (0 : Int32)), .val (.int (1 : Int32)), .unset, .unset, .unset] [(.int (1 : Int32))])) _
        refine XS.istore X21.here hx rfl (hb hby at_58) rfl (l' := #[.val (.long q0), .second, .val (.long q1), .second, .val (.int p2), .val (.ref w_SELL), .val (.ref w_BUY), .val (.int (0 : Int32)), .val (.int (1 : Int32)), .val (.int (1 : Int32)), .unset, .unset]) rfl ?_
        show Steps p.tables e below (T21.setTop (mkF m 60 #[.val (.long q0), .second, .val (.long q1), .second, .val (.int p2), .val (.ref w_SELL), .val (.ref w_BUY), .val (.int (0 : Int32)), .val (.int (1 : Int32)), .val (.int (1 : Int32)), .unset, .unset] [])) _
        refine XS.iload X21.here hx rfl (hb hby at_60) rfl ?_
        show Steps p.tables e below (T21.setTop (mkF m 62 #[.val (.long q0), .second, .val (.long q1), .second, .val (.int p2), .val (.ref w_SELL), .val (.ref w_BUY), .val (.int (0 : Int32)), .val (.int (1 : Int32)), .val (.int (1 : Int32)), .unset, .unset] [(.int (1 : Int32))])) _
        refine XS.ifNo X21.here hx rfl (hb hby at_62) rfl ((if0 _ _).trans (feq (by decide : ¬ ((1 : Int32) = (0 : Int32)))).1) ?_
        show Steps p.tables e below (T21.setTop (mkF m 65 #[.val (.long q0), .second, .val (.long q1), .second, .val (.int p2), .val (.ref w_SELL), .val (.ref w_BUY), .val (.int (0 : Int32)), .val (.int (1 : Int32)), .val (.int (1 : Int32)), .unset, .unset] [])) _
        refine XS.iload X21.here hx rfl (hb hby at_65) rfl ?_
        show Steps p.tables e below (T21.setTop (mkF m 67 #[.val (.long q0), .second, .val (.long q1), .second, .val (.int p2), .val (.ref w_SELL), .val (.ref w_BUY), .val (.int (0 : Int32)), .val (.int (1 : Int32)), .val (.int (1 : Int32)), .unset, .unset] [(.int (0 : Int32))])) _
        refine XS.ifYes X21.here hx rfl (pc0 := 67) (pc' := 79) rfl (hb hby at_67) rfl ((if0 _ _).trans (teq (by decide : (0 : Int32) = (0 : Int32))).1) (by decide) (by decide) ?_
        show Steps p.tables e below (T21.setTop (mkF m 79 #[.val (.long q0), .second, .val (.long q1), .second, .val (.int p2), .val (.ref w_SELL), .val (.ref w_BUY), .val (.int (0 : Int32)), .val (.int (1 : Int32)), .val (.int (1 : Int32)), .unset, .unset] [])) _
        refine XS.iconst X21.here hx rfl (hb hby at_79) ?_
        show Steps p.tables e below (T21.setTop (mkF m 80 #[.val (.long q0), .second, .val (.long q1), .second, .val (.int p2), .val (.ref w_SELL), .val (.ref w_BUY), .val (.int (0 : Int32)), .val (.int (1 : Int32)), .val (.int (1 : Int32)), .unset, .unset] [(.int (0 : Int32))])) _
        refine XS.lloadN X21.here hx rfl (hb hby at_80) rfl ?_
        show Steps p.tables e below (T21.setTop (mkF m 81 #[.val (.long q0), .second, .val (.long q1), .second, .val (.int p2), .val (.ref w_SELL), .val (.ref w_BUY), .val (.int (0 : Int32)), .val (.int (1 : Int32)), .val (.int (1 : Int32)), .unset, .unset] [(.long q1), (.int (0 : Int32))])) _
        refine XS.lloadN X21.here hx rfl (hb hby at_81) rfl ?_
        show Steps p.tables e below (T21.setTop (mkF m 82 #[.val (.long q0), .second, .val (.long q1), .second, .val (.int p2), .val (.ref w_SELL), .val (.ref w_BUY), .val (.int (0 : Int32)), .val (.int (1 : Int32)), .val (.int (1 : Int32)), .unset, .unset] [(.long q0), (.long q1), (.int (0 : Int32))])) _
        refine XS.lcmp X21.here hx rfl (hb hby at_82) rfl ?_
        show Steps p.tables e below (T21.setTop (mkF m 83 #[.val (.long q0), .second, .val (.long q1), .second, .val (.int p2), .val (.ref w_SELL), .val (.ref w_BUY), .val (.int (0 : Int32)), .val (.int (1 : Int32)), .val (.int (1 : Int32)), .unset, .unset] [(.int (lcmpW q1 q0)), (.int (0 : Int32))])) _
        refine XS.ifYes X21.here hx rfl (pc0 := 83) (pc' := 90) rfl (hb hby at_83) rfl ((if0 _ _).trans (feq hk22).2) (by decide) (by decide) ?_
        show Steps p.tables e below (T21.setTop (mkF m 90 #[.val (.long q0), .second, .val (.long q1), .second, .val (.int p2), .val (.ref w_SELL), .val (.ref w_BUY), .val (.int (0 : Int32)), .val (.int (1 : Int32)), .val (.int (1 : Int32)), .unset, .unset] [(.int (0 : Int32))])) _
        refine XS.iconst X21.here hx rfl (hb hby at_90) ?_
        show Steps p.tables e below (T21.setTop (mkF m 91 #[.val (.long q0), .second, .val (.long q1), .second, .val (.int p2), .val (.ref w_SELL), .val (.ref w_BUY), .val (.int (0 : Int32)), .val (.int (1 : Int32)), .val (.int (1 : Int32)), .unset, .unset] [(.int (0 : Int32)), (.int (0 : Int32))])) _
        refine XS.icmpNo X21.here hx rfl (hb hby at_91) rfl (teq (by decide : (0 : Int32) = (0 : Int32))).2 ?_
        show Steps p.tables e below (T21.setTop (mkF m 94 #[.val (.long q0), .second, .val (.long q1), .second, .val (.int p2), .val (.ref w_SELL), .val (.ref w_BUY), .val (.int (0 : Int32)), .val (.int (1 : Int32)), .val (.int (1 : Int32)), .unset, .unset] [])) _
        refine XS.iconst X21.here hx rfl (hb hby at_94) ?_
        show Steps p.tables e below (T21.setTop (mkF m 95 #[.val (.long q0), .second, .val (.long q1), .second, .val (.int p2), .val (.ref w_SELL), .val (.ref w_BUY), .val (.int (0 : Int32)), .val (.int (1 : Int32)), .val (.int (1 : Int32)), .unset, .unset] [(.int (1 : Int32))])) _
        refine XS.goto X21.here hx rfl (pc0 := 95) (pc' := 99) rfl (hb hby at_95) (by decide) (by decide) ?_
        show Steps p.tables e below (T21.setTop (mkF m 99 #[.val (.long q0), .second, .val (.long q1), .second, .val (.int p2), .val (.ref w_SELL), .val (.ref w_BUY), .val (.int (0 : Int32)), .val (.int (1 : Int32)), .val (.int (1 : Int32)), .unset, .unset] [(.int (1 : Int32))])) _
        refine XS.istore X21.here hx rfl (hb hby at_99) rfl (l' := #[.val (.long q0), .second, .val (.long q1), .second, .val (.int p2), .val (.ref w_SELL), .val (.ref w_BUY), .val (.int (0 : Int32)), .val (.int (1 : Int32)), .val (.int (1 : Int32)), .unset, .unset]) rfl ?_
        show Steps p.tables e below (T21.setTop (mkF m 101 #[.val (.long q0), .second, .val (.long q1), .second, .val (.int p2), .val (.ref w_SELL), .val (.ref w_BUY), .val (.int (0 : Int32)), .val (.int (1 : Int32)), .val (.int (1 : Int32)), .unset, .unset] [])) _
        refine st23 _ ?_
        show Steps p.tables e below (T23.setTop (mkF m 104 #[.val (.long q0), .second, .val (.long q1), .second, .val (.int p2), .val (.ref w_SELL), .val (.ref w_BUY), .val (.int (0 : Int32)), .val (.int (1 : Int32)), .val (.int (1 : Int32)), .unset, .unset] [(.ref w_BUY)])) _
        refine XS.lloadN X23.here hx rfl (hb hby at_104) rfl ?_
        show Steps p.tables e below (T23.setTop (mkF m 105 #[.val (.long q0), .second, .val (.long q1), .second, .val (.int p2), .val (.ref w_SELL), .val (.ref w_BUY), .val (.int (0 : Int32)), .val (.int (1 : Int32)), .val (.int (1 : Int32)), .unset, .unset] [(.long q0), (.ref w_BUY)])) _
        refine XS.lloadN X23.here hx rfl (hb hby at_105) rfl ?_
        show Steps p.tables e below (T23.setTop (mkF m 106 #[.val (.long q0), .second, .val (.long q1), .second, .val (.int p2), .val (.ref w_SELL), .val (.ref w_BUY), .val (.int (0 : Int32)), .val (.int (1 : Int32)), .val (.int (1 : Int32)), .unset, .unset] [(.long q1), (.long q0), (.ref w_BUY)])) _
        refine st24.trans ?_
        show Steps p.tables e below (T24.setTop (mkF m 109 #[.val (.long q0), .second, .val (.long q1), .second, .val (.int p2), .val (.ref w_SELL), .val (.ref w_BUY), .val (.int (0 : Int32)), .val (.int (1 : Int32)), .val (.int (1 : Int32)), .unset, .unset] [(.int (1 : Int32))])) _
        refine XS.istore X24.here hx rfl (hb hby at_109) rfl (l' := #[.val (.long q0), .second, .val (.long q1), .second, .val (.int p2), .val (.ref w_SELL), .val (.ref w_BUY), .val (.int (0 : Int32)), .val (.int (1 : Int32)), .val (.int (1 : Int32)), .val (.int (1 : Int32)), .unset]) rfl ?_
        show Steps p.tables e below (T24.setTop (mkF m 111 #[.val (.long q0), .second, .val (.long q1), .second, .val (.int p2), .val (.ref w_SELL), .val (.ref w_BUY), .val (.int (0 : Int32)), .val (.int (1 : Int32)), .val (.int (1 : Int32)), .val (.int (1 : Int32)), .unset] [])) _
        refine st25 _ ?_
        show Steps p.tables e below (T25.setTop (mkF m 114 #[.val (.long q0), .second, .val (.long q1), .second, .val (.int p2), .val (.ref w_SELL), .val (.ref w_BUY), .val (.int (0 : Int32)), .val (.int (1 : Int32)), .val (.int (1 : Int32)), .val (.int (1 : Int32)), .unset] [(.ref w_SELL)])) _
        refine XS.lloadN X25.here hx rfl (hb hby at_114) rfl ?_
        show Steps p.tables e below (T25.setTop (mkF m 115 #[.val (.long q0), .second, .val (.long q1), .second, .val (.int p2), .val (.ref w_SELL), .val (.ref w_BUY), .val (.int (0 : Int32)), .val (.int (1 : Int32)), .val (.int (1 : Int32)), .val (.int (1 : Int32)), .unset] [(.long q0), (.ref w_SELL)])) _
        refine XS.lloadN X25.here hx rfl (hb hby at_115) rfl ?_
        show Steps p.tables e below (T25.setTop (mkF m 116 #[.val (.long q0), .second, .val (.long q1), .second, .val (.int p2), .val (.ref w_SELL), .val (.ref w_BUY), .val (.int (0 : Int32)), .val (.int (1 : Int32)), .val (.int (1 : Int32)), .val (.int (1 : Int32)), .unset] [(.long q1), (.long q0), (.ref w_SELL)])) _
        refine st26.trans ?_
        show Steps p.tables e below (T26.setTop (mkF m 119 #[.val (.long q0), .second, .val (.long q1), .second, .val (.int p2), .val (.ref w_SELL), .val (.ref w_BUY), .val (.int (0 : Int32)), .val (.int (1 : Int32)), .val (.int (1 : Int32)), .val (.int (1 : Int32)), .unset] [(.int (0 : Int32))])) _
        refine XS.istore X26.here hx rfl (hb hby at_119) rfl (l' := #[.val (.long q0), .second, .val (.long q1), .second, .val (.int p2), .val (.ref w_SELL), .val (.ref w_BUY), .val (.int (0 : Int32)), .val (.int (1 : Int32)), .val (.int (1 : Int32)), .val (.int (1 : Int32)), .val (.int (0 : Int32))]) rfl ?_
        show Steps p.tables e below (T26.setTop (mkF m 121 #[.val (.long q0), .second, .val (.long q1), .second, .val (.int p2), .val (.ref w_SELL), .val (.ref w_BUY), .val (.int (0 : Int32)), .val (.int (1 : Int32)), .val (.int (1 : Int32)), .val (.int (1 : Int32)), .val (.int (0 : Int32))] [])) _
        refine XS.iload X26.here hx rfl (hb hby at_121) rfl ?_
        show Steps p.tables e below (T26.setTop (mkF m 123 #[.val (.long q0), .second, .val (.long q1), .second, .val (.int p2), .val (.ref w_SELL), .val (.ref w_BUY), .val (.int (0 : Int32)), .val (.int (1 : Int32)), .val (.int (1 : Int32)), .val (.int (1 : Int32)), .val (.int (0 : Int32))] [(.int (1 : Int32))])) _
        refine XS.ifNo X26.here hx rfl (hb hby at_123) rfl ((if0 _ _).trans (feq (by decide : ¬ ((1 : Int32) = (0 : Int32)))).1) ?_
        show Steps p.tables e below (T26.setTop (mkF m 126 #[.val (.long q0), .second, .val (.long q1), .second, .val (.int p2), .val (.ref w_SELL), .val (.ref w_BUY), .val (.int (0 : Int32)), .val (.int (1 : Int32)), .val (.int (1 : Int32)), .val (.int (1 : Int32)), .val (.int (0 : Int32))] [])) _
        refine XS.iload X26.here hx rfl (hb hby at_126) rfl ?_
        show Steps p.tables e below (T26.setTop (mkF m 128 #[.val (.long q0), .second, .val (.long q1), .second, .val (.int p2), .val (.ref w_SELL), .val (.ref w_BUY), .val (.int (0 : Int32)), .val (.int (1 : Int32)), .val (.int (1 : Int32)), .val (.int (1 : Int32)), .val (.int (0 : Int32))] [(.int (0 : Int32))])) _
        refine st27 _ ?_
        show Steps p.tables e below (T27.setTop (mkF m 131 #[.val (.long q0), .second, .val (.long q1), .second, .val (.int p2), .val (.ref w_SELL), .val (.ref w_BUY), .val (.int (0 : Int32)), .val (.int (1 : Int32)), .val (.int (1 : Int32)), .val (.int (1 : Int32)), .val (.int (0 : Int32))] [(.ref w_BUY), (.int (0 : Int32))])) _
        refine XS.lloadN X27.here hx rfl (hb hby at_131) rfl ?_
        show Steps p.tables e below (T27.setTop (mkF m 132 #[.val (.long q0), .second, .val (.long q1), .second, .val (.int p2), .val (.ref w_SELL), .val (.ref w_BUY), .val (.int (0 : Int32)), .val (.int (1 : Int32)), .val (.int (1 : Int32)), .val (.int (1 : Int32)), .val (.int (0 : Int32))] [(.long q1), (.ref w_BUY), (.int (0 : Int32))])) _
        refine XS.lloadN X27.here hx rfl (hb hby at_132) rfl ?_
        show Steps p.tables e below (T27.setTop (mkF m 133 #[.val (.long q0), .second, .val (.long q1), .second, .val (.int p2), .val (.ref w_SELL), .val (.ref w_BUY), .val (.int (0 : Int32)), .val (.int (1 : Int32)), .val (.int (1 : Int32)), .val (.int (1 : Int32)), .val (.int (0 : Int32))] [(.long q0), (.long q1), (.ref w_BUY), (.int (0 : Int32))])) _
        refine st28.trans ?_
        show Steps p.tables e below (T28.setTop (mkF m 136 #[.val (.long q0), .second, .val (.long q1), .second, .val (.int p2), .val (.ref w_SELL), .val (.ref w_BUY), .val (.int (0 : Int32)), .val (.int (1 : Int32)), .val (.int (1 : Int32)), .val (.int (1 : Int32)), .val (.int (0 : Int32))] [(.int (0 : Int32)), (.int (0 : Int32))])) _
        refine XS.icmpNo X28.here hx rfl (hb hby at_136) rfl (teq (by decide : (0 : Int32) = (0 : Int32))).2 ?_
        show Steps p.tables e below (T28.setTop (mkF m 139 #[.val (.long q0), .second, .val (.long q1), .second, .val (.int p2), .val (.ref w_SELL), .val (.ref w_BUY), .val (.int (0 : Int32)), .val (.int (1 : Int32)), .val (.int (1 : Int32)), .val (.int (1 : Int32)), .val (.int (0 : Int32))] [])) _
        refine XS.iconst X28.here hx rfl (hb hby at_139) ?_
        show Steps p.tables e below (T28.setTop (mkF m 140 #[.val (.long q0), .second, .val (.long q1), .second, .val (.int p2), .val (.ref w_SELL), .val (.ref w_BUY), .val (.int (0 : Int32)), .val (.int (1 : Int32)), .val (.int (1 : Int32)), .val (.int (1 : Int32)), .val (.int (0 : Int32))] [(.int (1 : Int32))])) _
        refine XS.goto X28.here hx rfl (pc0 := 140) (pc' := 144) rfl (hb hby at_140) (by decide) (by decide) ?_
        show Steps p.tables e below (T28.setTop (mkF m 144 #[.val (.long q0), .second, .val (.long q1), .second, .val (.int p2), .val (.ref w_SELL), .val (.ref w_BUY), .val (.int (0 : Int32)), .val (.int (1 : Int32)), .val (.int (1 : Int32)), .val (.int (1 : Int32)), .val (.int (0 : Int32))] [(.int (1 : Int32))])) _
        refine XS.istore X28.here hx rfl (hb hby at_144) rfl (l' := #[.val (.long q0), .second, .val (.long q1), .second, .val (.int p2), .val (.ref w_SELL), .val (.ref w_BUY), .val (.int (0 : Int32)), .val (.int (1 : Int32)), .val (.int (1 : Int32)), .val (.int (1 : Int32)), .val (.int (0 : Int32))]) rfl ?_
        show Steps p.tables e below (T28.setTop (mkF m 146 #[.val (.long q0), .second, .val (.long q1), .second, .val (.int p2), .val (.ref w_SELL), .val (.ref w_BUY), .val (.int (0 : Int32)), .val (.int (1 : Int32)), .val (.int (1 : Int32)), .val (.int (1 : Int32)), .val (.int (0 : Int32))] [])) _
        refine XS.lloadN X28.here hx rfl (hb hby at_146) rfl ?_
        show Steps p.tables e below (T28.setTop (mkF m 147 #[.val (.long q0), .second, .val (.long q1), .second, .val (.int p2), .val (.ref w_SELL), .val (.ref w_BUY), .val (.int (0 : Int32)), .val (.int (1 : Int32)), .val (.int (1 : Int32)), .val (.int (1 : Int32)), .val (.int (0 : Int32))] [(.long q1)])) _
        refine XS.lloadN X28.here hx rfl (hb hby at_147) rfl ?_
        show Steps p.tables e below (T28.setTop (mkF m 148 #[.val (.long q0), .second, .val (.long q1), .second, .val (.int p2), .val (.ref w_SELL), .val (.ref w_BUY), .val (.int (0 : Int32)), .val (.int (1 : Int32)), .val (.int (1 : Int32)), .val (.int (1 : Int32)), .val (.int (0 : Int32))] [(.long q0), (.long q1)])) _
        refine XS.lcmp X28.here hx rfl (hb hby at_148) rfl ?_
        show Steps p.tables e below (T28.setTop (mkF m 149 #[.val (.long q0), .second, .val (.long q1), .second, .val (.int p2), .val (.ref w_SELL), .val (.ref w_BUY), .val (.int (0 : Int32)), .val (.int (1 : Int32)), .val (.int (1 : Int32)), .val (.int (1 : Int32)), .val (.int (0 : Int32))] [(.int (lcmpW q1 q0))])) _
        refine XS.ifNo X28.here hx rfl (hb hby at_149) rfl ((if0 _ _).trans (tlt hk29).2.1) ?_
        show Steps p.tables e below (T28.setTop (mkF m 152 #[.val (.long q0), .second, .val (.long q1), .second, .val (.int p2), .val (.ref w_SELL), .val (.ref w_BUY), .val (.int (0 : Int32)), .val (.int (1 : Int32)), .val (.int (1 : Int32)), .val (.int (1 : Int32)), .val (.int (0 : Int32))] [])) _
        refine XS.iload X28.here hx rfl (hb hby at_152) rfl ?_
        show Steps p.tables e below (T28.setTop (mkF m 154 #[.val (.long q0), .second, .val (.long q1), .second, .val (.int p2), .val (.ref w_SELL), .val (.ref w_BUY), .val (.int (0 : Int32)), .val (.int (1 : Int32)), .val (.int (1 : Int32)), .val (.int (1 : Int32)), .val (.int (0 : Int32))] [(.int (1 : Int32))])) _
        refine XS.ifNo X28.here hx rfl (hb hby at_154) rfl ((if0 _ _).trans (feq (by decide : ¬ ((1 : Int32) = (0 : Int32)))).1) ?_
        show Steps p.tables e below (T28.setTop (mkF m 157 #[.val (.long q0), .second, .val (.long q1), .second, .val (.int p2), .val (.ref w_SELL), .val (.ref w_BUY), .val (.int (0 : Int32)), .val (.int (1 : Int32)), .val (.int (1 : Int32)), .val (.int (1 : Int32)), .val (.int (0 : Int32))] [])) _
        refine XS.iload X28.here hx rfl (hb hby at_157) rfl ?_
        show Steps p.tables e below (T28.setTop (mkF m 159 #[.val (.long q0), .second, .val (.long q1), .second, .val (.int p2), .val (.ref w_SELL), .val (.ref w_BUY), .val (.int (0 : Int32)), .val (.int (1 : Int32)), .val (.int (1 : Int32)), .val (.int (1 : Int32)), .val (.int (0 : Int32))] [(.int (1 : Int32))])) _
        refine XS.ifNo X28.here hx rfl (hb hby at_159) rfl ((if0 _ _).trans (feq (by decide : ¬ ((1 : Int32) = (0 : Int32)))).1) ?_
        show Steps p.tables e below (T28.setTop (mkF m 162 #[.val (.long q0), .second, .val (.long q1), .second, .val (.int p2), .val (.ref w_SELL), .val (.ref w_BUY), .val (.int (0 : Int32)), .val (.int (1 : Int32)), .val (.int (1 : Int32)), .val (.int (1 : Int32)), .val (.int (0 : Int32))] [])) _
        refine XS.iconst X28.here hx rfl (hb hby at_162) ?_
        show Steps p.tables e below (T28.setTop (mkF m 163 #[.val (.long q0), .second, .val (.long q1), .second, .val (.int p2), .val (.ref w_SELL), .val (.ref w_BUY), .val (.int (0 : Int32)), .val (.int (1 : Int32)), .val (.int (1 : Int32)), .val (.int (1 : Int32)), .val (.int (0 : Int32))] [(.int (1 : Int32))])) _
        refine XS.goto X28.here hx rfl (pc0 := 163) (pc' := 167) rfl (hb hby at_163) (by decide) (by decide) ?_
        show Steps p.tables e below (T28.setTop (mkF m 167 #[.val (.long q0), .second, .val (.long q1), .second, .val (.int p2), .val (.ref w_SELL), .val (.ref w_BUY), .val (.int (0 : Int32)), .val (.int (1 : Int32)), .val (.int (1 : Int32)), .val (.int (1 : Int32)), .val (.int (0 : Int32))] [(.int (1 : Int32))])) _
        refine XS.istore X28.here hx rfl (hb hby at_167) rfl (l' := #[.val (.long q0), .second, .val (.long q1), .second, .val (.int p2), .val (.ref w_SELL), .val (.ref w_BUY), .val (.int (0 : Int32)), .val (.int (1 : Int32)), .val (.int (1 : Int32)), .val (.int (1 : Int32)), .val (.int (0 : Int32))]) rfl ?_
        show Steps p.tables e below (T28.setTop (mkF m 169 #[.val (.long q0), .second, .val (.long q1), .second, .val (.int p2), .val (.ref w_SELL), .val (.ref w_BUY), .val (.int (0 : Int32)), .val (.int (1 : Int32)), .val (.int (1 : Int32)), .val (.int (1 : Int32)), .val (.int (0 : Int32))] [])) _
        refine XS.iload X28.here hx rfl (hb hby at_169) rfl ?_
        show Steps p.tables e below (T28.setTop (mkF m 171 #[.val (.long q0), .second, .val (.long q1), .second, .val (.int p2), .val (.ref w_SELL), .val (.ref w_BUY), .val (.int (0 : Int32)), .val (.int (1 : Int32)), .val (.int (1 : Int32)), .val (.int (1 : Int32)), .val (.int (0 : Int32))] [(.int (1 : Int32))])) _
        refine XS.ifNo X28.here hx rfl (hb hby at_171) rfl ((if0 _ _).trans (feq (by decide : ¬ ((1 : Int32) = (0 : Int32)))).1) ?_
        show Steps p.tables e below (T28.setTop (mkF m 174 #[.val (.long q0), .second, .val (.long q1), .second, .val (.int p2), .val (.ref w_SELL), .val (.ref w_BUY), .val (.int (0 : Int32)), .val (.int (1 : Int32)), .val (.int (1 : Int32)), .val (.int (1 : Int32)), .val (.int (0 : Int32))] [])) _
        refine XS.aload X28.here hx rfl (hb hby at_174) rfl rfl ?_
        show Steps p.tables e below (T28.setTop (mkF m 176 #[.val (.long q0), .second, .val (.long q1), .second, .val (.int p2), .val (.ref w_SELL), .val (.ref w_BUY), .val (.int (0 : Int32)), .val (.int (1 : Int32)), .val (.int (1 : Int32)), .val (.int (1 : Int32)), .val (.int (0 : Int32))] [(.ref w_SELL)])) _
        refine XS.aload X28.here hx rfl (hb hby at_176) rfl rfl ?_
        show Steps p.tables e below (T28.setTop (mkF m 178 #[.val (.long q0), .second, .val (.long q1), .second, .val (.int p2), .val (.ref w_SELL), .val (.ref w_BUY), .val (.int (0 : Int32)), .val (.int (1 : Int32)), .val (.int (1 : Int32)), .val (.int (1 : Int32)), .val (.int (0 : Int32))] [(.ref w_SELL), (.ref w_SELL)])) _
        refine st30.trans ?_
        show Steps p.tables e below (T30.setTop (mkF m 181 #[.val (.long q0), .second, .val (.long q1), .second, .val (.int p2), .val (.ref w_SELL), .val (.ref w_BUY), .val (.int (0 : Int32)), .val (.int (1 : Int32)), .val (.int (1 : Int32)), .val (.int (1 : Int32)), .val (.int (0 : Int32))] [(.long (0 : Int64)), (.ref w_SELL)])) _
        refine XS.lloadN X30.here hx rfl (hb hby at_181) rfl ?_
        show Steps p.tables e below (T30.setTop (mkF m 182 #[.val (.long q0), .second, .val (.long q1), .second, .val (.int p2), .val (.ref w_SELL), .val (.ref w_BUY), .val (.int (0 : Int32)), .val (.int (1 : Int32)), .val (.int (1 : Int32)), .val (.int (1 : Int32)), .val (.int (0 : Int32))] [(.long q1), (.long (0 : Int64)), (.ref w_SELL)])) _
        refine X30.ldc2Long hx hown (mvT hZ (hw _ (List.mem_of_getElem? (i := 23) rfl))) (g := (mkF m 182 #[.val (.long q0), .second, .val (.long q1), .second, .val (.int p2), .val (.ref w_SELL), .val (.ref w_BUY), .val (.int (0 : Int32)), .val (.int (1 : Int32)), .val (.int (1 : Int32)), .val (.int (1 : Int32)), .val (.int (0 : Int32))] [(.long q1), (.long (0 : Int64)), (.ref w_SELL)])) rfl (hb hby at_182) _ ?_
        show Steps p.tables e below (T30.setTop (mkF m 185 #[.val (.long q0), .second, .val (.long q1), .second, .val (.int p2), .val (.ref w_SELL), .val (.ref w_BUY), .val (.int (0 : Int32)), .val (.int (1 : Int32)), .val (.int (1 : Int32)), .val (.int (1 : Int32)), .val (.int (0 : Int32))] [(.long (9223372036854775807 : Int64)), (.long q1), (.long (0 : Int64)), (.ref w_SELL)])) _
        refine XS.land X30.here hx rfl (hb hby at_185) rfl ?_
        show Steps p.tables e below (T30.setTop (mkF m 186 #[.val (.long q0), .second, .val (.long q1), .second, .val (.int p2), .val (.ref w_SELL), .val (.ref w_BUY), .val (.int (0 : Int32)), .val (.int (1 : Int32)), .val (.int (1 : Int32)), .val (.int (1 : Int32)), .val (.int (0 : Int32))] [(.long (q1 &&& (9223372036854775807 : Int64))), (.long (0 : Int64)), (.ref w_SELL)])) _
        refine st31.trans ?_
        show Steps p.tables e below (T31.setTop (mkF m 189 #[.val (.long q0), .second, .val (.long q1), .second, .val (.int p2), .val (.ref w_SELL), .val (.ref w_BUY), .val (.int (0 : Int32)), .val (.int (1 : Int32)), .val (.int (1 : Int32)), .val (.int (1 : Int32)), .val (.int (0 : Int32))] [(.int (1 : Int32))])) _
        refine XS.ifNo X31.here hx rfl (hb hby at_189) rfl ((if0 _ _).trans (feq (by decide : ¬ ((1 : Int32) = (0 : Int32)))).1) ?_
        show Steps p.tables e below (T31.setTop (mkF m 192 #[.val (.long q0), .second, .val (.long q1), .second, .val (.int p2), .val (.ref w_SELL), .val (.ref w_BUY), .val (.int (0 : Int32)), .val (.int (1 : Int32)), .val (.int (1 : Int32)), .val (.int (1 : Int32)), .val (.int (0 : Int32))] [])) _
        refine XS.iconst X31.here hx rfl (hb hby at_192) ?_
        show Steps p.tables e below (T31.setTop (mkF m 193 #[.val (.long q0), .second, .val (.long q1), .second, .val (.int p2), .val (.ref w_SELL), .val (.ref w_BUY), .val (.int (0 : Int32)), .val (.int (1 : Int32)), .val (.int (1 : Int32)), .val (.int (1 : Int32)), .val (.int (0 : Int32))] [(.int (1 : Int32))])) _
        refine XS.goto X31.here hx rfl (pc0 := 193) (pc' := 197) rfl (hb hby at_193) (by decide) (by decide) ?_
        show Steps p.tables e below (T31.setTop (mkF m 197 #[.val (.long q0), .second, .val (.long q1), .second, .val (.int p2), .val (.ref w_SELL), .val (.ref w_BUY), .val (.int (0 : Int32)), .val (.int (1 : Int32)), .val (.int (1 : Int32)), .val (.int (1 : Int32)), .val (.int (0 : Int32))] [(.int (1 : Int32))])) _
        refine XS.istore X31.here hx rfl (hb hby at_197) rfl (l' := #[.val (.long q0), .second, .val (.long q1), .second, .val (.int p2), .val (.ref w_SELL), .val (.ref w_BUY), .val (.int (0 : Int32)), .val (.int (1 : Int32)), .val (.int (1 : Int32)), .val (.int (1 : Int32)), .val (.int (0 : Int32))]) rfl ?_
        show Steps p.tables e below (T31.setTop (mkF m 199 #[.val (.long q0), .second, .val (.long q1), .second, .val (.int p2), .val (.ref w_SELL), .val (.ref w_BUY), .val (.int (0 : Int32)), .val (.int (1 : Int32)), .val (.int (1 : Int32)), .val (.int (1 : Int32)), .val (.int (0 : Int32))] [])) _
        refine XS.iload X31.here hx rfl (hb hby at_199) rfl ?_
        show Steps p.tables e below (T31.setTop (mkF m 201 #[.val (.long q0), .second, .val (.long q1), .second, .val (.int p2), .val (.ref w_SELL), .val (.ref w_BUY), .val (.int (0 : Int32)), .val (.int (1 : Int32)), .val (.int (1 : Int32)), .val (.int (1 : Int32)), .val (.int (0 : Int32))] [(.int (1 : Int32))])) _
        exact retN X31 hx (t := .boolean) Bd.returns (by simp) (hb hby at_201) hr
      · show Qp (some (.int (1 : Int32))) h0 n0 _ T31.heap _
        rw [e31]
        exact ⟨rfl, N31, rfl⟩
  ·
    by_cases hs32 : q1 = q0
    ·
      have pre33 : ∀ t, Steps p.tables e below (s₁.setTop (mkF m 4 #[.val (.long q0), .second, .val (.long q1), .second, .val (.int p2), .unset, .unset, .unset, .unset, .unset, .unset, .unset] [(.int (p2 &&& (1 : Int32)))])) t → Steps p.tables e below (s₁.setTop (entryFrame m #[(.long q0), (.long q1), (.int p2)] maxLocals)) t := by
        intro t k
        refine pre0 _ ?_
        show Steps p.tables e below (s₁.setTop (mkF m 0 #[.val (.long q0), .second, .val (.long q1), .second, .val (.int p2), .unset, .unset, .unset, .unset, .unset, .unset, .unset] [])) _
        refine XS.iload X0.here hx rfl (hb hby at_0) rfl ?_
        show Steps p.tables e below (s₁.setTop (mkF m 2 #[.val (.long q0), .second, .val (.long q1), .second, .val (.int p2), .unset, .unset, .unset, .unset, .unset, .unset, .unset] [(.int p2)])) _
        refine XS.iconst X0.here hx rfl (hb hby at_2) ?_
        show Steps p.tables e below (s₁.setTop (mkF m 3 #[.val (.long q0), .second, .val (.long q1), .second, .val (.int p2), .unset, .unset, .unset, .unset, .unset, .unset, .unset] [(.int (1 : Int32)), (.int p2)])) _
        refine XS.iand X0.here hx rfl (hb hby at_3) rfl ?_
        exact k
      by_cases hc34 : (p2 &&& (1 : Int32)) = (0 : Int32)
      ·
        obtain ⟨T35, X35, e35, st35⟩ := getS2 X0 hx hZ hown (host := "") (Or.inl (hw _ (List.mem_of_getElem? (i := 0) rfl))) Via.refl e0 S_BUY (g := (mkF m 13 #[.val (.long q0), .second, .val (.long q1), .second, .val (.int p2), .unset, .unset, .unset, .unset, .unset, .unset, .unset] [])) rfl (hb hby at_13)
        have hr36 : w_SELL = v1 w_BUY w_BUY w_SELL := by unfold v1; rw [if_pos rfl]
        obtain ⟨cq36, kq36, q36a, q36b, q36c⟩ := isOf hZ e35 (show Exa Z h0 w_BUY "com/example/orderwarden/orderwarden/Side" from E_BUY)
        obtain ⟨_, _, ⟨T36, L36, k36, n36⟩, -, X36, ⟨Lc36, hQ36, l36, y36, z36⟩, st36⟩ := X35.virtualBack hx (y := (⟨"com/example/orderwarden/orderwarden/Side", "opposite", "()Lcom/example/orderwarden/orderwarden/Side;"⟩ : MethodName)) (z := (⟨"com/example/orderwarden/orderwarden/Side", "opposite", "()Lcom/example/orderwarden/orderwarden/Side;"⟩ : MethodName)) hown (mvT hZ (hw _ (List.mem_of_getElem? (i := 3) rfl))) (mvT hZ (hw _ (List.mem_of_getElem? (i := 4) rfl))) (notFace_of_selects (args := #[]) (mvT hZ (hw _ (List.mem_of_getElem? (i := 6) rfl)))) (mvT hZ (hw _ (List.mem_of_getElem? (i := 6) rfl))) (mvT hZ (hw _ (List.mem_of_getElem? (i := 5) rfl))) (by decide) (backOf (W := 0) (rm1 l Z ar0 hw [] w_BUY w_BUY w_SELL h0 n0 Z0 F  w_SELL hr36) hZ (hw _ (List.mem_of_getElem? (i := 7) rfl)) (hw _ (List.mem_of_getElem? (i := 1) rfl)) (by decide) (by decide)) q36a q36c (g := (mkF m 20 #[.val (.long q0), .second, .val (.long q1), .second, .val (.int p2), .val (.ref w_BUY), .unset, .unset, .unset, .unset, .unset, .unset] [(.ref w_BUY)])) rfl (by rw [hml]; rfl) (Steps.refl _) (argsL := []) (rest := []) (lenOf pd_0_20 rfl) rfl (by show 2 * 0 + _ ≤ _; exact Nat.le_of_eq rfl) (hb hby at_20) (fun _ _ => ⟨rfl, e35, (by decide : 0 + 0 ≤ _), (by decide : 0 + 0 ≤ _)⟩)
        dsimp only [Pt.U, Pt.locs, Pt.cells, Pt.slots] at X36 l36 y36 z36 st36 hQ36
        subst l36 y36 z36
        obtain ⟨rfl, N36q, e36⟩ := hQ36
        have N36 := Fr.app N0 N36q
        have hr37 : (1 : Int32) = v2 w_BUY q0 q1 w_BUY w_SELL := own_buy (by rw [hs32]; exact own_refl _)
        obtain ⟨cq37, kq37, q37a, q37b, q37c⟩ := isOf hZ e36 (show Exa Z h0 w_BUY "com/example/orderwarden/orderwarden/Side" from E_BUY)
        obtain ⟨_, _, ⟨T37, L37, k37, n37⟩, -, X37, ⟨Lc37, hQ37, l37, y37, z37⟩, st37⟩ := X36.virtualBack hx (y := (⟨"com/example/orderwarden/orderwarden/Side", "accepts", "(JJ)Z"⟩ : MethodName)) (z := (⟨"com/example/orderwarden/orderwarden/Side", "accepts", "(JJ)Z"⟩ : MethodName)) hown (mvT hZ (hw _ (List.mem_of_getElem? (i := 11) rfl))) (mvT hZ (hw _ (List.mem_of_getElem? (i := 12) rfl))) (notFace_of_selects (args := #[]) (mvT hZ (hw _ (List.mem_of_getElem? (i := 14) rfl)))) (mvT hZ (hw _ (List.mem_of_getElem? (i := 14) rfl))) (mvT hZ (hw _ (List.mem_of_getElem? (i := 13) rfl))) (by decide) (backOf (W := 0) (rm2 l Z ar0 hw [] w_BUY q0 q1 w_BUY w_SELL h0 n0 Z0 F  (1 : Int32) hr37) hZ (hw _ (List.mem_of_getElem? (i := 15) rfl)) (hw _ (List.mem_of_getElem? (i := 1) rfl)) (by decide) (by decide)) q37a q37c (g := (mkF m 29 #[.val (.long q0), .second, .val (.long q1), .second, .val (.int p2), .val (.ref w_BUY), .val (.ref w_SELL), .unset, .unset, .unset, .unset, .unset] [(.long q1), (.long q0), (.ref w_BUY)])) rfl (by rw [hml]; rfl) (Steps.refl _) (argsL := [(.long q0), (.long q1)]) (rest := []) (lenOf pd_0_29 rfl) rfl (by show 2 * 0 + _ ≤ _; exact Nat.le_of_eq rfl) (hb hby at_29) (fun _ _ => ⟨rfl, e36, (by decide : 0 + 0 ≤ _), (by decide : 0 + 0 ≤ _)⟩)
        dsimp only [Pt.U, Pt.locs, Pt.cells, Pt.slots] at X37 l37 y37 z37 st37 hQ37
        subst l37 y37 z37
        obtain ⟨rfl, N37q, e37⟩ := hQ37
        have N37 := Fr.app N36 N37q
        have hr38 : (1 : Int32) = v2 w_SELL q0 q1 w_BUY w_SELL := own_sell ne_SELL_BUY (by rw [hs32]; exact own_refl _)
        obtain ⟨cq38, kq38, q38a, q38b, q38c⟩ := isOf hZ e37 (show Exa Z h0 w_SELL "com/example/orderwarden/orderwarden/Side" from E_SELL)
        obtain ⟨_, _, ⟨T38, L38, k38, n38⟩, -, X38, ⟨Lc38, hQ38, l38, y38, z38⟩, st38⟩ := X37.virtualBack hx (y := (⟨"com/example/orderwarden/orderwarden/Side", "accepts", "(JJ)Z"⟩ : MethodName)) (z := (⟨"com/example/orderwarden/orderwarden/Side", "accepts", "(JJ)Z"⟩ : MethodName)) hown (mvT hZ (hw _ (List.mem_of_getElem? (i := 11) rfl))) (mvT hZ (hw _ (List.mem_of_getElem? (i := 12) rfl))) (notFace_of_selects (args := #[]) (mvT hZ (hw _ (List.mem_of_getElem? (i := 14) rfl)))) (mvT hZ (hw _ (List.mem_of_getElem? (i := 14) rfl))) (mvT hZ (hw _ (List.mem_of_getElem? (i := 13) rfl))) (by decide) (backOf (W := 0) (rm2 l Z ar0 hw [] w_SELL q0 q1 w_BUY w_SELL h0 n0 Z0 F  (1 : Int32) hr38) hZ (hw _ (List.mem_of_getElem? (i := 15) rfl)) (hw _ (List.mem_of_getElem? (i := 1) rfl)) (by decide) (by decide)) q38a q38c (g := (mkF m 38 #[.val (.long q0), .second, .val (.long q1), .second, .val (.int p2), .val (.ref w_BUY), .val (.ref w_SELL), .val (.int (1 : Int32)), .unset, .unset, .unset, .unset] [(.long q1), (.long q0), (.ref w_SELL)])) rfl (by rw [hml]; rfl) (Steps.refl _) (argsL := [(.long q0), (.long q1)]) (rest := []) (lenOf pd_0_38 rfl) rfl (by show 2 * 0 + _ ≤ _; exact Nat.le_of_eq rfl) (hb hby at_38) (fun _ _ => ⟨rfl, e37, (by decide : 0 + 0 ≤ _), (by decide : 0 + 0 ≤ _)⟩)
        dsimp only [Pt.U, Pt.locs, Pt.cells, Pt.slots] at X38 l38 y38 z38 st38 hQ38
        subst l38 y38 z38
        obtain ⟨rfl, N38q, e38⟩ := hQ38
        have N38 := Fr.app N37 N38q
        have hk39 : (lcmpW q1 q0) = (0 : Int32) := by rw [lcW, lc_eq]; exact hs32
        obtain ⟨T40, X40, e40, st40⟩ := getS2 X38 hx hZ hown (host := "") (Or.inl (hw _ (List.mem_of_getElem? (i := 0) rfl))) Via.refl e38 S_BUY (g := (mkF m 101 #[.val (.long q0), .second, .val (.long q1), .second, .val (.int p2), .val (.ref w_BUY), .val (.ref w_SELL), .val (.int (1 : Int32)), .val (.int (1 : Int32)), .val (.int (1 : Int32)), .unset, .unset] [])) rfl (hb hby at_101)
        have hr41 : (1 : Int32) = v2 w_BUY q0 q1 w_BUY w_SELL := own_buy (by rw [hs32]; exact own_refl _)
        obtain ⟨cq41, kq41, q41a, q41b, q41c⟩ := isOf hZ e40 (show Exa Z h0 w_BUY "com/example/orderwarden/orderwarden/Side" from E_BUY)
        obtain ⟨_, _, ⟨T41, L41, k41, n41⟩, -, X41, ⟨Lc41, hQ41, l41, y41, z41⟩, st41⟩ := X40.virtualBack hx (y := (⟨"com/example/orderwarden/orderwarden/Side", "accepts", "(JJ)Z"⟩ : MethodName)) (z := (⟨"com/example/orderwarden/orderwarden/Side", "accepts", "(JJ)Z"⟩ : MethodName)) hown (mvT hZ (hw _ (List.mem_of_getElem? (i := 11) rfl))) (mvT hZ (hw _ (List.mem_of_getElem? (i := 12) rfl))) (notFace_of_selects (args := #[]) (mvT hZ (hw _ (List.mem_of_getElem? (i := 14) rfl)))) (mvT hZ (hw _ (List.mem_of_getElem? (i := 14) rfl))) (mvT hZ (hw _ (List.mem_of_getElem? (i := 13) rfl))) (by decide) (backOf (W := 0) (rm2 l Z ar0 hw [] w_BUY q0 q1 w_BUY w_SELL h0 n0 Z0 F  (1 : Int32) hr41) hZ (hw _ (List.mem_of_getElem? (i := 15) rfl)) (hw _ (List.mem_of_getElem? (i := 1) rfl)) (by decide) (by decide)) q41a q41c (g := (mkF m 106 #[.val (.long q0), .second, .val (.long q1), .second, .val (.int p2), .val (.ref w_BUY), .val (.ref w_SELL), .val (.int (1 : Int32)), .val (.int (1 : Int32)), .val (.int (1 : Int32)), .unset, .unset] [(.long q1), (.long q0), (.ref w_BUY)])) rfl (by rw [hml]; rfl) (Steps.refl _) (argsL := [(.long q0), (.long q1)]) (rest := []) (lenOf pd_0_106 rfl) rfl (by show 2 * 0 + _ ≤ _; exact Nat.le_of_eq rfl) (hb hby at_106) (fun _ _ => ⟨rfl, e40, (by decide : 0 + 0 ≤ _), (by decide : 0 + 0 ≤ _)⟩)
        dsimp only [Pt.U, Pt.locs, Pt.cells, Pt.slots] at X41 l41 y41 z41 st41 hQ41
        subst l41 y41 z41
        obtain ⟨rfl, N41q, e41⟩ := hQ41
        have N41 := Fr.app N38 N41q
        obtain ⟨T42, X42, e42, st42⟩ := getS2 X41 hx hZ hown (host := "") (Or.inl (hw _ (List.mem_of_getElem? (i := 16) rfl))) Via.refl e41 S_SELL (g := (mkF m 111 #[.val (.long q0), .second, .val (.long q1), .second, .val (.int p2), .val (.ref w_BUY), .val (.ref w_SELL), .val (.int (1 : Int32)), .val (.int (1 : Int32)), .val (.int (1 : Int32)), .val (.int (1 : Int32)), .unset] [])) rfl (hb hby at_111)
        have hr43 : (1 : Int32) = v2 w_SELL q0 q1 w_BUY w_SELL := own_sell ne_SELL_BUY (by rw [hs32]; exact own_refl _)
        obtain ⟨cq43, kq43, q43a, q43b, q43c⟩ := isOf hZ e42 (show Exa Z h0 w_SELL "com/example/orderwarden/orderwarden/Side" from E_SELL)
        obtain ⟨_, _, ⟨T43, L43, k43, n43⟩, -, X43, ⟨Lc43, hQ43, l43, y43, z43⟩, st43⟩ := X42.virtualBack hx (y := (⟨"com/example/orderwarden/orderwarden/Side", "accepts", "(JJ)Z"⟩ : MethodName)) (z := (⟨"com/example/orderwarden/orderwarden/Side", "accepts", "(JJ)Z"⟩ : MethodName)) hown (mvT hZ (hw _ (List.mem_of_getElem? (i := 11) rfl))) (mvT hZ (hw _ (List.mem_of_getElem? (i := 12) rfl))) (notFace_of_selects (args := #[]) (mvT hZ (hw _ (List.mem_of_getElem? (i := 14) rfl)))) (mvT hZ (hw _ (List.mem_of_getElem? (i := 14) rfl))) (mvT hZ (hw _ (List.mem_of_getElem? (i := 13) rfl))) (by decide) (backOf (W := 0) (rm2 l Z ar0 hw [] w_SELL q0 q1 w_BUY w_SELL h0 n0 Z0 F  (1 : Int32) hr43) hZ (hw _ (List.mem_of_getElem? (i := 15) rfl)) (hw _ (List.mem_of_getElem? (i := 1) rfl)) (by decide) (by decide)) q43a q43c (g := (mkF m 116 #[.val (.long q0), .second, .val (.long q1), .second, .val (.int p2), .val (.ref w_BUY), .val (.ref w_SELL), .val (.int (1 : Int32)), .val (.int (1 : Int32)), .val (.int (1 : Int32)), .val (.int (1 : Int32)), .unset] [(.long q1), (.long q0), (.ref w_SELL)])) rfl (by rw [hml]; rfl) (Steps.refl _) (argsL := [(.long q0), (.long q1)]) (rest := []) (lenOf pd_0_116 rfl) rfl (by show 2 * 0 + _ ≤ _; exact Nat.le_of_eq rfl) (hb hby at_116) (fun _ _ => ⟨rfl, e42, (by decide : 0 + 0 ≤ _), (by decide : 0 + 0 ≤ _)⟩)
        dsimp only [Pt.U, Pt.locs, Pt.cells, Pt.slots] at X43 l43 y43 z43 st43 hQ43
        subst l43 y43 z43
        obtain ⟨rfl, N43q, e43⟩ := hQ43
        have N43 := Fr.app N41 N43q
        obtain ⟨T44, X44, e44, st44⟩ := getS2 X43 hx hZ hown (host := "") (Or.inl (hw _ (List.mem_of_getElem? (i := 0) rfl))) Via.refl e43 S_BUY (g := (mkF m 128 #[.val (.long q0), .second, .val (.long q1), .second, .val (.int p2), .val (.ref w_BUY), .val (.ref w_SELL), .val (.int (1 : Int32)), .val (.int (1 : Int32)), .val (.int (1 : Int32)), .val (.int (1 : Int32)), .val (.int (1 : Int32))] [(.int (1 : Int32))])) rfl (hb hby at_128)
        have hr45 : (1 : Int32) = v2 w_BUY q1 q0 w_BUY w_SELL := own_buy (by rw [hs32]; exact own_refl _)
        obtain ⟨cq45, kq45, q45a, q45b, q45c⟩ := isOf hZ e44 (show Exa Z h0 w_BUY "com/example/orderwarden/orderwarden/Side" from E_BUY)
        obtain ⟨_, _, ⟨T45, L45, k45, n45⟩, -, X45, ⟨Lc45, hQ45, l45, y45, z45⟩, st45⟩ := X44.virtualBack hx (y := (⟨"com/example/orderwarden/orderwarden/Side", "accepts", "(JJ)Z"⟩ : MethodName)) (z := (⟨"com/example/orderwarden/orderwarden/Side", "accepts", "(JJ)Z"⟩ : MethodName)) hown (mvT hZ (hw _ (List.mem_of_getElem? (i := 11) rfl))) (mvT hZ (hw _ (List.mem_of_getElem? (i := 12) rfl))) (notFace_of_selects (args := #[]) (mvT hZ (hw _ (List.mem_of_getElem? (i := 14) rfl)))) (mvT hZ (hw _ (List.mem_of_getElem? (i := 14) rfl))) (mvT hZ (hw _ (List.mem_of_getElem? (i := 13) rfl))) (by decide) (backOf (W := 1) (rm2 l Z ar0 hw [] w_BUY q1 q0 w_BUY w_SELL h0 n0 Z0 F  (1 : Int32) hr45) hZ (hw _ (List.mem_of_getElem? (i := 15) rfl)) (hw _ (List.mem_of_getElem? (i := 1) rfl)) (by decide) (by decide)) q45a q45c (g := (mkF m 133 #[.val (.long q0), .second, .val (.long q1), .second, .val (.int p2), .val (.ref w_BUY), .val (.ref w_SELL), .val (.int (1 : Int32)), .val (.int (1 : Int32)), .val (.int (1 : Int32)), .val (.int (1 : Int32)), .val (.int (1 : Int32))] [(.long q0), (.long q1), (.ref w_BUY), (.int (1 : Int32))])) rfl (by rw [hml]; rfl) (Steps.refl _) (argsL := [(.long q1), (.long q0)]) (rest := [(.int (1 : Int32))]) (lenOf pd_0_133 rfl) rfl (by show 2 * 0 + _ ≤ _; exact Nat.le_of_eq rfl) (hb hby at_133) (fun _ _ => ⟨rfl, e44, (by decide : 0 + 0 ≤ _), (by decide : 0 + 0 ≤ _)⟩)
        dsimp only [Pt.U, Pt.locs, Pt.cells, Pt.slots] at X45 l45 y45 z45 st45 hQ45
        subst l45 y45 z45
        obtain ⟨rfl, N45q, e45⟩ := hQ45
        have N45 := Fr.app N43 N45q
        have hk46 : ¬ ((lcmpW q1 q0) < (0 : Int32)) := by rw [lcW, lc_lt]; exact fun q => own_ne q hs32
        have hr47 : (9223372036854775807 : Int64) = v3 w_BUY w_BUY w_SELL := by unfold v3; rw [if_pos rfl]
        obtain ⟨cq47, kq47, q47a, q47b, q47c⟩ := isOf hZ e45 (show Exa Z h0 w_BUY "com/example/orderwarden/orderwarden/Side" from E_BUY)
        obtain ⟨_, _, ⟨T47, L47, k47, n47⟩, -, X47, ⟨Lc47, hQ47, l47, y47, z47⟩, st47⟩ := X45.virtualBack hx (y := (⟨"com/example/orderwarden/orderwarden/Side", "loosestLimit", "()J"⟩ : MethodName)) (z := (⟨"com/example/orderwarden/orderwarden/Side", "loosestLimit", "()J"⟩ : MethodName)) hown (mvT hZ (hw _ (List.mem_of_getElem? (i := 17) rfl))) (mvT hZ (hw _ (List.mem_of_getElem? (i := 18) rfl))) (notFace_of_selects (args := #[]) (mvT hZ (hw _ (List.mem_of_getElem? (i := 20) rfl)))) (mvT hZ (hw _ (List.mem_of_getElem? (i := 20) rfl))) (mvT hZ (hw _ (List.mem_of_getElem? (i := 19) rfl))) (by decide) (backOf (W := 1) (rm3 l Z ar0 hw [] w_BUY w_BUY w_SELL h0 n0 Z0 F  (9223372036854775807 : Int64) hr47) hZ (hw _ (List.mem_of_getElem? (i := 21) rfl)) (hw _ (List.mem_of_getElem? (i := 1) rfl)) (by decide) (by decide)) q47a q47c (g := (mkF m 178 #[.val (.long q0), .second, .val (.long q1), .second, .val (.int p2), .val (.ref w_BUY), .val (.ref w_SELL), .val (.int (1 : Int32)), .val (.int (1 : Int32)), .val (.int (1 : Int32)), .val (.int (1 : Int32)), .val (.int (1 : Int32))] [(.ref w_BUY), (.ref w_BUY)])) rfl (by rw [hml]; rfl) (Steps.refl _) (argsL := []) (rest := [(.ref w_BUY)]) (lenOf pd_0_178 rfl) rfl (by show 2 * 0 + _ ≤ _; exact Nat.le_of_eq rfl) (hb hby at_178) (fun _ _ => ⟨rfl, e45, (by decide : 0 + 0 ≤ _), (by decide : 0 + 0 ≤ _)⟩)
        dsimp only [Pt.U, Pt.locs, Pt.cells, Pt.slots] at X47 l47 y47 z47 st47 hQ47
        subst l47 y47 z47
        obtain ⟨rfl, N47q, e47⟩ := hQ47
        have N47 := Fr.app N45 N47q
        have hr48 : (1 : Int32) = v2 w_BUY (9223372036854775807 : Int64) (q1 &&& (9223372036854775807 : Int64)) w_BUY w_SELL := own_buy (own_and _).2
        obtain ⟨cq48, kq48, q48a, q48b, q48c⟩ := isOf hZ e47 (show Exa Z h0 w_BUY "com/example/orderwarden/orderwarden/Side" from E_BUY)
        obtain ⟨_, _, ⟨T48, L48, k48, n48⟩, -, X48, ⟨Lc48, hQ48, l48, y48, z48⟩, st48⟩ := X47.virtualBack hx (y := (⟨"com/example/orderwarden/orderwarden/Side", "accepts", "(JJ)Z"⟩ : MethodName)) (z := (⟨"com/example/orderwarden/orderwarden/Side", "accepts", "(JJ)Z"⟩ : MethodName)) hown (mvT hZ (hw _ (List.mem_of_getElem? (i := 11) rfl))) (mvT hZ (hw _ (List.mem_of_getElem? (i := 12) rfl))) (notFace_of_selects (args := #[]) (mvT hZ (hw _ (List.mem_of_getElem? (i := 14) rfl)))) (mvT hZ (hw _ (List.mem_of_getElem? (i := 14) rfl))) (mvT hZ (hw _ (List.mem_of_getElem? (i := 13) rfl))) (by decide) (backOf (W := 0) (rm2 l Z ar0 hw [] w_BUY (9223372036854775807 : Int64) (q1 &&& (9223372036854775807 : Int64)) w_BUY w_SELL h0 n0 Z0 F  (1 : Int32) hr48) hZ (hw _ (List.mem_of_getElem? (i := 15) rfl)) (hw _ (List.mem_of_getElem? (i := 1) rfl)) (by decide) (by decide)) q48a q48c (g := (mkF m 186 #[.val (.long q0), .second, .val (.long q1), .second, .val (.int p2), .val (.ref w_BUY), .val (.ref w_SELL), .val (.int (1 : Int32)), .val (.int (1 : Int32)), .val (.int (1 : Int32)), .val (.int (1 : Int32)), .val (.int (1 : Int32))] [(.long (q1 &&& (9223372036854775807 : Int64))), (.long (9223372036854775807 : Int64)), (.ref w_BUY)])) rfl (by rw [hml]; rfl) (Steps.refl _) (argsL := [(.long (9223372036854775807 : Int64)), (.long (q1 &&& (9223372036854775807 : Int64)))]) (rest := []) (lenOf pd_0_186 rfl) rfl (by show 2 * 0 + _ ≤ _; exact Nat.le_of_eq rfl) (hb hby at_186) (fun _ _ => ⟨rfl, e47, (by decide : 0 + 0 ≤ _), (by decide : 0 + 0 ≤ _)⟩)
        dsimp only [Pt.U, Pt.locs, Pt.cells, Pt.slots] at X48 l48 y48 z48 st48 hQ48
        subst l48 y48 z48
        obtain ⟨rfl, N48q, e48⟩ := hQ48
        have N48 := Fr.app N47 N48q
        obtain ⟨fs, hr, hrun, hended, hW, hsame⟩ := X48.leave (v := some (.int (1 : Int32))) (fun h => by rw [Bd.returns] at h; cases h)
        refine ⟨_, _, pre33 _ ?_, hrun, hended, _, _, rfl, ?_, ⟨_, rfl⟩, hW, hsame.mono (by decide) (by decide)⟩
        · show Steps p.tables e below (s₁.setTop (mkF m 4 #[.val (.long q0), .second, .val (.long q1), .second, .val (.int p2), .unset, .unset, .unset, .unset, .unset, .unset, .unset] [(.int (p2 &&& (1 : Int32)))])) _
          refine XS.ifYes X0.here hx rfl (pc0 := 4) (pc' := 13) rfl (hb hby at_4) rfl ((if0 _ _).trans (teq hc34).1) (by decide) (by decide) ?_
          show Steps p.tables e below (s₁.setTop (mkF m 13 #[.val (.long q0), .second, .val (.long q1), .second, .val (.int p2), .unset, .unset, .unset, .unset, .unset, .unset, .unset] [])) _
          refine st35 _ ?_
          show Steps p.tables e below (T35.setTop (mkF m 16 #[.val (.long q0), .second, .val (.long q1), .second, .val (.int p2), .unset, .unset, .unset, .unset, .unset, .unset, .unset] [(.ref w_BUY)])) _
          refine XS.astore X35.here hx rfl (hb hby at_16) rfl rfl (l' := #[.val (.long q0), .second, .val (.long q1), .second, .val (.int p2), .val (.ref w_BUY), .unset, .unset, .unset, .unset, .unset, .unset]) rfl ?_
          show Steps p.tables e below (T35.setTop (mkF m 18 #[.val (.long q0), .second, .val (.long q1), .second, .val (.int p2), .val (.ref w_BUY), .unset, .unset, .unset, .unset, .unset, .unset] [])) _
          refine XS.aload X35.here hx rfl (hb hby at_18) rfl rfl ?_
          show Steps p.tables e below (T35.setTop (mkF m 20 #[.val (.long q0), .second, .val (.long q1), .second, .val (.int p2), .val (.ref w_BUY), .unset, .unset, .unset, .unset, .unset, .unset] [(.ref w_BUY)])) _
          refine st36.trans ?_
          show Steps p.tables e below (T36.setTop (mkF m 23 #[.val (.long q0), .second, .val (.long q1), .second, .val (.int p2), .val (.ref w_BUY), .unset, .unset, .unset, .unset, .unset, .unset] [(.ref w_SELL)])) _
          refine XS.astore X36.here hx rfl (hb hby at_23) rfl rfl (l' := #[.val (.long q0), .second, .val (.long q1), .second, .val (.int p2), .val (.ref w_BUY), .val (.ref w_SELL), .unset, .unset, .unset, .unset, .unset]) rfl ?_
          show Steps p.tables e below (T36.setTop (mkF m 25 #[.val (.long q0), .second, .val (.long q1), .second, .val (.int p2), .val (.ref w_BUY), .val (.ref w_SELL), .unset, .unset, .unset, .unset, .unset] [])) _
          refine XS.aload X36.here hx rfl (hb hby at_25) rfl rfl ?_
          show Steps p.tables e below (T36.setTop (mkF m 27 #[.val (.long q0), .second, .val (.long q1), .second, .val (.int p2), .val (.ref w_BUY), .val (.ref w_SELL), .unset, .unset, .unset, .unset, .unset] [(.ref w_BUY)])) _
          refine XS.lloadN X36.here hx rfl (hb hby at_27) rfl ?_
          show Steps p.tables e below (T36.setTop (mkF m 28 #[.val (.long q0), .second, .val (.long q1), .second, .val (.int p2), .val (.ref w_BUY), .val (.ref w_SELL), .unset, .unset, .unset, .unset, .unset] [(.long q0), (.ref w_BUY)])) _
          refine XS.lloadN X36.here hx rfl (hb hby at_28) rfl ?_
          show Steps p.tables e below (T36.setTop (mkF m 29 #[.val (.long q0), .second, .val (.long q1), .second, .val (.int p2), .val (.ref w_BUY), .val (.ref w_SELL), .unset, .unset, .unset, .unset, .unset] [(.long q1), (.long q0), (.ref w_BUY)])) _
          refine st37.trans ?_
          show Steps p.tables e below (T37.setTop (mkF m 32 #[.val (.long q0), .second, .val (.long q1), .second, .val (.int p2), .val (.ref w_BUY), .val (.ref w_SELL), .unset, .unset, .unset, .unset, .unset] [(.int (1 : Int32))])) _
          refine XS.istore X37.here hx rfl (hb hby at_32) rfl (l' := #[.val (.long q0), .second, .val (.long q1), .second, .val (.int p2), .val (.ref w_BUY), .val (.ref w_SELL), .val (.int (1 : Int32)), .unset, .unset, .unset, .unset]) rfl ?_
          show Steps p.tables e below (T37.setTop (mkF m 34 #[.val (.long q0), .second, .val (.long q1), .second, .val (.int p2), .val (.ref w_BUY), .val (.ref w_SELL), .val (.int (1 : Int32)), .unset, .unset, .unset, .unset] [])) _
          refine XS.aload X37.here hx rfl (hb hby at_34) rfl rfl ?_
          show Steps p.tables e below (T37.setTop (mkF m 36 #[.val (.long q0), .second, .val (.long q1), .second, .val (.int p2), .val (.ref w_BUY), .val (.ref w_SELL), .val (.int (1 : Int32)), .unset, .unset, .unset, .unset] [(.ref w_SELL)])) _
          refine XS.lloadN X37.here hx rfl (hb hby at_36) rfl ?_
          show Steps p.tables e below (T37.setTop (mkF m 37 #[.val (.long q0), .second, .val (.long q1), .second, .val (.int p2), .val (.ref w_BUY), .val (.ref w_SELL), .val (.int (1 : Int32)), .unset, .unset, .unset, .unset] [(.long q0), (.ref w_SELL)])) _
          refine XS.lloadN X37.here hx rfl (hb hby at_37) rfl ?_
          show Steps p.tables e below (T37.setTop (mkF m 38 #[.val (.long q0), .second, .val (.long q1), .second, .val (.int p2), .val (.ref w_BUY), .val (.ref w_SELL), .val (.int (1 : Int32)), .unset, .unset, .unset, .unset] [(.long q1), (.long q0), (.ref w_SELL)])) _
          refine st38.trans ?_
          show Steps p.tables e below (T38.setTop (mkF m 41 #[.val (.long q0), .second, .val (.long q1), .second, .val (.int p2), .val (.ref w_BUY), .val (.ref w_SELL), .val (.int (1 : Int32)), .unset, .unset, .unset, .unset] [(.int (1 : Int32))])) _
          refine XS.istore X38.here hx rfl (hb hby at_41) rfl (l' := #[.val (.long q0), .second, .val (.long q1), .second, .val (.int p2), .val (.ref w_BUY), .val (.ref w_SELL), .val (.int (1 : Int32)), .val (.int (1 : Int32)), .unset, .unset, .unset]) rfl ?_
          show Steps p.tables e below (T38.setTop (mkF m 43 #[.val (.long q0), .second, .val (.long q1), .second, .val (.int p2), .val (.ref w_BUY), .val (.ref w_SELL), .val (.int (1 : Int32)), .val (.int (1 : Int32)), .unset, .unset, .unset] [])) _
          refine XS.iload X38.here hx rfl (hb hby at_43) rfl ?_
          show Steps p.tables e below (T38.setTop (mkF m 45 #[.val (.long q0), .second, .val (.long q1), .second, .val (.int p2), .val (.ref w_BUY), .val (.ref w_SELL), .val (.int (1 : Int32)), .val (.int (1 : Int32)), .unset, .unset, .unset] [(.int (1 : Int32))])) _
          refine XS.ifYes X38.here hx rfl (pc0 := 45) (pc' := 53) rfl (hb hby at_45) rfl ((if0 _ _).trans (feq (by decide : ¬ ((1 : Int32) = (0 : Int32)))).2) (by decide) (by decide) ?_
          show Steps p.tables e below (T38.setTop (mkF m 53 #[.val (.long q0), .second, .val (.long q1), .second, .val (.int p2), .val (.ref w_BUY), .val (.ref w_SELL), .val (.int (1 : Int32)), .val (.int (1 : Int32)), .unset, .unset, .unset] [])) _
          refine XS.iconst X38.here hx rfl (hb hby at_53) ?_
          show Steps p.tables e below (T38.setTop (mkF m 54 #[.val (.long q0), .second, .val (.long q1), .second, .val (.int p2), .val (.ref w_BUY), .val (.ref w_SELL), .val (.int (1 : Int32)), .val (.int (1 : Int32)), .unset, .unset, .unset] [(.int (1 : Int32))])) _
          refine XS.goto X38.here hx rfl (pc0 := 54) (pc' := 58) rfl (hb hby at_54) (by decide) (by decide) ?_
          show Steps p.tables e below (T38.setTop (mkF m 58 #[.val (.long q0), .second, .val (.long q1), .second, .val (.int p2), .val (.ref w_BUY), .val (.ref w_SELL), .val (.int (1 : Int32)), .val (.int (1 : Int32)), .unset, .unset, .unset] [(.int (1 : Int32))])) _
          refine XS.istore X38.here hx rfl (hb hby at_58) rfl (l' := #[.val (.long q0), .second, .val (.long q1), .second, .val (.int p2), .val (.ref w_BUY), .val (.ref w_SELL), .val (.int (1 : Int32)), .val (.int (1 : Int32)), .val (.int (1 : Int32)), .unset, .unset]) rfl ?_
          show Steps p.tables e below (T38.setTop (mkF m 60 #[.val (.long q0), .second, .val (.long q1), .second, .val (.int p2), .val (.ref w_BUY), .val (.ref w_SELL), .val (.int (1 : Int32)), .val (.int (1 : Int32)), .val (.int (1 : Int32)), .unset, .unset] [])) _
          refine XS.iload X38.here hx rfl (hb hby at_60) rfl ?_
          show Steps p.tables e below (T38.setTop (mkF m 62 #[.val (.long q0), .second, .val (.long q1), .second, .val (.int p2), .val (.ref w_BUY), .val (.ref w_SELL), .val (.int (1 : Int32)), .val (.int (1 : Int32)), .val (.int (1 : Int32)), .unset, .unset] [(.int (1 : Int32))])) _
          refine XS.ifNo X38.here hx rfl (hb hby at_62) rfl ((if0 _ _).trans (feq (by decide : ¬ ((1 : Int32) = (0 : Int32)))).1) ?_
          show Steps p.tables e below (T38.setTop (mkF m 65 #[.val (.long q0), .second, .val (.long q1), .second, .val (.int p2), .val (.ref w_BUY), .val (.ref w_SELL), .val (.int (1 : Int32)), .val (.int (1 : Int32)), .val (.int (1 : Int32)), .unset, .unset] [])) _
          refine XS.iload X38.here hx rfl (hb hby at_65) rfl ?_
          show Steps p.tables e below (T38.setTop (mkF m 67 #[.val (.long q0), .second, .val (.long q1), .second, .val (.int p2), .val (.ref w_BUY), .val (.ref w_SELL), .val (.int (1 : Int32)), .val (.int (1 : Int32)), .val (.int (1 : Int32)), .unset, .unset] [(.int (1 : Int32))])) _
          refine XS.ifNo X38.here hx rfl (hb hby at_67) rfl ((if0 _ _).trans (feq (by decide : ¬ ((1 : Int32) = (0 : Int32)))).1) ?_
          show Steps p.tables e below (T38.setTop (mkF m 70 #[.val (.long q0), .second, .val (.long q1), .second, .val (.int p2), .val (.ref w_BUY), .val (.ref w_SELL), .val (.int (1 : Int32)), .val (.int (1 : Int32)), .val (.int (1 : Int32)), .unset, .unset] [])) _
          refine XS.iload X38.here hx rfl (hb hby at_70) rfl ?_
          show Steps p.tables e below (T38.setTop (mkF m 72 #[.val (.long q0), .second, .val (.long q1), .second, .val (.int p2), .val (.ref w_BUY), .val (.ref w_SELL), .val (.int (1 : Int32)), .val (.int (1 : Int32)), .val (.int (1 : Int32)), .unset, .unset] [(.int (1 : Int32))])) _
          refine XS.ifNo X38.here hx rfl (hb hby at_72) rfl ((if0 _ _).trans (feq (by decide : ¬ ((1 : Int32) = (0 : Int32)))).1) ?_
          show Steps p.tables e below (T38.setTop (mkF m 75 #[.val (.long q0), .second, .val (.long q1), .second, .val (.int p2), .val (.ref w_BUY), .val (.ref w_SELL), .val (.int (1 : Int32)), .val (.int (1 : Int32)), .val (.int (1 : Int32)), .unset, .unset] [])) _
          refine XS.iconst X38.here hx rfl (hb hby at_75) ?_
          show Steps p.tables e below (T38.setTop (mkF m 76 #[.val (.long q0), .second, .val (.long q1), .second, .val (.int p2), .val (.ref w_BUY), .val (.ref w_SELL), .val (.int (1 : Int32)), .val (.int (1 : Int32)), .val (.int (1 : Int32)), .unset, .unset] [(.int (1 : Int32))])) _
          refine XS.goto X38.here hx rfl (pc0 := 76) (pc' := 80) rfl (hb hby at_76) (by decide) (by decide) ?_
          show Steps p.tables e below (T38.setTop (mkF m 80 #[.val (.long q0), .second, .val (.long q1), .second, .val (.int p2), .val (.ref w_BUY), .val (.ref w_SELL), .val (.int (1 : Int32)), .val (.int (1 : Int32)), .val (.int (1 : Int32)), .unset, .unset] [(.int (1 : Int32))])) _
          refine XS.lloadN X38.here hx rfl (hb hby at_80) rfl ?_
          show Steps p.tables e below (T38.setTop (mkF m 81 #[.val (.long q0), .second, .val (.long q1), .second, .val (.int p2), .val (.ref w_BUY), .val (.ref w_SELL), .val (.int (1 : Int32)), .val (.int (1 : Int32)), .val (.int (1 : Int32)), .unset, .unset] [(.long q1), (.int (1 : Int32))])) _
          refine XS.lloadN X38.here hx rfl (hb hby at_81) rfl ?_
          show Steps p.tables e below (T38.setTop (mkF m 82 #[.val (.long q0), .second, .val (.long q1), .second, .val (.int p2), .val (.ref w_BUY), .val (.ref w_SELL), .val (.int (1 : Int32)), .val (.int (1 : Int32)), .val (.int (1 : Int32)), .unset, .unset] [(.long q0), (.long q1), (.int (1 : Int32))])) _
          refine XS.lcmp X38.here hx rfl (hb hby at_82) rfl ?_
          show Steps p.tables e below (T38.setTop (mkF m 83 #[.val (.long q0), .second, .val (.long q1), .second, .val (.int p2), .val (.ref w_BUY), .val (.ref w_SELL), .val (.int (1 : Int32)), .val (.int (1 : Int32)), .val (.int (1 : Int32)), .unset, .unset] [(.int (lcmpW q1 q0)), (.int (1 : Int32))])) _
          refine XS.ifNo X38.here hx rfl (hb hby at_83) rfl ((if0 _ _).trans (teq hk39).2) ?_
          show Steps p.tables e below (T38.setTop (mkF m 86 #[.val (.long q0), .second, .val (.long q1), .second, .val (.int p2), .val (.ref w_BUY), .val (.ref w_SELL), .val (.int (1 : Int32)), .val (.int (1 : Int32)), .val (.int (1 : Int32)), .unset, .unset] [(.int (1 : Int32))])) _
          refine XS.iconst X38.here hx rfl (hb hby at_86) ?_
          show Steps p.tables e below (T38.setTop (mkF m 87 #[.val (.long q0), .second, .val (.long q1), .second, .val (.int p2), .val (.ref w_BUY), .val (.ref w_SELL), .val (.int (1 : Int32)), .val (.int (1 : Int32)), .val (.int (1 : Int32)), .unset, .unset] [(.int (1 : Int32)), (.int (1 : Int32))])) _
          refine XS.goto X38.here hx rfl (pc0 := 87) (pc' := 91) rfl (hb hby at_87) (by decide) (by decide) ?_
          show Steps p.tables e below (T38.setTop (mkF m 91 #[.val (.long q0), .second, .val (.long q1), .second, .val (.int p2), .val (.ref w_BUY), .val (.ref w_SELL), .val (.int (1 : Int32)), .val (.int (1 : Int32)), .val (.int (1 : Int32)), .unset, .unset] [(.int (1 : Int32)), (.int (1 : Int32))])) _
          refine XS.icmpNo X38.here hx rfl (hb hby at_91) rfl (teq (by decide : (1 : Int32) = (1 : Int32))).2 ?_
          show Steps p.tables e below (T38.setTop (mkF m 94 #[.val (.long q0), .second, .val (.long q1), .second, .val (.int p2), .val (.ref w_BUY), .val (.ref w_SELL), .val (.int (1 : Int32)), .val (.int (1 : Int32)), .val (.int (1 : Int32)), .unset, .unset] [])) _
          refine XS.iconst X38.here hx rfl (hb hby at_94) ?_
          show Steps p.tables e below (T38.setTop (mkF m 95 #[.val (.long q0), .second, .val (.long q1), .second, .val (.int p2), .val (.ref w_BUY), .val (.ref w_SELL), .val (.int (1 : Int32)), .val (.int (1 : Int32)), .val (.int (1 : Int32)), .unset, .unset] [(.int (1 : Int32))])) _
          refine XS.goto X38.here hx rfl (pc0 := 95) (pc' := 99) rfl (hb hby at_95) (by decide) (by decide) ?_
          show Steps p.tables e below (T38.setTop (mkF m 99 #[.val (.long q0), .second, .val (.long q1), .second, .val (.int p2), .val (.ref w_BUY), .val (.ref w_SELL), .val (.int (1 : Int32)), .val (.int (1 : Int32)), .val (.int (1 : Int32)), .unset, .unset] [(.int (1 : Int32))])) _
          refine XS.istore X38.here hx rfl (hb hby at_99) rfl (l' := #[.val (.long q0), .second, .val (.long q1), .second, .val (.int p2), .val (.ref w_BUY), .val (.ref w_SELL), .val (.int (1 : Int32)), .val (.int (1 : Int32)), .val (.int (1 : Int32)), .unset, .unset]) rfl ?_
          show Steps p.tables e below (T38.setTop (mkF m 101 #[.val (.long q0), .second, .val (.long q1), .second, .val (.int p2), .val (.ref w_BUY), .val (.ref w_SELL), .val (.int (1 : Int32)), .val (.int (1 : Int32)), .val (.int (1 : Int32)), .unset, .unset] [])) _
          refine st40 _ ?_
          show Steps p.tables e below (T40.setTop (mkF m 104 #[.val (.long q0), .second, .val (.long q1), .second, .val (.int p2), .val (.ref w_BUY), .val (.ref w_SELL), .val (.int (1 : Int32)), .val (.int (1 : Int32)), .val (.int (1 : Int32)), .unset, .unset] [(.ref w_BUY)])) _
          refine XS.lloadN X40.here hx rfl (hb hby at_104) rfl ?_
          show Steps p.tables e below (T40.setTop (mkF m 105 #[.val (.long q0), .second, .val (.long q1), .second, .val (.int p2), .val (.ref w_BUY), .val (.ref w_SELL), .val (.int (1 : Int32)), .val (.int (1 : Int32)), .val (.int (1 : Int32)), .unset, .unset] [(.long q0), (.ref w_BUY)])) _
          refine XS.lloadN X40.here hx rfl (hb hby at_105) rfl ?_
          show Steps p.tables e below (T40.setTop (mkF m 106 #[.val (.long q0), .second, .val (.long q1), .second, .val (.int p2), .val (.ref w_BUY), .val (.ref w_SELL), .val (.int (1 : Int32)), .val (.int (1 : Int32)), .val (.int (1 : Int32)), .unset, .unset] [(.long q1), (.long q0), (.ref w_BUY)])) _
          refine st41.trans ?_
          show Steps p.tables e below (T41.setTop (mkF m 109 #[.val (.long q0), .second, .val (.long q1), .second, .val (.int p2), .val (.ref w_BUY), .val (.ref w_SELL), .val (.int (1 : Int32)), .val (.int (1 : Int32)), .val (.int (1 : Int32)), .unset, .unset] [(.int (1 : Int32))])) _
          refine XS.istore X41.here hx rfl (hb hby at_109) rfl (l' := #[.val (.long q0), .second, .val (.long q1), .second, .val (.int p2), .val (.ref w_BUY), .val (.ref w_SELL), .val (.int (1 : Int32)), .val (.int (1 : Int32)), .val (.int (1 : Int32)), .val (.int (1 : Int32)), .unset]) rfl ?_
          show Steps p.tables e below (T41.setTop (mkF m 111 #[.val (.long q0), .second, .val (.long q1), .second, .val (.int p2), .val (.ref w_BUY), .val (.ref w_SELL), .val (.int (1 : Int32)), .val (.int (1 : Int32)), .val (.int (1 : Int32)), .val (.int (1 : Int32)), .unset] [])) _
          refine st42 _ ?_
          show Steps p.tables e below (T42.setTop (mkF m 114 #[.val (.long q0), .second, .val (.long q1), .second, .val (.int p2), .val (.ref w_BUY), .val (.ref w_SELL), .val (.int (1 : Int32)), .val (.int (1 : Int32)), .val (.int (1 : Int32)), .val (.int (1 : Int32)), .unset] [(.ref w_SELL)])) _
          refine XS.lloadN X42.here hx rfl (hb hby at_114) rfl ?_
          show Steps p.tables e below (T42.setTop (mkF m 115 #[.val (.long q0), .second, .val (.long q1), .second, .val (.int p2), .val (.ref w_BUY), .val (.ref w_SELL), .val (.int (1 : Int32)), .val (.int (1 : Int32)), .val (.int (1 : Int32)), .val (.int (1 : Int32)), .unset] [(.long q0), (.ref w_SELL)])) _
          refine XS.lloadN X42.here hx rfl (hb hby at_115) rfl ?_
          show Steps p.tables e below (T42.setTop (mkF m 116 #[.val (.long q0), .second, .val (.long q1), .second, .val (.int p2), .val (.ref w_BUY), .val (.ref w_SELL), .val (.int (1 : Int32)), .val (.int (1 : Int32)), .val (.int (1 : Int32)), .val (.int (1 : Int32)), .unset] [(.long q1), (.long q0), (.ref w_SELL)])) _
          refine st43.trans ?_
          show Steps p.tables e below (T43.setTop (mkF m 119 #[.val (.long q0), .second, .val (.long q1), .second, .val (.int p2), .val (.ref w_BUY), .val (.ref w_SELL), .val (.int (1 : Int32)), .val (.int (1 : Int32)), .val (.int (1 : Int32)), .val (.int (1 : Int32)), .unset] [(.int (1 : Int32))])) _
          refine XS.istore X43.here hx rfl (hb hby at_119) rfl (l' := #[.val (.long q0), .second, .val (.long q1), .second, .val (.int p2), .val (.ref w_BUY), .val (.ref w_SELL), .val (.int (1 : Int32)), .val (.int (1 : Int32)), .val (.int (1 : Int32)), .val (.int (1 : Int32)), .val (.int (1 : Int32))]) rfl ?_
          show Steps p.tables e below (T43.setTop (mkF m 121 #[.val (.long q0), .second, .val (.long q1), .second, .val (.int p2), .val (.ref w_BUY), .val (.ref w_SELL), .val (.int (1 : Int32)), .val (.int (1 : Int32)), .val (.int (1 : Int32)), .val (.int (1 : Int32)), .val (.int (1 : Int32))] [])) _
          refine XS.iload X43.here hx rfl (hb hby at_121) rfl ?_
          show Steps p.tables e below (T43.setTop (mkF m 123 #[.val (.long q0), .second, .val (.long q1), .second, .val (.int p2), .val (.ref w_BUY), .val (.ref w_SELL), .val (.int (1 : Int32)), .val (.int (1 : Int32)), .val (.int (1 : Int32)), .val (.int (1 : Int32)), .val (.int (1 : Int32))] [(.int (1 : Int32))])) _
          refine XS.ifNo X43.here hx rfl (hb hby at_123) rfl ((if0 _ _).trans (feq (by decide : ¬ ((1 : Int32) = (0 : Int32)))).1) ?_
          show Steps p.tables e below (T43.setTop (mkF m 126 #[.val (.long q0), .second, .val (.long q1), .second, .val (.int p2), .val (.ref w_BUY), .val (.ref w_SELL), .val (.int (1 : Int32)), .val (.int (1 : Int32)), .val (.int (1 : Int32)), .val (.int (1 : Int32)), .val (.int (1 : Int32))] [])) _
          refine XS.iload X43.here hx rfl (hb hby at_126) rfl ?_
          show Steps p.tables e below (T43.setTop (mkF m 128 #[.val (.long q0), .second, .val (.long q1), .second, .val (.int p2), .val (.ref w_BUY), .val (.ref w_SELL), .val (.int (1 : Int32)), .val (.int (1 : Int32)), .val (.int (1 : Int32)), .val (.int (1 : Int32)), .val (.int (1 : Int32))] [(.int (1 : Int32))])) _
          refine st44 _ ?_
          show Steps p.tables e below (T44.setTop (mkF m 131 #[.val (.long q0), .second, .val (.long q1), .second, .val (.int p2), .val (.ref w_BUY), .val (.ref w_SELL), .val (.int (1 : Int32)), .val (.int (1 : Int32)), .val (.int (1 : Int32)), .val (.int (1 : Int32)), .val (.int (1 : Int32))] [(.ref w_BUY), (.int (1 : Int32))])) _
          refine XS.lloadN X44.here hx rfl (hb hby at_131) rfl ?_
          show Steps p.tables e below (T44.setTop (mkF m 132 #[.val (.long q0), .second, .val (.long q1), .second, .val (.int p2), .val (.ref w_BUY), .val (.ref w_SELL), .val (.int (1 : Int32)), .val (.int (1 : Int32)), .val (.int (1 : Int32)), .val (.int (1 : Int32)), .val (.int (1 : Int32))] [(.long q1), (.ref w_BUY), (.int (1 : Int32))])) _
          refine XS.lloadN X44.here hx rfl (hb hby at_132) rfl ?_
          show Steps p.tables e below (T44.setTop (mkF m 133 #[.val (.long q0), .second, .val (.long q1), .second, .val (.int p2), .val (.ref w_BUY), .val (.ref w_SELL), .val (.int (1 : Int32)), .val (.int (1 : Int32)), .val (.int (1 : Int32)), .val (.int (1 : Int32)), .val (.int (1 : Int32))] [(.long q0), (.long q1), (.ref w_BUY), (.int (1 : Int32))])) _
          refine st45.trans ?_
          show Steps p.tables e below (T45.setTop (mkF m 136 #[.val (.long q0), .second, .val (.long q1), .second, .val (.int p2), .val (.ref w_BUY), .val (.ref w_SELL), .val (.int (1 : Int32)), .val (.int (1 : Int32)), .val (.int (1 : Int32)), .val (.int (1 : Int32)), .val (.int (1 : Int32))] [(.int (1 : Int32)), (.int (1 : Int32))])) _
          refine XS.icmpNo X45.here hx rfl (hb hby at_136) rfl (teq (by decide : (1 : Int32) = (1 : Int32))).2 ?_
          show Steps p.tables e below (T45.setTop (mkF m 139 #[.val (.long q0), .second, .val (.long q1), .second, .val (.int p2), .val (.ref w_BUY), .val (.ref w_SELL), .val (.int (1 : Int32)), .val (.int (1 : Int32)), .val (.int (1 : Int32)), .val (.int (1 : Int32)), .val (.int (1 : Int32))] [])) _
          refine XS.iconst X45.here hx rfl (hb hby at_139) ?_
          show Steps p.tables e below (T45.setTop (mkF m 140 #[.val (.long q0), .second, .val (.long q1), .second, .val (.int p2), .val (.ref w_BUY), .val (.ref w_SELL), .val (.int (1 : Int32)), .val (.int (1 : Int32)), .val (.int (1 : Int32)), .val (.int (1 : Int32)), .val (.int (1 : Int32))] [(.int (1 : Int32))])) _
          refine XS.goto X45.here hx rfl (pc0 := 140) (pc' := 144) rfl (hb hby at_140) (by decide) (by decide) ?_
          show Steps p.tables e below (T45.setTop (mkF m 144 #[.val (.long q0), .second, .val (.long q1), .second, .val (.int p2), .val (.ref w_BUY), .val (.ref w_SELL), .val (.int (1 : Int32)), .val (.int (1 : Int32)), .val (.int (1 : Int32)), .val (.int (1 : Int32)), .val (.int (1 : Int32))] [(.int (1 : Int32))])) _
          refine XS.istore X45.here hx rfl (hb hby at_144) rfl (l' := #[.val (.long q0), .second, .val (.long q1), .second, .val (.int p2), .val (.ref w_BUY), .val (.ref w_SELL), .val (.int (1 : Int32)), .val (.int (1 : Int32)), .val (.int (1 : Int32)), .val (.int (1 : Int32)), .val (.int (1 : Int32))]) rfl ?_
          show Steps p.tables e below (T45.setTop (mkF m 146 #[.val (.long q0), .second, .val (.long q1), .second, .val (.int p2), .val (.ref w_BUY), .val (.ref w_SELL), .val (.int (1 : Int32)), .val (.int (1 : Int32)), .val (.int (1 : Int32)), .val (.int (1 : Int32)), .val (.int (1 : Int32))] [])) _
          refine XS.lloadN X45.here hx rfl (hb hby at_146) rfl ?_
          show Steps p.tables e below (T45.setTop (mkF m 147 #[.val (.long q0), .second, .val (.long q1), .second, .val (.int p2), .val (.ref w_BUY), .val (.ref w_SELL), .val (.int (1 : Int32)), .val (.int (1 : Int32)), .val (.int (1 : Int32)), .val (.int (1 : Int32)), .val (.int (1 : Int32))] [(.long q1)])) _
          refine XS.lloadN X45.here hx rfl (hb hby at_147) rfl ?_
          show Steps p.tables e below (T45.setTop (mkF m 148 #[.val (.long q0), .second, .val (.long q1), .second, .val (.int p2), .val (.ref w_BUY), .val (.ref w_SELL), .val (.int (1 : Int32)), .val (.int (1 : Int32)), .val (.int (1 : Int32)), .val (.int (1 : Int32)), .val (.int (1 : Int32))] [(.long q0), (.long q1)])) _
          refine XS.lcmp X45.here hx rfl (hb hby at_148) rfl ?_
          show Steps p.tables e below (T45.setTop (mkF m 149 #[.val (.long q0), .second, .val (.long q1), .second, .val (.int p2), .val (.ref w_BUY), .val (.ref w_SELL), .val (.int (1 : Int32)), .val (.int (1 : Int32)), .val (.int (1 : Int32)), .val (.int (1 : Int32)), .val (.int (1 : Int32))] [(.int (lcmpW q1 q0))])) _
          refine XS.ifYes X45.here hx rfl (pc0 := 149) (pc' := 169) rfl (hb hby at_149) rfl ((if0 _ _).trans (flt hk46).2.1) (by decide) (by decide) ?_
          show Steps p.tables e below (T45.setTop (mkF m 169 #[.val (.long q0), .second, .val (.long q1), .second, .val (.int p2), .val (.ref w_BUY), .val (.ref w_SELL), .val (.int (1 : Int32)), .val (.int (1 : Int32)), .val (.int (1 : Int32)), .val (.int (1 : Int32)), .val (.int (1 : Int32))] [])) _
          refine XS.iload X45.here hx rfl (hb hby at_169) rfl ?_
          show Steps p.tables e below (T45.setTop (mkF m 171 #[.val (.long q0), .second, .val (.long q1), .second, .val (.int p2), .val (.ref w_BUY), .val (.ref w_SELL), .val (.int (1 : Int32)), .val (.int (1 : Int32)), .val (.int (1 : Int32)), .val (.int (1 : Int32)), .val (.int (1 : Int32))] [(.int (1 : Int32))])) _
          refine XS.ifNo X45.here hx rfl (hb hby at_171) rfl ((if0 _ _).trans (feq (by decide : ¬ ((1 : Int32) = (0 : Int32)))).1) ?_
          show Steps p.tables e below (T45.setTop (mkF m 174 #[.val (.long q0), .second, .val (.long q1), .second, .val (.int p2), .val (.ref w_BUY), .val (.ref w_SELL), .val (.int (1 : Int32)), .val (.int (1 : Int32)), .val (.int (1 : Int32)), .val (.int (1 : Int32)), .val (.int (1 : Int32))] [])) _
          refine XS.aload X45.here hx rfl (hb hby at_174) rfl rfl ?_
          show Steps p.tables e below (T45.setTop (mkF m 176 #[.val (.long q0), .second, .val (.long q1), .second, .val (.int p2), .val (.ref w_BUY), .val (.ref w_SELL), .val (.int (1 : Int32)), .val (.int (1 : Int32)), .val (.int (1 : Int32)), .val (.int (1 : Int32)), .val (.int (1 : Int32))] [(.ref w_BUY)])) _
          refine XS.aload X45.here hx rfl (hb hby at_176) rfl rfl ?_
          show Steps p.tables e below (T45.setTop (mkF m 178 #[.val (.long q0), .second, .val (.long q1), .second, .val (.int p2), .val (.ref w_BUY), .val (.ref w_SELL), .val (.int (1 : Int32)), .val (.int (1 : Int32)), .val (.int (1 : Int32)), .val (.int (1 : Int32)), .val (.int (1 : Int32))] [(.ref w_BUY), (.ref w_BUY)])) _
          refine st47.trans ?_
          show Steps p.tables e below (T47.setTop (mkF m 181 #[.val (.long q0), .second, .val (.long q1), .second, .val (.int p2), .val (.ref w_BUY), .val (.ref w_SELL), .val (.int (1 : Int32)), .val (.int (1 : Int32)), .val (.int (1 : Int32)), .val (.int (1 : Int32)), .val (.int (1 : Int32))] [(.long (9223372036854775807 : Int64)), (.ref w_BUY)])) _
          refine XS.lloadN X47.here hx rfl (hb hby at_181) rfl ?_
          show Steps p.tables e below (T47.setTop (mkF m 182 #[.val (.long q0), .second, .val (.long q1), .second, .val (.int p2), .val (.ref w_BUY), .val (.ref w_SELL), .val (.int (1 : Int32)), .val (.int (1 : Int32)), .val (.int (1 : Int32)), .val (.int (1 : Int32)), .val (.int (1 : Int32))] [(.long q1), (.long (9223372036854775807 : Int64)), (.ref w_BUY)])) _
          refine X47.ldc2Long hx hown (mvT hZ (hw _ (List.mem_of_getElem? (i := 23) rfl))) (g := (mkF m 182 #[.val (.long q0), .second, .val (.long q1), .second, .val (.int p2), .val (.ref w_BUY), .val (.ref w_SELL), .val (.int (1 : Int32)), .val (.int (1 : Int32)), .val (.int (1 : Int32)), .val (.int (1 : Int32)), .val (.int (1 : Int32))] [(.long q1), (.long (9223372036854775807 : Int64)), (.ref w_BUY)])) rfl (hb hby at_182) _ ?_
          show Steps p.tables e below (T47.setTop (mkF m 185 #[.val (.long q0), .second, .val (.long q1), .second, .val (.int p2), .val (.ref w_BUY), .val (.ref w_SELL), .val (.int (1 : Int32)), .val (.int (1 : Int32)), .val (.int (1 : Int32)), .val (.int (1 : Int32)), .val (.int (1 : Int32))] [(.long (9223372036854775807 : Int64)), (.long q1), (.long (9223372036854775807 : Int64)), (.ref w_BUY)])) _
          refine XS.land X47.here hx rfl (hb hby at_185) rfl ?_
          show Steps p.tables e below (T47.setTop (mkF m 186 #[.val (.long q0), .second, .val (.long q1), .second, .val (.int p2), .val (.ref w_BUY), .val (.ref w_SELL), .val (.int (1 : Int32)), .val (.int (1 : Int32)), .val (.int (1 : Int32)), .val (.int (1 : Int32)), .val (.int (1 : Int32))] [(.long (q1 &&& (9223372036854775807 : Int64))), (.long (9223372036854775807 : Int64)), (.ref w_BUY)])) _
          refine st48.trans ?_
          show Steps p.tables e below (T48.setTop (mkF m 189 #[.val (.long q0), .second, .val (.long q1), .second, .val (.int p2), .val (.ref w_BUY), .val (.ref w_SELL), .val (.int (1 : Int32)), .val (.int (1 : Int32)), .val (.int (1 : Int32)), .val (.int (1 : Int32)), .val (.int (1 : Int32))] [(.int (1 : Int32))])) _
          refine XS.ifNo X48.here hx rfl (hb hby at_189) rfl ((if0 _ _).trans (feq (by decide : ¬ ((1 : Int32) = (0 : Int32)))).1) ?_
          show Steps p.tables e below (T48.setTop (mkF m 192 #[.val (.long q0), .second, .val (.long q1), .second, .val (.int p2), .val (.ref w_BUY), .val (.ref w_SELL), .val (.int (1 : Int32)), .val (.int (1 : Int32)), .val (.int (1 : Int32)), .val (.int (1 : Int32)), .val (.int (1 : Int32))] [])) _
          refine XS.iconst X48.here hx rfl (hb hby at_192) ?_
          show Steps p.tables e below (T48.setTop (mkF m 193 #[.val (.long q0), .second, .val (.long q1), .second, .val (.int p2), .val (.ref w_BUY), .val (.ref w_SELL), .val (.int (1 : Int32)), .val (.int (1 : Int32)), .val (.int (1 : Int32)), .val (.int (1 : Int32)), .val (.int (1 : Int32))] [(.int (1 : Int32))])) _
          refine XS.goto X48.here hx rfl (pc0 := 193) (pc' := 197) rfl (hb hby at_193) (by decide) (by decide) ?_
          show Steps p.tables e below (T48.setTop (mkF m 197 #[.val (.long q0), .second, .val (.long q1), .second, .val (.int p2), .val (.ref w_BUY), .val (.ref w_SELL), .val (.int (1 : Int32)), .val (.int (1 : Int32)), .val (.int (1 : Int32)), .val (.int (1 : Int32)), .val (.int (1 : Int32))] [(.int (1 : Int32))])) _
          refine XS.istore X48.here hx rfl (hb hby at_197) rfl (l' := #[.val (.long q0), .second, .val (.long q1), .second, .val (.int p2), .val (.ref w_BUY), .val (.ref w_SELL), .val (.int (1 : Int32)), .val (.int (1 : Int32)), .val (.int (1 : Int32)), .val (.int (1 : Int32)), .val (.int (1 : Int32))]) rfl ?_
          show Steps p.tables e below (T48.setTop (mkF m 199 #[.val (.long q0), .second, .val (.long q1), .second, .val (.int p2), .val (.ref w_BUY), .val (.ref w_SELL), .val (.int (1 : Int32)), .val (.int (1 : Int32)), .val (.int (1 : Int32)), .val (.int (1 : Int32)), .val (.int (1 : Int32))] [])) _
          refine XS.iload X48.here hx rfl (hb hby at_199) rfl ?_
          show Steps p.tables e below (T48.setTop (mkF m 201 #[.val (.long q0), .second, .val (.long q1), .second, .val (.int p2), .val (.ref w_BUY), .val (.ref w_SELL), .val (.int (1 : Int32)), .val (.int (1 : Int32)), .val (.int (1 : Int32)), .val (.int (1 : Int32)), .val (.int (1 : Int32))] [(.int (1 : Int32))])) _
          exact retN X48 hx (t := .boolean) Bd.returns (by simp) (hb hby at_201) hr
        · show Qp (some (.int (1 : Int32))) h0 n0 _ T48.heap _
          rw [e48]
          exact ⟨rfl, N48, rfl⟩
      ·
        obtain ⟨T49, X49, e49, st49⟩ := getS2 X0 hx hZ hown (host := "") (Or.inl (hw _ (List.mem_of_getElem? (i := 16) rfl))) Via.refl e0 S_SELL (g := (mkF m 7 #[.val (.long q0), .second, .val (.long q1), .second, .val (.int p2), .unset, .unset, .unset, .unset, .unset, .unset, .unset] [])) rfl (hb hby at_7)
        have hr50 : w_BUY = v1 w_SELL w_BUY w_SELL := by unfold v1; rw [if_neg ne_SELL_BUY]
        obtain ⟨cq50, kq50, q50a, q50b, q50c⟩ := isOf hZ e49 (show Exa Z h0 w_SELL "com/example/orderwarden/orderwarden/Side" from E_SELL)
        obtain ⟨_, _, ⟨T50, L50, k50, n50⟩, -, X50, ⟨Lc50, hQ50, l50, y50, z50⟩, st50⟩ := X49.virtualBack hx (y := (⟨"com/example/orderwarden/orderwarden/Side", "opposite", "()Lcom/example/orderwarden/orderwarden/Side;"⟩ : MethodName)) (z := (⟨"com/example/orderwarden/orderwarden/Side", "opposite", "()Lcom/example/orderwarden/orderwarden/Side;"⟩ : MethodName)) hown (mvT hZ (hw _ (List.mem_of_getElem? (i := 3) rfl))) (mvT hZ (hw _ (List.mem_of_getElem? (i := 4) rfl))) (notFace_of_selects (args := #[]) (mvT hZ (hw _ (List.mem_of_getElem? (i := 6) rfl)))) (mvT hZ (hw _ (List.mem_of_getElem? (i := 6) rfl))) (mvT hZ (hw _ (List.mem_of_getElem? (i := 5) rfl))) (by decide) (backOf (W := 0) (rm1 l Z ar0 hw [] w_SELL w_BUY w_SELL h0 n0 Z0 F  w_BUY hr50) hZ (hw _ (List.mem_of_getElem? (i := 7) rfl)) (hw _ (List.mem_of_getElem? (i := 1) rfl)) (by decide) (by decide)) q50a q50c (g := (mkF m 20 #[.val (.long q0), .second, .val (.long q1), .second, .val (.int p2), .val (.ref w_SELL), .unset, .unset, .unset, .unset, .unset, .unset] [(.ref w_SELL)])) rfl (by rw [hml]; rfl) (Steps.refl _) (argsL := []) (rest := []) (lenOf pd_0_20 rfl) rfl (by show 2 * 0 + _ ≤ _; exact Nat.le_of_eq rfl) (hb hby at_20) (fun _ _ => ⟨rfl, e49, (by decide : 0 + 0 ≤ _), (by decide : 0 + 0 ≤ _)⟩)
        dsimp only [Pt.U, Pt.locs, Pt.cells, Pt.slots] at X50 l50 y50 z50 st50 hQ50
        subst l50 y50 z50
        obtain ⟨rfl, N50q, e50⟩ := hQ50
        have N50 := Fr.app N0 N50q
        have hr51 : (1 : Int32) = v2 w_SELL q0 q1 w_BUY w_SELL := own_sell ne_SELL_BUY (by rw [hs32]; exact own_refl _)
        obtain ⟨cq51, kq51, q51a, q51b, q51c⟩ := isOf hZ e50 (show Exa Z h0 w_SELL "com/example/orderwarden/orderwarden/Side" from E_SELL)
        obtain ⟨_, _, ⟨T51, L51, k51, n51⟩, -, X51, ⟨Lc51, hQ51, l51, y51, z51⟩, st51⟩ := X50.virtualBack hx (y := (⟨"com/example/orderwarden/orderwarden/Side", "accepts", "(JJ)Z"⟩ : MethodName)) (z := (⟨"com/example/orderwarden/orderwarden/Side", "accepts", "(JJ)Z"⟩ : MethodName)) hown (mvT hZ (hw _ (List.mem_of_getElem? (i := 11) rfl))) (mvT hZ (hw _ (List.mem_of_getElem? (i := 12) rfl))) (notFace_of_selects (args := #[]) (mvT hZ (hw _ (List.mem_of_getElem? (i := 14) rfl)))) (mvT hZ (hw _ (List.mem_of_getElem? (i := 14) rfl))) (mvT hZ (hw _ (List.mem_of_getElem? (i := 13) rfl))) (by decide) (backOf (W := 0) (rm2 l Z ar0 hw [] w_SELL q0 q1 w_BUY w_SELL h0 n0 Z0 F  (1 : Int32) hr51) hZ (hw _ (List.mem_of_getElem? (i := 15) rfl)) (hw _ (List.mem_of_getElem? (i := 1) rfl)) (by decide) (by decide)) q51a q51c (g := (mkF m 29 #[.val (.long q0), .second, .val (.long q1), .second, .val (.int p2), .val (.ref w_SELL), .val (.ref w_BUY), .unset, .unset, .unset, .unset, .unset] [(.long q1), (.long q0), (.ref w_SELL)])) rfl (by rw [hml]; rfl) (Steps.refl _) (argsL := [(.long q0), (.long q1)]) (rest := []) (lenOf pd_0_29 rfl) rfl (by show 2 * 0 + _ ≤ _; exact Nat.le_of_eq rfl) (hb hby at_29) (fun _ _ => ⟨rfl, e50, (by decide : 0 + 0 ≤ _), (by decide : 0 + 0 ≤ _)⟩)
        dsimp only [Pt.U, Pt.locs, Pt.cells, Pt.slots] at X51 l51 y51 z51 st51 hQ51
        subst l51 y51 z51
        obtain ⟨rfl, N51q, e51⟩ := hQ51
        have N51 := Fr.app N50 N51q
        have hr52 : (1 : Int32) = v2 w_BUY q0 q1 w_BUY w_SELL := own_buy (by rw [hs32]; exact own_refl _)
        obtain ⟨cq52, kq52, q52a, q52b, q52c⟩ := isOf hZ e51 (show Exa Z h0 w_BUY "com/example/orderwarden/orderwarden/Side" from E_BUY)
        obtain ⟨_, _, ⟨T52, L52, k52, n52⟩, -, X52, ⟨Lc52, hQ52, l52, y52, z52⟩, st52⟩ := X51.virtualBack hx (y := (⟨"com/example/orderwarden/orderwarden/Side", "accepts", "(JJ)Z"⟩ : MethodName)) (z := (⟨"com/example/orderwarden/orderwarden/Side", "accepts", "(JJ)Z"⟩ : MethodName)) hown (mvT hZ (hw _ (List.mem_of_getElem? (i := 11) rfl))) (mvT hZ (hw _ (List.mem_of_getElem? (i := 12) rfl))) (notFace_of_selects (args := #[]) (mvT hZ (hw _ (List.mem_of_getElem? (i := 14) rfl)))) (mvT hZ (hw _ (List.mem_of_getElem? (i := 14) rfl))) (mvT hZ (hw _ (List.mem_of_getElem? (i := 13) rfl))) (by decide) (backOf (W := 0) (rm2 l Z ar0 hw [] w_BUY q0 q1 w_BUY w_SELL h0 n0 Z0 F  (1 : Int32) hr52) hZ (hw _ (List.mem_of_getElem? (i := 15) rfl)) (hw _ (List.mem_of_getElem? (i := 1) rfl)) (by decide) (by decide)) q52a q52c (g := (mkF m 38 #[.val (.long q0), .second, .val (.long q1), .second, .val (.int p2), .val (.ref w_SELL), .val (.ref w_BUY), .val (.int (1 : Int32)), .unset, .unset, .unset, .unset] [(.long q1), (.long q0), (.ref w_BUY)])) rfl (by rw [hml]; rfl) (Steps.refl _) (argsL := [(.long q0), (.long q1)]) (rest := []) (lenOf pd_0_38 rfl) rfl (by show 2 * 0 + _ ≤ _; exact Nat.le_of_eq rfl) (hb hby at_38) (fun _ _ => ⟨rfl, e51, (by decide : 0 + 0 ≤ _), (by decide : 0 + 0 ≤ _)⟩)
        dsimp only [Pt.U, Pt.locs, Pt.cells, Pt.slots] at X52 l52 y52 z52 st52 hQ52
        subst l52 y52 z52
        obtain ⟨rfl, N52q, e52⟩ := hQ52
        have N52 := Fr.app N51 N52q
        have hk53 : (lcmpW q1 q0) = (0 : Int32) := by rw [lcW, lc_eq]; exact hs32
        obtain ⟨T54, X54, e54, st54⟩ := getS2 X52 hx hZ hown (host := "") (Or.inl (hw _ (List.mem_of_getElem? (i := 0) rfl))) Via.refl e52 S_BUY (g := (mkF m 101 #[.val (.long q0), .second, .val (.long q1), .second, .val (.int p2), .val (.ref w_SELL), .val (.ref w_BUY), .val (.int (1 : Int32)), .val (.int (1 : Int32)), .val (.int (1 : Int32)), .unset, .unset] [])) rfl (hb hby at_101)
        have hr55 : (1 : Int32) = v2 w_BUY q0 q1 w_BUY w_SELL := own_buy (by rw [hs32]; exact own_refl _)
        obtain ⟨cq55, kq55, q55a, q55b, q55c⟩ := isOf hZ e54 (show Exa Z h0 w_BUY "com/example/orderwarden/orderwarden/Side" from E_BUY)
        obtain ⟨_, _, ⟨T55, L55, k55, n55⟩, -, X55, ⟨Lc55, hQ55, l55, y55, z55⟩, st55⟩ := X54.virtualBack hx (y := (⟨"com/example/orderwarden/orderwarden/Side", "accepts", "(JJ)Z"⟩ : MethodName)) (z := (⟨"com/example/orderwarden/orderwarden/Side", "accepts", "(JJ)Z"⟩ : MethodName)) hown (mvT hZ (hw _ (List.mem_of_getElem? (i := 11) rfl))) (mvT hZ (hw _ (List.mem_of_getElem? (i := 12) rfl))) (notFace_of_selects (args := #[]) (mvT hZ (hw _ (List.mem_of_getElem? (i := 14) rfl)))) (mvT hZ (hw _ (List.mem_of_getElem? (i := 14) rfl))) (mvT hZ (hw _ (List.mem_of_getElem? (i := 13) rfl))) (by decide) (backOf (W := 0) (rm2 l Z ar0 hw [] w_BUY q0 q1 w_BUY w_SELL h0 n0 Z0 F  (1 : Int32) hr55) hZ (hw _ (List.mem_of_getElem? (i := 15) rfl)) (hw _ (List.mem_of_getElem? (i := 1) rfl)) (by decide) (by decide)) q55a q55c (g := (mkF m 106 #[.val (.long q0), .second, .val (.long q1), .second, .val (.int p2), .val (.ref w_SELL), .val (.ref w_BUY), .val (.int (1 : Int32)), .val (.int (1 : Int32)), .val (.int (1 : Int32)), .unset, .unset] [(.long q1), (.long q0), (.ref w_BUY)])) rfl (by rw [hml]; rfl) (Steps.refl _) (argsL := [(.long q0), (.long q1)]) (rest := []) (lenOf pd_0_106 rfl) rfl (by show 2 * 0 + _ ≤ _; exact Nat.le_of_eq rfl) (hb hby at_106) (fun _ _ => ⟨rfl, e54, (by decide : 0 + 0 ≤ _), (by decide : 0 + 0 ≤ _)⟩)
        dsimp only [Pt.U, Pt.locs, Pt.cells, Pt.slots] at X55 l55 y55 z55 st55 hQ55
        subst l55 y55 z55
        obtain ⟨rfl, N55q, e55⟩ := hQ55
        have N55 := Fr.app N52 N55q
        obtain ⟨T56, X56, e56, st56⟩ := getS2 X55 hx hZ hown (host := "") (Or.inl (hw _ (List.mem_of_getElem? (i := 16) rfl))) Via.refl e55 S_SELL (g := (mkF m 111 #[.val (.long q0), .second, .val (.long q1), .second, .val (.int p2), .val (.ref w_SELL), .val (.ref w_BUY), .val (.int (1 : Int32)), .val (.int (1 : Int32)), .val (.int (1 : Int32)), .val (.int (1 : Int32)), .unset] [])) rfl (hb hby at_111)
        have hr57 : (1 : Int32) = v2 w_SELL q0 q1 w_BUY w_SELL := own_sell ne_SELL_BUY (by rw [hs32]; exact own_refl _)
        obtain ⟨cq57, kq57, q57a, q57b, q57c⟩ := isOf hZ e56 (show Exa Z h0 w_SELL "com/example/orderwarden/orderwarden/Side" from E_SELL)
        obtain ⟨_, _, ⟨T57, L57, k57, n57⟩, -, X57, ⟨Lc57, hQ57, l57, y57, z57⟩, st57⟩ := X56.virtualBack hx (y := (⟨"com/example/orderwarden/orderwarden/Side", "accepts", "(JJ)Z"⟩ : MethodName)) (z := (⟨"com/example/orderwarden/orderwarden/Side", "accepts", "(JJ)Z"⟩ : MethodName)) hown (mvT hZ (hw _ (List.mem_of_getElem? (i := 11) rfl))) (mvT hZ (hw _ (List.mem_of_getElem? (i := 12) rfl))) (notFace_of_selects (args := #[]) (mvT hZ (hw _ (List.mem_of_getElem? (i := 14) rfl)))) (mvT hZ (hw _ (List.mem_of_getElem? (i := 14) rfl))) (mvT hZ (hw _ (List.mem_of_getElem? (i := 13) rfl))) (by decide) (backOf (W := 0) (rm2 l Z ar0 hw [] w_SELL q0 q1 w_BUY w_SELL h0 n0 Z0 F  (1 : Int32) hr57) hZ (hw _ (List.mem_of_getElem? (i := 15) rfl)) (hw _ (List.mem_of_getElem? (i := 1) rfl)) (by decide) (by decide)) q57a q57c (g := (mkF m 116 #[.val (.long q0), .second, .val (.long q1), .second, .val (.int p2), .val (.ref w_SELL), .val (.ref w_BUY), .val (.int (1 : Int32)), .val (.int (1 : Int32)), .val (.int (1 : Int32)), .val (.int (1 : Int32)), .unset] [(.long q1), (.long q0), (.ref w_SELL)])) rfl (by rw [hml]; rfl) (Steps.refl _) (argsL := [(.long q0), (.long q1)]) (rest := []) (lenOf pd_0_116 rfl) rfl (by show 2 * 0 + _ ≤ _; exact Nat.le_of_eq rfl) (hb hby at_116) (fun _ _ => ⟨rfl, e56, (by decide : 0 + 0 ≤ _), (by decide : 0 + 0 ≤ _)⟩)
        dsimp only [Pt.U, Pt.locs, Pt.cells, Pt.slots] at X57 l57 y57 z57 st57 hQ57
        subst l57 y57 z57
        obtain ⟨rfl, N57q, e57⟩ := hQ57
        have N57 := Fr.app N55 N57q
        obtain ⟨T58, X58, e58, st58⟩ := getS2 X57 hx hZ hown (host := "") (Or.inl (hw _ (List.mem_of_getElem? (i := 0) rfl))) Via.refl e57 S_BUY (g := (mkF m 128 #[.val (.long q0), .second, .val (.long q1), .second, .val (.int p2), .val (.ref w_SELL), .val (.ref w_BUY), .val (.int (1 : Int32)), .val (.int (1 : Int32)), .val (.int (1 : Int32)), .val (.int (1 : Int32)), .val (.int (1 : Int32))] [(.int (1 : Int32))])) rfl (hb hby at_128)
        have hr59 : (1 : Int32) = v2 w_BUY q1 q0 w_BUY w_SELL := own_buy (by rw [hs32]; exact own_refl _)
        obtain ⟨cq59, kq59, q59a, q59b, q59c⟩ := isOf hZ e58 (show Exa Z h0 w_BUY "com/example/orderwarden/orderwarden/Side" from E_BUY)
        obtain ⟨_, _, ⟨T59, L59, k59, n59⟩, -, X59, ⟨Lc59, hQ59, l59, y59, z59⟩, st59⟩ := X58.virtualBack hx (y := (⟨"com/example/orderwarden/orderwarden/Side", "accepts", "(JJ)Z"⟩ : MethodName)) (z := (⟨"com/example/orderwarden/orderwarden/Side", "accepts", "(JJ)Z"⟩ : MethodName)) hown (mvT hZ (hw _ (List.mem_of_getElem? (i := 11) rfl))) (mvT hZ (hw _ (List.mem_of_getElem? (i := 12) rfl))) (notFace_of_selects (args := #[]) (mvT hZ (hw _ (List.mem_of_getElem? (i := 14) rfl)))) (mvT hZ (hw _ (List.mem_of_getElem? (i := 14) rfl))) (mvT hZ (hw _ (List.mem_of_getElem? (i := 13) rfl))) (by decide) (backOf (W := 1) (rm2 l Z ar0 hw [] w_BUY q1 q0 w_BUY w_SELL h0 n0 Z0 F  (1 : Int32) hr59) hZ (hw _ (List.mem_of_getElem? (i := 15) rfl)) (hw _ (List.mem_of_getElem? (i := 1) rfl)) (by decide) (by decide)) q59a q59c (g := (mkF m 133 #[.val (.long q0), .second, .val (.long q1), .second, .val (.int p2), .val (.ref w_SELL), .val (.ref w_BUY), .val (.int (1 : Int32)), .val (.int (1 : Int32)), .val (.int (1 : Int32)), .val (.int (1 : Int32)), .val (.int (1 : Int32))] [(.long q0), (.long q1), (.ref w_BUY), (.int (1 : Int32))])) rfl (by rw [hml]; rfl) (Steps.refl _) (argsL := [(.long q1), (.long q0)]) (rest := [(.int (1 : Int32))]) (lenOf pd_0_133 rfl) rfl (by show 2 * 0 + _ ≤ _; exact Nat.le_of_eq rfl) (hb hby at_133) (fun _ _ => ⟨rfl, e58, (by decide : 0 + 0 ≤ _), (by decide : 0 + 0 ≤ _)⟩)
        dsimp only [Pt.U, Pt.locs, Pt.cells, Pt.slots] at X59 l59 y59 z59 st59 hQ59
        subst l59 y59 z59
        obtain ⟨rfl, N59q, e59⟩ := hQ59
        have N59 := Fr.app N57 N59q
        have hk60 : ¬ ((lcmpW q1 q0) < (0 : Int32)) := by rw [lcW, lc_lt]; exact fun q => own_ne q hs32
        have hr61 : (0 : Int64) = v3 w_SELL w_BUY w_SELL := by unfold v3; rw [if_neg ne_SELL_BUY]
        obtain ⟨cq61, kq61, q61a, q61b, q61c⟩ := isOf hZ e59 (show Exa Z h0 w_SELL "com/example/orderwarden/orderwarden/Side" from E_SELL)
        obtain ⟨_, _, ⟨T61, L61, k61, n61⟩, -, X61, ⟨Lc61, hQ61, l61, y61, z61⟩, st61⟩ := X59.virtualBack hx (y := (⟨"com/example/orderwarden/orderwarden/Side", "loosestLimit", "()J"⟩ : MethodName)) (z := (⟨"com/example/orderwarden/orderwarden/Side", "loosestLimit", "()J"⟩ : MethodName)) hown (mvT hZ (hw _ (List.mem_of_getElem? (i := 17) rfl))) (mvT hZ (hw _ (List.mem_of_getElem? (i := 18) rfl))) (notFace_of_selects (args := #[]) (mvT hZ (hw _ (List.mem_of_getElem? (i := 20) rfl)))) (mvT hZ (hw _ (List.mem_of_getElem? (i := 20) rfl))) (mvT hZ (hw _ (List.mem_of_getElem? (i := 19) rfl))) (by decide) (backOf (W := 1) (rm3 l Z ar0 hw [] w_SELL w_BUY w_SELL h0 n0 Z0 F  (0 : Int64) hr61) hZ (hw _ (List.mem_of_getElem? (i := 21) rfl)) (hw _ (List.mem_of_getElem? (i := 1) rfl)) (by decide) (by decide)) q61a q61c (g := (mkF m 178 #[.val (.long q0), .second, .val (.long q1), .second, .val (.int p2), .val (.ref w_SELL), .val (.ref w_BUY), .val (.int (1 : Int32)), .val (.int (1 : Int32)), .val (.int (1 : Int32)), .val (.int (1 : Int32)), .val (.int (1 : Int32))] [(.ref w_SELL), (.ref w_SELL)])) rfl (by rw [hml]; rfl) (Steps.refl _) (argsL := []) (rest := [(.ref w_SELL)]) (lenOf pd_0_178 rfl) rfl (by show 2 * 0 + _ ≤ _; exact Nat.le_of_eq rfl) (hb hby at_178) (fun _ _ => ⟨rfl, e59, (by decide : 0 + 0 ≤ _), (by decide : 0 + 0 ≤ _)⟩)
        dsimp only [Pt.U, Pt.locs, Pt.cells, Pt.slots] at X61 l61 y61 z61 st61 hQ61
        subst l61 y61 z61
        obtain ⟨rfl, N61q, e61⟩ := hQ61
        have N61 := Fr.app N59 N61q
        have hr62 : (1 : Int32) = v2 w_SELL (0 : Int64) (q1 &&& (9223372036854775807 : Int64)) w_BUY w_SELL := own_sell ne_SELL_BUY (own_and _).1
        obtain ⟨cq62, kq62, q62a, q62b, q62c⟩ := isOf hZ e61 (show Exa Z h0 w_SELL "com/example/orderwarden/orderwarden/Side" from E_SELL)
        obtain ⟨_, _, ⟨T62, L62, k62, n62⟩, -, X62, ⟨Lc62, hQ62, l62, y62, z62⟩, st62⟩ := X61.virtualBack hx (y := (⟨"com/example/orderwarden/orderwarden/Side", "accepts", "(JJ)Z"⟩ : MethodName)) (z := (⟨"com/example/orderwarden/orderwarden/Side", "accepts", "(JJ)Z"⟩ : MethodName)) hown (mvT hZ (hw _ (List.mem_of_getElem? (i := 11) rfl))) (mvT hZ (hw _ (List.mem_of_getElem? (i := 12) rfl))) (notFace_of_selects (args := #[]) (mvT hZ (hw _ (List.mem_of_getElem? (i := 14) rfl)))) (mvT hZ (hw _ (List.mem_of_getElem? (i := 14) rfl))) (mvT hZ (hw _ (List.mem_of_getElem? (i := 13) rfl))) (by decide) (backOf (W := 0) (rm2 l Z ar0 hw [] w_SELL (0 : Int64) (q1 &&& (9223372036854775807 : Int64)) w_BUY w_SELL h0 n0 Z0 F  (1 : Int32) hr62) hZ (hw _ (List.mem_of_getElem? (i := 15) rfl)) (hw _ (List.mem_of_getElem? (i := 1) rfl)) (by decide) (by decide)) q62a q62c (g := (mkF m 186 #[.val (.long q0), .second, .val (.long q1), .second, .val (.int p2), .val (.ref w_SELL), .val (.ref w_BUY), .val (.int (1 : Int32)), .val (.int (1 : Int32)), .val (.int (1 : Int32)), .val (.int (1 : Int32)), .val (.int (1 : Int32))] [(.long (q1 &&& (9223372036854775807 : Int64))), (.long (0 : Int64)), (.ref w_SELL)])) rfl (by rw [hml]; rfl) (Steps.refl _) (argsL := [(.long (0 : Int64)), (.long (q1 &&& (9223372036854775807 : Int64)))]) (rest := []) (lenOf pd_0_186 rfl) rfl (by show 2 * 0 + _ ≤ _; exact Nat.le_of_eq rfl) (hb hby at_186) (fun _ _ => ⟨rfl, e61, (by decide : 0 + 0 ≤ _), (by decide : 0 + 0 ≤ _)⟩)
        dsimp only [Pt.U, Pt.locs, Pt.cells, Pt.slots] at X62 l62 y62 z62 st62 hQ62
        subst l62 y62 z62
        obtain ⟨rfl, N62q, e62⟩ := hQ62
        have N62 := Fr.app N61 N62q
        obtain ⟨fs, hr, hrun, hended, hW, hsame⟩ := X62.leave (v := some (.int (1 : Int32))) (fun h => by rw [Bd.returns] at h; cases h)
        refine ⟨_, _, pre33 _ ?_, hrun, hended, _, _, rfl, ?_, ⟨_, rfl⟩, hW, hsame.mono (by decide) (by decide)⟩
        · show Steps p.tables e below (s₁.setTop (mkF m 4 #[.val (.long q0), .second, .val (.long q1), .second, .val (.int p2), .unset, .unset, .unset, .unset, .unset, .unset, .unset] [(.int (p2 &&& (1 : Int32)))])) _
          refine XS.ifNo X0.here hx rfl (hb hby at_4) rfl ((if0 _ _).trans (feq hc34).1) ?_
          show Steps p.tables e below (s₁.setTop (mkF m 7 #[.val (.long q0), .second, .val (.long q1), .second, .val (.int p2), .unset, .unset, .unset, .unset, .unset, .unset, .unset] [])) _
          refine st49 _ ?_
          show Steps p.tables e below (T49.setTop (mkF m 10 #[.val (.long q0), .second, .val (.long q1), .second, .val (.int p2), .unset, .unset, .unset, .unset, .unset, .unset, .unset] [(.ref w_SELL)])) _
          refine XS.goto X49.here hx rfl (pc0 := 10) (pc' := 16) rfl (hb hby at_10) (by decide) (by decide) ?_
          show Steps p.tables e below (T49.setTop (mkF m 16 #[.val (.long q0), .second, .val (.long q1), .second, .val (.int p2), .unset, .unset, .unset, .unset, .unset, .unset, .unset] [(.ref w_SELL)])) _
          refine XS.astore X49.here hx rfl (hb hby at_16) rfl rfl (l' := #[.val (.long q0), .second, .val (.long q1), .second, .val (.int p2), .val (.ref w_SELL), .unset, .unset, .unset, .unset, .unset, .unset]) rfl ?_
          show Steps p.tables e below (T49.setTop (mkF m 18 #[.val (.long q0), .second, .val (.long q1), .second, .val (.int p2), .val (.ref w_SELL), .unset, .unset, .unset, .unset, .unset, .unset] [])) _
          refine XS.aload X49.here hx rfl (hb hby at_18) rfl rfl ?_
          show Steps p.tables e below (T49.setTop (mkF m 20 #[.val (.long q0), .second, .val (.long q1), .second, .val (.int p2), .val (.ref w_SELL), .unset, .unset, .unset, .unset, .unset, .unset] [(.ref w_SELL)])) _
          refine st50.trans ?_
          show Steps p.tables e below (T50.setTop (mkF m 23 #[.val (.long q0), .second, .val (.long q1), .second, .val (.int p2), .val (.ref w_SELL), .unset, .unset, .unset, .unset, .unset, .unset] [(.ref w_BUY)])) _
          refine XS.astore X50.here hx rfl (hb hby at_23) rfl rfl (l' := #[.val (.long q0), .second, .val (.long q1), .second, .val (.int p2), .val (.ref w_SELL), .val (.ref w_BUY), .unset, .unset, .unset, .unset, .unset]) rfl ?_
          show Steps p.tables e below (T50.setTop (mkF m 25 #[.val (.long q0), .second, .val (.long q1), .second, .val (.int p2), .val (.ref w_SELL), .val (.ref w_BUY), .unset, .unset, .unset, .unset, .unset] [])) _
          refine XS.aload X50.here hx rfl (hb hby at_25) rfl rfl ?_
          show Steps p.tables e below (T50.setTop (mkF m 27 #[.val (.long q0), .second, .val (.long q1), .second, .val (.int p2), .val (.ref w_SELL), .val (.ref w_BUY), .unset, .unset, .unset, .unset, .unset] [(.ref w_SELL)])) _
          refine XS.lloadN X50.here hx rfl (hb hby at_27) rfl ?_
          show Steps p.tables e below (T50.setTop (mkF m 28 #[.val (.long q0), .second, .val (.long q1), .second, .val (.int p2), .val (.ref w_SELL), .val (.ref w_BUY), .unset, .unset, .unset, .unset, .unset] [(.long q0), (.ref w_SELL)])) _
          refine XS.lloadN X50.here hx rfl (hb hby at_28) rfl ?_
          show Steps p.tables e below (T50.setTop (mkF m 29 #[.val (.long q0), .second, .val (.long q1), .second, .val (.int p2), .val (.ref w_SELL), .val (.ref w_BUY), .unset, .unset, .unset, .unset, .unset] [(.long q1), (.long q0), (.ref w_SELL)])) _
          refine st51.trans ?_
          show Steps p.tables e below (T51.setTop (mkF m 32 #[.val (.long q0), .second, .val (.long q1), .second, .val (.int p2), .val (.ref w_SELL), .val (.ref w_BUY), .unset, .unset, .unset, .unset, .unset] [(.int (1 : Int32))])) _
          refine XS.istore X51.here hx rfl (hb hby at_32) rfl (l' := #[.val (.long q0), .second, .val (.long q1), .second, .val (.int p2), .val (.ref w_SELL), .val (.ref w_BUY), .val (.int (1 : Int32)), .unset, .unset, .unset, .unset]) rfl ?_
          show Steps p.tables e below (T51.setTop (mkF m 34 #[.val (.long q0), .second, .val (.long q1), .second, .val (.int p2), .val (.ref w_SELL), .val (.ref w_BUY), .val (.int (1 : Int32)), .unset, .unset, .unset, .unset] [])) _
          refine XS.aload X51.here hx rfl (hb hby at_34) rfl rfl ?_
          show Steps p.tables e below (T51.setTop (mkF m 36 #[.val (.long q0), .second, .val (.long q1), .second, .val (.int p2), .val (.ref w_SELL), .val (.ref w_BUY), .val (.int (1 : Int32)), .unset, .unset, .unset, .unset] [(.ref w_BUY)])) _
          refine XS.lloadN X51.here hx rfl (hb hby at_36) rfl ?_
          show Steps p.tables e below (T51.setTop (mkF m 37 #[.val (.long q0), .second, .val (.long q1), .second, .val (.int p2), .val (.ref w_SELL), .val (.ref w_BUY), .val (.int (1 : Int32)), .unset, .unset, .unset, .unset] [(.long q0), (.ref w_BUY)])) _
          refine XS.lloadN X51.here hx rfl (hb hby at_37) rfl ?_
          show Steps p.tables e below (T51.setTop (mkF m 38 #[.val (.long q0), .second, .val (.long q1), .second, .val (.int p2), .val (.ref w_SELL), .val (.ref w_BUY), .val (.int (1 : Int32)), .unset, .unset, .unset, .unset] [(.long q1), (.long q0), (.ref w_BUY)])) _
          refine st52.trans ?_
          show Steps p.tables e below (T52.setTop (mkF m 41 #[.val (.long q0), .second, .val (.long q1), .second, .val (.int p2), .val (.ref w_SELL), .val (.ref w_BUY), .val (.int (1 : Int32)), .unset, .unset, .unset, .unset] [(.int (1 : Int32))])) _
          refine XS.istore X52.here hx rfl (hb hby at_41) rfl (l' := #[.val (.long q0), .second, .val (.long q1), .second, .val (.int p2), .val (.ref w_SELL), .val (.ref w_BUY), .val (.int (1 : Int32)), .val (.int (1 : Int32)), .unset, .unset, .unset]) rfl ?_
          show Steps p.tables e below (T52.setTop (mkF m 43 #[.val (.long q0), .second, .val (.long q1), .second, .val (.int p2), .val (.ref w_SELL), .val (.ref w_BUY), .val (.int (1 : Int32)), .val (.int (1 : Int32)), .unset, .unset, .unset] [])) _
          refine XS.iload X52.here hx rfl (hb hby at_43) rfl ?_
          show Steps p.tables e below (T52.setTop (mkF m 45 #[.val (.long q0), .second, .val (.long q1), .second, .val (.int p2), .val (.ref w_SELL), .val (.ref w_BUY), .val (.int (1 : Int32)), .val (.int (1 : Int32)), .unset, .unset, .unset] [(.int (1 : Int32))])) _
          refine XS.ifYes X52.here hx rfl (pc0 := 45) (pc' := 53) rfl (hb hby at_45) rfl ((if0 _ _).trans (feq (by decide : ¬ ((1 : Int32) = (0 : Int32)))).2) (by decide) (by decide) ?_
          show Steps p.tables e below (T52.setTop (mkF m 53 #[.val (.long q0), .second, .val (.long q1), .second, .val (.int p2), .val (.ref w_SELL), .val (.ref w_BUY), .val (.int (1 : Int32)), .val (.int (1 : Int32)), .unset, .unset, .unset] [])) _
          refine XS.iconst X52.here hx rfl (hb hby at_53) ?_
          show Steps p.tables e below (T52.setTop (mkF m 54 #[.val (.long q0), .second, .val (.long q1), .second, .val (.int p2), .val (.ref w_SELL), .val (.ref w_BUY), .val (.int (1 : Int32)), .val (.int (1 : Int32)), .unset, .unset, .unset] [(.int (1 : Int32))])) _
          refine XS.goto X52.here hx rfl (pc0 := 54) (pc' := 58) rfl (hb hby at_54) (by decide) (by decide) ?_
          show Steps p.tables e below (T52.setTop (mkF m 58 #[.val (.long q0), .second, .val (.long q1), .second, .val (.int p2), .val (.ref w_SELL), .val (.ref w_BUY), .val (.int (1 : Int32)), .val (.int (1 : Int32)), .unset, .unset, .unset] [(.int (1 : Int32))])) _
          refine XS.istore X52.here hx rfl (hb hby at_58) rfl (l' := #[.val (.long q0), .second, .val (.long q1), .second, .val (.int p2), .val (.ref w_SELL), .val (.ref w_BUY), .val (.int (1 : Int32)), .val (.int (1 : Int32)), .val (.int (1 : Int32)), .unset, .unset]) rfl ?_
          show Steps p.tables e below (T52.setTop (mkF m 60 #[.val (.long q0), .second, .val (.long q1), .second, .val (.int p2), .val (.ref w_SELL), .val (.ref w_BUY), .val (.int (1 : Int32)), .val (.int (1 : Int32)), .val (.int (1 : Int32)), .unset, .unset] [])) _
          refine XS.iload X52.here hx rfl (hb hby at_60) rfl ?_
          show Steps p.tables e below (T52.setTop (mkF m 62 #[.val (.long q0), .second, .val (.long q1), .second, .val (.int p2), .val (.ref w_SELL), .val (.ref w_BUY), .val (.int (1 : Int32)), .val (.int (1 : Int32)), .val (.int (1 : Int32)), .unset, .unset] [(.int (1 : Int32))])) _
          refine XS.ifNo X52.here hx rfl (hb hby at_62) rfl ((if0 _ _).trans (feq (by decide : ¬ ((1 : Int32) = (0 : Int32)))).1) ?_
          show Steps p.tables e below (T52.setTop (mkF m 65 #[.val (.long q0), .second, .val (.long q1), .second, .val (.int p2), .val (.ref w_SELL), .val (.ref w_BUY), .val (.int (1 : Int32)), .val (.int (1 : Int32)), .val (.int (1 : Int32)), .unset, .unset] [])) _
          refine XS.iload X52.here hx rfl (hb hby at_65) rfl ?_
          show Steps p.tables e below (T52.setTop (mkF m 67 #[.val (.long q0), .second, .val (.long q1), .second, .val (.int p2), .val (.ref w_SELL), .val (.ref w_BUY), .val (.int (1 : Int32)), .val (.int (1 : Int32)), .val (.int (1 : Int32)), .unset, .unset] [(.int (1 : Int32))])) _
          refine XS.ifNo X52.here hx rfl (hb hby at_67) rfl ((if0 _ _).trans (feq (by decide : ¬ ((1 : Int32) = (0 : Int32)))).1) ?_
          show Steps p.tables e below (T52.setTop (mkF m 70 #[.val (.long q0), .second, .val (.long q1), .second, .val (.int p2), .val (.ref w_SELL), .val (.ref w_BUY), .val (.int (1 : Int32)), .val (.int (1 : Int32)), .val (.int (1 : Int32)), .unset, .unset] [])) _
          refine XS.iload X52.here hx rfl (hb hby at_70) rfl ?_
          show Steps p.tables e below (T52.setTop (mkF m 72 #[.val (.long q0), .second, .val (.long q1), .second, .val (.int p2), .val (.ref w_SELL), .val (.ref w_BUY), .val (.int (1 : Int32)), .val (.int (1 : Int32)), .val (.int (1 : Int32)), .unset, .unset] [(.int (1 : Int32))])) _
          refine XS.ifNo X52.here hx rfl (hb hby at_72) rfl ((if0 _ _).trans (feq (by decide : ¬ ((1 : Int32) = (0 : Int32)))).1) ?_
          show Steps p.tables e below (T52.setTop (mkF m 75 #[.val (.long q0), .second, .val (.long q1), .second, .val (.int p2), .val (.ref w_SELL), .val (.ref w_BUY), .val (.int (1 : Int32)), .val (.int (1 : Int32)), .val (.int (1 : Int32)), .unset, .unset] [])) _
          refine XS.iconst X52.here hx rfl (hb hby at_75) ?_
          show Steps p.tables e below (T52.setTop (mkF m 76 #[.val (.long q0), .second, .val (.long q1), .second, .val (.int p2), .val (.ref w_SELL), .val (.ref w_BUY), .val (.int (1 : Int32)), .val (.int (1 : Int32)), .val (.int (1 : Int32)), .unset, .unset] [(.int (1 : Int32))])) _
          refine XS.goto X52.here hx rfl (pc0 := 76) (pc' := 80) rfl (hb hby at_76) (by decide) (by decide) ?_
          show Steps p.tables e below (T52.setTop (mkF m 80 #[.val (.long q0), .second, .val (.long q1), .second, .val (.int p2), .val (.ref w_SELL), .val (.ref w_BUY), .val (.int (1 : Int32)), .val (.int (1 : Int32)), .val (.int (1 : Int32)), .unset, .unset] [(.int (1 : Int32))])) _
          refine XS.lloadN X52.here hx rfl (hb hby at_80) rfl ?_
          show Steps p.tables e below (T52.setTop (mkF m 81 #[.val (.long q0), .second, .val (.long q1), .second, .val (.int p2), .val (.ref w_SELL), .val (.ref w_BUY), .val (.int (1 : Int32)), .val (.int (1 : Int32)), .val (.int (1 : Int32)), .unset, .unset] [(.long q1), (.int (1 : Int32))])) _
          refine XS.lloadN X52.here hx rfl (hb hby at_81) rfl ?_
          show Steps p.tables e below (T52.setTop (mkF m 82 #[.val (.long q0), .second, .val (.long q1), .second, .val (.int p2), .val (.ref w_SELL), .val (.ref w_BUY), .val (.int (1 : Int32)), .val (.int (1 : Int32)), .val (.int (1 : Int32)), .unset, .unset] [(.long q0), (.long q1), (.int (1 : Int32))])) _
          refine XS.lcmp X52.here hx rfl (hb hby at_82) rfl ?_
          show Steps p.tables e below (T52.setTop (mkF m 83 #[.val (.long q0), .second, .val (.long q1), .second, .val (.int p2), .val (.ref w_SELL), .val (.ref w_BUY), .val (.int (1 : Int32)), .val (.int (1 : Int32)), .val (.int (1 : Int32)), .unset, .unset] [(.int (lcmpW q1 q0)), (.int (1 : Int32))])) _
          refine XS.ifNo X52.here hx rfl (hb hby at_83) rfl ((if0 _ _).trans (teq hk53).2) ?_
          show Steps p.tables e below (T52.setTop (mkF m 86 #[.val (.long q0), .second, .val (.long q1), .second, .val (.int p2), .val (.ref w_SELL), .val (.ref w_BUY), .val (.int (1 : Int32)), .val (.int (1 : Int32)), .val (.int (1 : Int32)), .unset, .unset] [(.int (1 : Int32))])) _
          refine XS.iconst X52.here hx rfl (hb hby at_86) ?_
          show Steps p.tables e below (T52.setTop (mkF m 87 #[.val (.long q0), .second, .val (.long q1), .second, .val (.int p2), .val (.ref w_SELL), .val (.ref w_BUY), .val (.int (1 : Int32)), .val (.int (1 : Int32)), .val (.int (1 : Int32)), .unset, .unset] [(.int (1 : Int32)), (.int (1 : Int32))])) _
          refine XS.goto X52.here hx rfl (pc0 := 87) (pc' := 91) rfl (hb hby at_87) (by decide) (by decide) ?_
          show Steps p.tables e below (T52.setTop (mkF m 91 #[.val (.long q0), .second, .val (.long q1), .second, .val (.int p2), .val (.ref w_SELL), .val (.ref w_BUY), .val (.int (1 : Int32)), .val (.int (1 : Int32)), .val (.int (1 : Int32)), .unset, .unset] [(.int (1 : Int32)), (.int (1 : Int32))])) _
          refine XS.icmpNo X52.here hx rfl (hb hby at_91) rfl (teq (by decide : (1 : Int32) = (1 : Int32))).2 ?_
          show Steps p.tables e below (T52.setTop (mkF m 94 #[.val (.long q0), .second, .val (.long q1), .second, .val (.int p2), .val (.ref w_SELL), .val (.ref w_BUY), .val (.int (1 : Int32)), .val (.int (1 : Int32)), .val (.int (1 : Int32)), .unset, .unset] [])) _
          refine XS.iconst X52.here hx rfl (hb hby at_94) ?_
          show Steps p.tables e below (T52.setTop (mkF m 95 #[.val (.long q0), .second, .val (.long q1), .second, .val (.int p2), .val (.ref w_SELL), .val (.ref w_BUY), .val (.int (1 : Int32)), .val (.int (1 : Int32)), .val (.int (1 : Int32)), .unset, .unset] [(.int (1 : Int32))])) _
          refine XS.goto X52.here hx rfl (pc0 := 95) (pc' := 99) rfl (hb hby at_95) (by decide) (by decide) ?_
          show Steps p.tables e below (T52.setTop (mkF m 99 #[.val (.long q0), .second, .val (.long q1), .second, .val (.int p2), .val (.ref w_SELL), .val (.ref w_BUY), .val (.int (1 : Int32)), .val (.int (1 : Int32)), .val (.int (1 : Int32)), .unset, .unset] [(.int (1 : Int32))])) _
          refine XS.istore X52.here hx rfl (hb hby at_99) rfl (l' := #[.val (.long q0), .second, .val (.long q1), .second, .val (.int p2), .val (.ref w_SELL), .val (.ref w_BUY), .val (.int (1 : Int32)), .val (.int (1 : Int32)), .val (.int (1 : Int32)), .unset, .unset]) rfl ?_
          show Steps p.tables e below (T52.setTop (mkF m 101 #[.val (.long q0), .second, .val (.long q1), .second, .val (.int p2), .val (.ref w_SELL), .val (.ref w_BUY), .val (.int (1 : Int32)), .val (.int (1 : Int32)), .val (.int (1 : Int32)), .unset, .unset] [])) _
          refine st54 _ ?_
          show Steps p.tables e below (T54.setTop (mkF m 104 #[.val (.long q0), .second, .val (.long q1), .second, .val (.int p2), .val (.ref w_SELL), .val (.ref w_BUY), .val (.int (1 : Int32)), .val (.int (1 : Int32)), .val (.int (1 : Int32)), .unset, .unset] [(.ref w_BUY)])) _
          refine XS.lloadN X54.here hx rfl (hb hby at_104) rfl ?_
          show Steps p.tables e below (T54.setTop (mkF m 105 #[.val (.long q0), .second, .val (.long q1), .second, .val (.int p2), .val (.ref w_SELL), .val (.ref w_BUY), .val (.int (1 : Int32)), .val (.int (1 : Int32)), .val (.int (1 : Int32)), .unset, .unset] [(.long q0), (.ref w_BUY)])) _
          refine XS.lloadN X54.here hx rfl (hb hby at_105) rfl ?_
          show Steps p.tables e below (T54.setTop (mkF m 106 #[.val (.long q0), .second, .val (.long q1), .second, .val (.int p2), .val (.ref w_SELL), .val (.ref w_BUY), .val (.int (1 : Int32)), .val (.int (1 : Int32)), .val (.int (1 : Int32)), .unset, .unset] [(.long q1), (.long q0), (.ref w_BUY)])) _
          refine st55.trans ?_
          show Steps p.tables e below (T55.setTop (mkF m 109 #[.val (.long q0), .second, .val (.long q1), .second, .val (.int p2), .val (.ref w_SELL), .val (.ref w_BUY), .val (.int (1 : Int32)), .val (.int (1 : Int32)), .val (.int (1 : Int32)), .unset, .unset] [(.int (1 : Int32))])) _
          refine XS.istore X55.here hx rfl (hb hby at_109) rfl (l' := #[.val (.long q0), .second, .val (.long q1), .second, .val (.int p2), .val (.ref w_SELL), .val (.ref w_BUY), .val (.int (1 : Int32)), .val (.int (1 : Int32)), .val (.int (1 : Int32)), .val (.int (1 : Int32)), .unset]) rfl ?_
          show Steps p.tables e below (T55.setTop (mkF m 111 #[.val (.long q0), .second, .val (.long q1), .second, .val (.int p2), .val (.ref w_SELL), .val (.ref w_BUY), .val (.int (1 : Int32)), .val (.int (1 : Int32)), .val (.int (1 : Int32)), .val (.int (1 : Int32)), .unset] [])) _
          refine st56 _ ?_
          show Steps p.tables e below (T56.setTop (mkF m 114 #[.val (.long q0), .second, .val (.long q1), .second, .val (.int p2), .val (.ref w_SELL), .val (.ref w_BUY), .val (.int (1 : Int32)), .val (.int (1 : Int32)), .val (.int (1 : Int32)), .val (.int (1 : Int32)), .unset] [(.ref w_SELL)])) _
          refine XS.lloadN X56.here hx rfl (hb hby at_114) rfl ?_
          show Steps p.tables e below (T56.setTop (mkF m 115 #[.val (.long q0), .second, .val (.long q1), .second, .val (.int p2), .val (.ref w_SELL), .val (.ref w_BUY), .val (.int (1 : Int32)), .val (.int (1 : Int32)), .val (.int (1 : Int32)), .val (.int (1 : Int32)), .unset] [(.long q0), (.ref w_SELL)])) _
          refine XS.lloadN X56.here hx rfl (hb hby at_115) rfl ?_
          show Steps p.tables e below (T56.setTop (mkF m 116 #[.val (.long q0), .second, .val (.long q1), .second, .val (.int p2), .val (.ref w_SELL), .val (.ref w_BUY), .val (.int (1 : Int32)), .val (.int (1 : Int32)), .val (.int (1 : Int32)), .val (.int (1 : Int32)), .unset] [(.long q1), (.long q0), (.ref w_SELL)])) _
          refine st57.trans ?_
          show Steps p.tables e below (T57.setTop (mkF m 119 #[.val (.long q0), .second, .val (.long q1), .second, .val (.int p2), .val (.ref w_SELL), .val (.ref w_BUY), .val (.int (1 : Int32)), .val (.int (1 : Int32)), .val (.int (1 : Int32)), .val (.int (1 : Int32)), .unset] [(.int (1 : Int32))])) _
          refine XS.istore X57.here hx rfl (hb hby at_119) rfl (l' := #[.val (.long q0), .second, .val (.long q1), .second, .val (.int p2), .val (.ref w_SELL), .val (.ref w_BUY), .val (.int (1 : Int32)), .val (.int (1 : Int32)), .val (.int (1 : Int32)), .val (.int (1 : Int32)), .val (.int (1 : Int32))]) rfl ?_
          show Steps p.tables e below (T57.setTop (mkF m 121 #[.val (.long q0), .second, .val (.long q1), .second, .val (.int p2), .val (.ref w_SELL), .val (.ref w_BUY), .val (.int (1 : Int32)), .val (.int (1 : Int32)), .val (.int (1 : Int32)), .val (.int (1 : Int32)), .val (.int (1 : Int32))] [])) _
          refine XS.iload X57.here hx rfl (hb hby at_121) rfl ?_
          show Steps p.tables e below (T57.setTop (mkF m 123 #[.val (.long q0), .second, .val (.long q1), .second, .val (.int p2), .val (.ref w_SELL), .val (.ref w_BUY), .val (.int (1 : Int32)), .val (.int (1 : Int32)), .val (.int (1 : Int32)), .val (.int (1 : Int32)), .val (.int (1 : Int32))] [(.int (1 : Int32))])) _
          refine XS.ifNo X57.here hx rfl (hb hby at_123) rfl ((if0 _ _).trans (feq (by decide : ¬ ((1 : Int32) = (0 : Int32)))).1) ?_
          show Steps p.tables e below (T57.setTop (mkF m 126 #[.val (.long q0), .second, .val (.long q1), .second, .val (.int p2), .val (.ref w_SELL), .val (.ref w_BUY), .val (.int (1 : Int32)), .val (.int (1 : Int32)), .val (.int (1 : Int32)), .val (.int (1 : Int32)), .val (.int (1 : Int32))] [])) _
          refine XS.iload X57.here hx rfl (hb hby at_126) rfl ?_
          show Steps p.tables e below (T57.setTop (mkF m 128 #[.val (.long q0), .second, .val (.long q1), .second, .val (.int p2), .val (.ref w_SELL), .val (.ref w_BUY), .val (.int (1 : Int32)), .val (.int (1 : Int32)), .val (.int (1 : Int32)), .val (.int (1 : Int32)), .val (.int (1 : Int32))] [(.int (1 : Int32))])) _
          refine st58 _ ?_
          show Steps p.tables e below (T58.setTop (mkF m 131 #[.val (.long q0), .second, .val (.long q1), .second, .val (.int p2), .val (.ref w_SELL), .val (.ref w_BUY), .val (.int (1 : Int32)), .val (.int (1 : Int32)), .val (.int (1 : Int32)), .val (.int (1 : Int32)), .val (.int (1 : Int32))] [(.ref w_BUY), (.int (1 : Int32))])) _
          refine XS.lloadN X58.here hx rfl (hb hby at_131) rfl ?_
          show Steps p.tables e below (T58.setTop (mkF m 132 #[.val (.long q0), .second, .val (.long q1), .second, .val (.int p2), .val (.ref w_SELL), .val (.ref w_BUY), .val (.int (1 : Int32)), .val (.int (1 : Int32)), .val (.int (1 : Int32)), .val (.int (1 : Int32)), .val (.int (1 : Int32))] [(.long q1), (.ref w_BUY), (.int (1 : Int32))])) _
          refine XS.lloadN X58.here hx rfl (hb hby at_132) rfl ?_
          show Steps p.tables e below (T58.setTop (mkF m 133 #[.val (.long q0), .second, .val (.long q1), .second, .val (.int p2), .val (.ref w_SELL), .val (.ref w_BUY), .val (.int (1 : Int32)), .val (.int (1 : Int32)), .val (.int (1 : Int32)), .val (.int (1 : Int32)), .val (.int (1 : Int32))] [(.long q0), (.long q1), (.ref w_BUY), (.int (1 : Int32))])) _
          refine st59.trans ?_
          show Steps p.tables e below (T59.setTop (mkF m 136 #[.val (.long q0), .second, .val (.long q1), .second, .val (.int p2), .val (.ref w_SELL), .val (.ref w_BUY), .val (.int (1 : Int32)), .val (.int (1 : Int32)), .val (.int (1 : Int32)), .val (.int (1 : Int32)), .val (.int (1 : Int32))] [(.int (1 : Int32)), (.int (1 : Int32))])) _
          refine XS.icmpNo X59.here hx rfl (hb hby at_136) rfl (teq (by decide : (1 : Int32) = (1 : Int32))).2 ?_
          show Steps p.tables e below (T59.setTop (mkF m 139 #[.val (.long q0), .second, .val (.long q1), .second, .val (.int p2), .val (.ref w_SELL), .val (.ref w_BUY), .val (.int (1 : Int32)), .val (.int (1 : Int32)), .val (.int (1 : Int32)), .val (.int (1 : Int32)), .val (.int (1 : Int32))] [])) _
          refine XS.iconst X59.here hx rfl (hb hby at_139) ?_
          show Steps p.tables e below (T59.setTop (mkF m 140 #[.val (.long q0), .second, .val (.long q1), .second, .val (.int p2), .val (.ref w_SELL), .val (.ref w_BUY), .val (.int (1 : Int32)), .val (.int (1 : Int32)), .val (.int (1 : Int32)), .val (.int (1 : Int32)), .val (.int (1 : Int32))] [(.int (1 : Int32))])) _
          refine XS.goto X59.here hx rfl (pc0 := 140) (pc' := 144) rfl (hb hby at_140) (by decide) (by decide) ?_
          show Steps p.tables e below (T59.setTop (mkF m 144 #[.val (.long q0), .second, .val (.long q1), .second, .val (.int p2), .val (.ref w_SELL), .val (.ref w_BUY), .val (.int (1 : Int32)), .val (.int (1 : Int32)), .val (.int (1 : Int32)), .val (.int (1 : Int32)), .val (.int (1 : Int32))] [(.int (1 : Int32))])) _
          refine XS.istore X59.here hx rfl (hb hby at_144) rfl (l' := #[.val (.long q0), .second, .val (.long q1), .second, .val (.int p2), .val (.ref w_SELL), .val (.ref w_BUY), .val (.int (1 : Int32)), .val (.int (1 : Int32)), .val (.int (1 : Int32)), .val (.int (1 : Int32)), .val (.int (1 : Int32))]) rfl ?_
          show Steps p.tables e below (T59.setTop (mkF m 146 #[.val (.long q0), .second, .val (.long q1), .second, .val (.int p2), .val (.ref w_SELL), .val (.ref w_BUY), .val (.int (1 : Int32)), .val (.int (1 : Int32)), .val (.int (1 : Int32)), .val (.int (1 : Int32)), .val (.int (1 : Int32))] [])) _
          refine XS.lloadN X59.here hx rfl (hb hby at_146) rfl ?_
          show Steps p.tables e below (T59.setTop (mkF m 147 #[.val (.long q0), .second, .val (.long q1), .second, .val (.int p2), .val (.ref w_SELL), .val (.ref w_BUY), .val (.int (1 : Int32)), .val (.int (1 : Int32)), .val (.int (1 : Int32)), .val (.int (1 : Int32)), .val (.int (1 : Int32))] [(.long q1)])) _
          refine XS.lloadN X59.here hx rfl (hb hby at_147) rfl ?_
          show Steps p.tables e below (T59.setTop (mkF m 148 #[.val (.long q0), .second, .val (.long q1), .second, .val (.int p2), .val (.ref w_SELL), .val (.ref w_BUY), .val (.int (1 : Int32)), .val (.int (1 : Int32)), .val (.int (1 : Int32)), .val (.int (1 : Int32)), .val (.int (1 : Int32))] [(.long q0), (.long q1)])) _
          refine XS.lcmp X59.here hx rfl (hb hby at_148) rfl ?_
          show Steps p.tables e below (T59.setTop (mkF m 149 #[.val (.long q0), .second, .val (.long q1), .second, .val (.int p2), .val (.ref w_SELL), .val (.ref w_BUY), .val (.int (1 : Int32)), .val (.int (1 : Int32)), .val (.int (1 : Int32)), .val (.int (1 : Int32)), .val (.int (1 : Int32))] [(.int (lcmpW q1 q0))])) _
          refine XS.ifYes X59.here hx rfl (pc0 := 149) (pc' := 169) rfl (hb hby at_149) rfl ((if0 _ _).trans (flt hk60).2.1) (by decide) (by decide) ?_
          show Steps p.tables e below (T59.setTop (mkF m 169 #[.val (.long q0), .second, .val (.long q1), .second, .val (.int p2), .val (.ref w_SELL), .val (.ref w_BUY), .val (.int (1 : Int32)), .val (.int (1 : Int32)), .val (.int (1 : Int32)), .val (.int (1 : Int32)), .val (.int (1 : Int32))] [])) _
          refine XS.iload X59.here hx rfl (hb hby at_169) rfl ?_
          show Steps p.tables e below (T59.setTop (mkF m 171 #[.val (.long q0), .second, .val (.long q1), .second, .val (.int p2), .val (.ref w_SELL), .val (.ref w_BUY), .val (.int (1 : Int32)), .val (.int (1 : Int32)), .val (.int (1 : Int32)), .val (.int (1 : Int32)), .val (.int (1 : Int32))] [(.int (1 : Int32))])) _
          refine XS.ifNo X59.here hx rfl (hb hby at_171) rfl ((if0 _ _).trans (feq (by decide : ¬ ((1 : Int32) = (0 : Int32)))).1) ?_
          show Steps p.tables e below (T59.setTop (mkF m 174 #[.val (.long q0), .second, .val (.long q1), .second, .val (.int p2), .val (.ref w_SELL), .val (.ref w_BUY), .val (.int (1 : Int32)), .val (.int (1 : Int32)), .val (.int (1 : Int32)), .val (.int (1 : Int32)), .val (.int (1 : Int32))] [])) _
          refine XS.aload X59.here hx rfl (hb hby at_174) rfl rfl ?_
          show Steps p.tables e below (T59.setTop (mkF m 176 #[.val (.long q0), .second, .val (.long q1), .second, .val (.int p2), .val (.ref w_SELL), .val (.ref w_BUY), .val (.int (1 : Int32)), .val (.int (1 : Int32)), .val (.int (1 : Int32)), .val (.int (1 : Int32)), .val (.int (1 : Int32))] [(.ref w_SELL)])) _
          refine XS.aload X59.here hx rfl (hb hby at_176) rfl rfl ?_
          show Steps p.tables e below (T59.setTop (mkF m 178 #[.val (.long q0), .second, .val (.long q1), .second, .val (.int p2), .val (.ref w_SELL), .val (.ref w_BUY), .val (.int (1 : Int32)), .val (.int (1 : Int32)), .val (.int (1 : Int32)), .val (.int (1 : Int32)), .val (.int (1 : Int32))] [(.ref w_SELL), (.ref w_SELL)])) _
          refine st61.trans ?_
          show Steps p.tables e below (T61.setTop (mkF m 181 #[.val (.long q0), .second, .val (.long q1), .second, .val (.int p2), .val (.ref w_SELL), .val (.ref w_BUY), .val (.int (1 : Int32)), .val (.int (1 : Int32)), .val (.int (1 : Int32)), .val (.int (1 : Int32)), .val (.int (1 : Int32))] [(.long (0 : Int64)), (.ref w_SELL)])) _
          refine XS.lloadN X61.here hx rfl (hb hby at_181) rfl ?_
          show Steps p.tables e below (T61.setTop (mkF m 182 #[.val (.long q0), .second, .val (.long q1), .second, .val (.int p2), .val (.ref w_SELL), .val (.ref w_BUY), .val (.int (1 : Int32)), .val (.int (1 : Int32)), .val (.int (1 : Int32)), .val (.int (1 : Int32)), .val (.int (1 : Int32))] [(.long q1), (.long (0 : Int64)), (.ref w_SELL)])) _
          refine X61.ldc2Long hx hown (mvT hZ (hw _ (List.mem_of_getElem? (i := 23) rfl))) (g := (mkF m 182 #[.val (.long q0), .second, .val (.long q1), .second, .val (.int p2), .val (.ref w_SELL), .val (.ref w_BUY), .val (.int (1 : Int32)), .val (.int (1 : Int32)), .val (.int (1 : Int32)), .val (.int (1 : Int32)), .val (.int (1 : Int32))] [(.long q1), (.long (0 : Int64)), (.ref w_SELL)])) rfl (hb hby at_182) _ ?_
          show Steps p.tables e below (T61.setTop (mkF m 185 #[.val (.long q0), .second, .val (.long q1), .second, .val (.int p2), .val (.ref w_SELL), .val (.ref w_BUY), .val (.int (1 : Int32)), .val (.int (1 : Int32)), .val (.int (1 : Int32)), .val (.int (1 : Int32)), .val (.int (1 : Int32))] [(.long (9223372036854775807 : Int64)), (.long q1), (.long (0 : Int64)), (.ref w_SELL)])) _
          refine XS.land X61.here hx rfl (hb hby at_185) rfl ?_
          show Steps p.tables e below (T61.setTop (mkF m 186 #[.val (.long q0), .second, .val (.long q1), .second, .val (.int p2), .val (.ref w_SELL), .val (.ref w_BUY), .val (.int (1 : Int32)), .val (.int (1 : Int32)), .val (.int (1 : Int32)), .val (.int (1 : Int32)), .val (.int (1 : Int32))] [(.long (q1 &&& (9223372036854775807 : Int64))), (.long (0 : Int64)), (.ref w_SELL)])) _
          refine st62.trans ?_
          show Steps p.tables e below (T62.setTop (mkF m 189 #[.val (.long q0), .second, .val (.long q1), .second, .val (.int p2), .val (.ref w_SELL), .val (.ref w_BUY), .val (.int (1 : Int32)), .val (.int (1 : Int32)), .val (.int (1 : Int32)), .val (.int (1 : Int32)), .val (.int (1 : Int32))] [(.int (1 : Int32))])) _
          refine XS.ifNo X62.here hx rfl (hb hby at_189) rfl ((if0 _ _).trans (feq (by decide : ¬ ((1 : Int32) = (0 : Int32)))).1) ?_
          show Steps p.tables e below (T62.setTop (mkF m 192 #[.val (.long q0), .second, .val (.long q1), .second, .val (.int p2), .val (.ref w_SELL), .val (.ref w_BUY), .val (.int (1 : Int32)), .val (.int (1 : Int32)), .val (.int (1 : Int32)), .val (.int (1 : Int32)), .val (.int (1 : Int32))] [])) _
          refine XS.iconst X62.here hx rfl (hb hby at_192) ?_
          show Steps p.tables e below (T62.setTop (mkF m 193 #[.val (.long q0), .second, .val (.long q1), .second, .val (.int p2), .val (.ref w_SELL), .val (.ref w_BUY), .val (.int (1 : Int32)), .val (.int (1 : Int32)), .val (.int (1 : Int32)), .val (.int (1 : Int32)), .val (.int (1 : Int32))] [(.int (1 : Int32))])) _
          refine XS.goto X62.here hx rfl (pc0 := 193) (pc' := 197) rfl (hb hby at_193) (by decide) (by decide) ?_
          show Steps p.tables e below (T62.setTop (mkF m 197 #[.val (.long q0), .second, .val (.long q1), .second, .val (.int p2), .val (.ref w_SELL), .val (.ref w_BUY), .val (.int (1 : Int32)), .val (.int (1 : Int32)), .val (.int (1 : Int32)), .val (.int (1 : Int32)), .val (.int (1 : Int32))] [(.int (1 : Int32))])) _
          refine XS.istore X62.here hx rfl (hb hby at_197) rfl (l' := #[.val (.long q0), .second, .val (.long q1), .second, .val (.int p2), .val (.ref w_SELL), .val (.ref w_BUY), .val (.int (1 : Int32)), .val (.int (1 : Int32)), .val (.int (1 : Int32)), .val (.int (1 : Int32)), .val (.int (1 : Int32))]) rfl ?_
          show Steps p.tables e below (T62.setTop (mkF m 199 #[.val (.long q0), .second, .val (.long q1), .second, .val (.int p2), .val (.ref w_SELL), .val (.ref w_BUY), .val (.int (1 : Int32)), .val (.int (1 : Int32)), .val (.int (1 : Int32)), .val (.int (1 : Int32)), .val (.int (1 : Int32))] [])) _
          refine XS.iload X62.here hx rfl (hb hby at_199) rfl ?_
          show Steps p.tables e below (T62.setTop (mkF m 201 #[.val (.long q0), .second, .val (.long q1), .second, .val (.int p2), .val (.ref w_SELL), .val (.ref w_BUY), .val (.int (1 : Int32)), .val (.int (1 : Int32)), .val (.int (1 : Int32)), .val (.int (1 : Int32)), .val (.int (1 : Int32))] [(.int (1 : Int32))])) _
          exact retN X62 hx (t := .boolean) Bd.returns (by simp) (hb hby at_201) hr
        · show Qp (some (.int (1 : Int32))) h0 n0 _ T62.heap _
          rw [e62]
          exact ⟨rfl, N62, rfl⟩
    ·
      have pre63 : ∀ t, Steps p.tables e below (s₁.setTop (mkF m 4 #[.val (.long q0), .second, .val (.long q1), .second, .val (.int p2), .unset, .unset, .unset, .unset, .unset, .unset, .unset] [(.int (p2 &&& (1 : Int32)))])) t → Steps p.tables e below (s₁.setTop (entryFrame m #[(.long q0), (.long q1), (.int p2)] maxLocals)) t := by
        intro t k
        refine pre0 _ ?_
        show Steps p.tables e below (s₁.setTop (mkF m 0 #[.val (.long q0), .second, .val (.long q1), .second, .val (.int p2), .unset, .unset, .unset, .unset, .unset, .unset, .unset] [])) _
        refine XS.iload X0.here hx rfl (hb hby at_0) rfl ?_
        show Steps p.tables e below (s₁.setTop (mkF m 2 #[.val (.long q0), .second, .val (.long q1), .second, .val (.int p2), .unset, .unset, .unset, .unset, .unset, .unset, .unset] [(.int p2)])) _
        refine XS.iconst X0.here hx rfl (hb hby at_2) ?_
        show Steps p.tables e below (s₁.setTop (mkF m 3 #[.val (.long q0), .second, .val (.long q1), .second, .val (.int p2), .unset, .unset, .unset, .unset, .unset, .unset, .unset] [(.int (1 : Int32)), (.int p2)])) _
        refine XS.iand X0.here hx rfl (hb hby at_3) rfl ?_
        exact k
      by_cases hc64 : (p2 &&& (1 : Int32)) = (0 : Int32)
      ·
        obtain ⟨T65, X65, e65, st65⟩ := getS2 X0 hx hZ hown (host := "") (Or.inl (hw _ (List.mem_of_getElem? (i := 0) rfl))) Via.refl e0 S_BUY (g := (mkF m 13 #[.val (.long q0), .second, .val (.long q1), .second, .val (.int p2), .unset, .unset, .unset, .unset, .unset, .unset, .unset] [])) rfl (hb hby at_13)
        have hr66 : w_SELL = v1 w_BUY w_BUY w_SELL := by unfold v1; rw [if_pos rfl]
        obtain ⟨cq66, kq66, q66a, q66b, q66c⟩ := isOf hZ e65 (show Exa Z h0 w_BUY "com/example/orderwarden/orderwarden/Side" from E_BUY)
        obtain ⟨_, _, ⟨T66, L66, k66, n66⟩, -, X66, ⟨Lc66, hQ66, l66, y66, z66⟩, st66⟩ := X65.virtualBack hx (y := (⟨"com/example/orderwarden/orderwarden/Side", "opposite", "()Lcom/example/orderwarden/orderwarden/Side;"⟩ : MethodName)) (z := (⟨"com/example/orderwarden/orderwarden/Side", "opposite", "()Lcom/example/orderwarden/orderwarden/Side;"⟩ : MethodName)) hown (mvT hZ (hw _ (List.mem_of_getElem? (i := 3) rfl))) (mvT hZ (hw _ (List.mem_of_getElem? (i := 4) rfl))) (notFace_of_selects (args := #[]) (mvT hZ (hw _ (List.mem_of_getElem? (i := 6) rfl)))) (mvT hZ (hw _ (List.mem_of_getElem? (i := 6) rfl))) (mvT hZ (hw _ (List.mem_of_getElem? (i := 5) rfl))) (by decide) (backOf (W := 0) (rm1 l Z ar0 hw [] w_BUY w_BUY w_SELL h0 n0 Z0 F  w_SELL hr66) hZ (hw _ (List.mem_of_getElem? (i := 7) rfl)) (hw _ (List.mem_of_getElem? (i := 1) rfl)) (by decide) (by decide)) q66a q66c (g := (mkF m 20 #[.val (.long q0), .second, .val (.long q1), .second, .val (.int p2), .val (.ref w_BUY), .unset, .unset, .unset, .unset, .unset, .unset] [(.ref w_BUY)])) rfl (by rw [hml]; rfl) (Steps.refl _) (argsL := []) (rest := []) (lenOf pd_0_20 rfl) rfl (by show 2 * 0 + _ ≤ _; exact Nat.le_of_eq rfl) (hb hby at_20) (fun _ _ => ⟨rfl, e65, (by decide : 0 + 0 ≤ _), (by decide : 0 + 0 ≤ _)⟩)
        dsimp only [Pt.U, Pt.locs, Pt.cells, Pt.slots] at X66 l66 y66 z66 st66 hQ66
        subst l66 y66 z66
        obtain ⟨rfl, N66q, e66⟩ := hQ66
        have N66 := Fr.app N0 N66q
        have hr67 : (0 : Int32) = v2 w_BUY q0 q1 w_BUY w_SELL := own_buy0 (own_gt hs1 hs32)
        obtain ⟨cq67, kq67, q67a, q67b, q67c⟩ := isOf hZ e66 (show Exa Z h0 w_BUY "com/example/orderwarden/orderwarden/Side" from E_BUY)
        obtain ⟨_, _, ⟨T67, L67, k67, n67⟩, -, X67, ⟨Lc67, hQ67, l67, y67, z67⟩, st67⟩ := X66.virtualBack hx (y := (⟨"com/example/orderwarden/orderwarden/Side", "accepts", "(JJ)Z"⟩ : MethodName)) (z := (⟨"com/example/orderwarden/orderwarden/Side", "accepts", "(JJ)Z"⟩ : MethodName)) hown (mvT hZ (hw _ (List.mem_of_getElem? (i := 11) rfl))) (mvT hZ (hw _ (List.mem_of_getElem? (i := 12) rfl))) (notFace_of_selects (args := #[]) (mvT hZ (hw _ (List.mem_of_getElem? (i := 14) rfl)))) (mvT hZ (hw _ (List.mem_of_getElem? (i := 14) rfl))) (mvT hZ (hw _ (List.mem_of_getElem? (i := 13) rfl))) (by decide) (backOf (W := 0) (rm2 l Z ar0 hw [] w_BUY q0 q1 w_BUY w_SELL h0 n0 Z0 F  (0 : Int32) hr67) hZ (hw _ (List.mem_of_getElem? (i := 15) rfl)) (hw _ (List.mem_of_getElem? (i := 1) rfl)) (by decide) (by decide)) q67a q67c (g := (mkF m 29 #[.val (.long q0), .second, .val (.long q1), .second, .val (.int p2), .val (.ref w_BUY), .val (.ref w_SELL), .unset, .unset, .unset, .unset, .unset] [(.long q1), (.long q0), (.ref w_BUY)])) rfl (by rw [hml]; rfl) (Steps.refl _) (argsL := [(.long q0), (.long q1)]) (rest := []) (lenOf pd_0_29 rfl) rfl (by show 2 * 0 + _ ≤ _; exact Nat.le_of_eq rfl) (hb hby at_29) (fun _ _ => ⟨rfl, e66, (by decide : 0 + 0 ≤ _), (by decide : 0 + 0 ≤ _)⟩)
        dsimp only [Pt.U, Pt.locs, Pt.cells, Pt.slots] at X67 l67 y67 z67 st67 hQ67
        subst l67 y67 z67
        obtain ⟨rfl, N67q, e67⟩ := hQ67
        have N67 := Fr.app N66 N67q
        have hr68 : (1 : Int32) = v2 w_SELL q0 q1 w_BUY w_SELL := own_sell ne_SELL_BUY (own_le (own_gt hs1 hs32))
        obtain ⟨cq68, kq68, q68a, q68b, q68c⟩ := isOf hZ e67 (show Exa Z h0 w_SELL "com/example/orderwarden/orderwarden/Side" from E_SELL)
        obtain ⟨_, _, ⟨T68, L68, k68, n68⟩, -, X68, ⟨Lc68, hQ68, l68, y68, z68⟩, st68⟩ := X67.virtualBack hx (y := (⟨"com/example/orderwarden/orderwarden/Side", "accepts", "(JJ)Z"⟩ : MethodName)) (z := (⟨"com/example/orderwarden/orderwarden/Side", "accepts", "(JJ)Z"⟩ : MethodName)) hown (mvT hZ (hw _ (List.mem_of_getElem? (i := 11) rfl))) (mvT hZ (hw _ (List.mem_of_getElem? (i := 12) rfl))) (notFace_of_selects (args := #[]) (mvT hZ (hw _ (List.mem_of_getElem? (i := 14) rfl)))) (mvT hZ (hw _ (List.mem_of_getElem? (i := 14) rfl))) (mvT hZ (hw _ (List.mem_of_getElem? (i := 13) rfl))) (by decide) (backOf (W := 0) (rm2 l Z ar0 hw [] w_SELL q0 q1 w_BUY w_SELL h0 n0 Z0 F  (1 : Int32) hr68) hZ (hw _ (List.mem_of_getElem? (i := 15) rfl)) (hw _ (List.mem_of_getElem? (i := 1) rfl)) (by decide) (by decide)) q68a q68c (g := (mkF m 38 #[.val (.long q0), .second, .val (.long q1), .second, .val (.int p2), .val (.ref w_BUY), .val (.ref w_SELL), .val (.int (0 : Int32)), .unset, .unset, .unset, .unset] [(.long q1), (.long q0), (.ref w_SELL)])) rfl (by rw [hml]; rfl) (Steps.refl _) (argsL := [(.long q0), (.long q1)]) (rest := []) (lenOf pd_0_38 rfl) rfl (by show 2 * 0 + _ ≤ _; exact Nat.le_of_eq rfl) (hb hby at_38) (fun _ _ => ⟨rfl, e67, (by decide : 0 + 0 ≤ _), (by decide : 0 + 0 ≤ _)⟩)
        dsimp only [Pt.U, Pt.locs, Pt.cells, Pt.slots] at X68 l68 y68 z68 st68 hQ68
        subst l68 y68 z68
        obtain ⟨rfl, N68q, e68⟩ := hQ68
        have N68 := Fr.app N67 N68q
        have hk69 : ¬ ((lcmpW q1 q0) = (0 : Int32)) := by rw [lcW, lc_eq]; exact fun q => own_ne (own_gt hs1 hs32) q.symm
        obtain ⟨T70, X70, e70, st70⟩ := getS2 X68 hx hZ hown (host := "") (Or.inl (hw _ (List.mem_of_getElem? (i := 0) rfl))) Via.refl e68 S_BUY (g := (mkF m 101 #[.val (.long q0), .second, .val (.long q1), .second, .val (.int p2), .val (.ref w_BUY), .val (.ref w_SELL), .val (.int (0 : Int32)), .val (.int (1 : Int32)), .val (.int (1 : Int32)), .unset, .unset] [])) rfl (hb hby at_101)
        have hr71 : (0 : Int32) = v2 w_BUY q0 q1 w_BUY w_SELL := own_buy0 (own_gt hs1 hs32)
        obtain ⟨cq71, kq71, q71a, q71b, q71c⟩ := isOf hZ e70 (show Exa Z h0 w_BUY "com/example/orderwarden/orderwarden/Side" from E_BUY)
        obtain ⟨_, _, ⟨T71, L71, k71, n71⟩, -, X71, ⟨Lc71, hQ71, l71, y71, z71⟩, st71⟩ := X70.virtualBack hx (y := (⟨"com/example/orderwarden/orderwarden/Side", "accepts", "(JJ)Z"⟩ : MethodName)) (z := (⟨"com/example/orderwarden/orderwarden/Side", "accepts", "(JJ)Z"⟩ : MethodName)) hown (mvT hZ (hw _ (List.mem_of_getElem? (i := 11) rfl))) (mvT hZ (hw _ (List.mem_of_getElem? (i := 12) rfl))) (notFace_of_selects (args := #[]) (mvT hZ (hw _ (List.mem_of_getElem? (i := 14) rfl)))) (mvT hZ (hw _ (List.mem_of_getElem? (i := 14) rfl))) (mvT hZ (hw _ (List.mem_of_getElem? (i := 13) rfl))) (by decide) (backOf (W := 0) (rm2 l Z ar0 hw [] w_BUY q0 q1 w_BUY w_SELL h0 n0 Z0 F  (0 : Int32) hr71) hZ (hw _ (List.mem_of_getElem? (i := 15) rfl)) (hw _ (List.mem_of_getElem? (i := 1) rfl)) (by decide) (by decide)) q71a q71c (g := (mkF m 106 #[.val (.long q0), .second, .val (.long q1), .second, .val (.int p2), .val (.ref w_BUY), .val (.ref w_SELL), .val (.int (0 : Int32)), .val (.int (1 : Int32)), .val (.int (1 : Int32)), .unset, .unset] [(.long q1), (.long q0), (.ref w_BUY)])) rfl (by rw [hml]; rfl) (Steps.refl _) (argsL := [(.long q0), (.long q1)]) (rest := []) (lenOf pd_0_106 rfl) rfl (by show 2 * 0 + _ ≤ _; exact Nat.le_of_eq rfl) (hb hby at_106) (fun _ _ => ⟨rfl, e70, (by decide : 0 + 0 ≤ _), (by decide : 0 + 0 ≤ _)⟩)
        dsimp only [Pt.U, Pt.locs, Pt.cells, Pt.slots] at X71 l71 y71 z71 st71 hQ71
        subst l71 y71 z71
        obtain ⟨rfl, N71q, e71⟩ := hQ71
        have N71 := Fr.app N68 N71q
        obtain ⟨T72, X72, e72, st72⟩ := getS2 X71 hx hZ hown (host := "") (Or.inl (hw _ (List.mem_of_getElem? (i := 16) rfl))) Via.refl e71 S_SELL (g := (mkF m 111 #[.val (.long q0), .second, .val (.long q1), .second, .val (.int p2), .val (.ref w_BUY), .val (.ref w_SELL), .val (.int (0 : Int32)), .val (.int (1 : Int32)), .val (.int (1 : Int32)), .val (.int (0 : Int32)), .unset] [])) rfl (hb hby at_111)
        have hr73 : (1 : Int32) = v2 w_SELL q0 q1 w_BUY w_SELL := own_sell ne_SELL_BUY (own_le (own_gt hs1 hs32))
        obtain ⟨cq73, kq73, q73a, q73b, q73c⟩ := isOf hZ e72 (show Exa Z h0 w_SELL "com/example/orderwarden/orderwarden/Side" from E_SELL)
        obtain ⟨_, _, ⟨T73, L73, k73, n73⟩, -, X73, ⟨Lc73, hQ73, l73, y73, z73⟩, st73⟩ := X72.virtualBack hx (y := (⟨"com/example/orderwarden/orderwarden/Side", "accepts", "(JJ)Z"⟩ : MethodName)) (z := (⟨"com/example/orderwarden/orderwarden/Side", "accepts", "(JJ)Z"⟩ : MethodName)) hown (mvT hZ (hw _ (List.mem_of_getElem? (i := 11) rfl))) (mvT hZ (hw _ (List.mem_of_getElem? (i := 12) rfl))) (notFace_of_selects (args := #[]) (mvT hZ (hw _ (List.mem_of_getElem? (i := 14) rfl)))) (mvT hZ (hw _ (List.mem_of_getElem? (i := 14) rfl))) (mvT hZ (hw _ (List.mem_of_getElem? (i := 13) rfl))) (by decide) (backOf (W := 0) (rm2 l Z ar0 hw [] w_SELL q0 q1 w_BUY w_SELL h0 n0 Z0 F  (1 : Int32) hr73) hZ (hw _ (List.mem_of_getElem? (i := 15) rfl)) (hw _ (List.mem_of_getElem? (i := 1) rfl)) (by decide) (by decide)) q73a q73c (g := (mkF m 116 #[.val (.long q0), .second, .val (.long q1), .second, .val (.int p2), .val (.ref w_BUY), .val (.ref w_SELL), .val (.int (0 : Int32)), .val (.int (1 : Int32)), .val (.int (1 : Int32)), .val (.int (0 : Int32)), .unset] [(.long q1), (.long q0), (.ref w_SELL)])) rfl (by rw [hml]; rfl) (Steps.refl _) (argsL := [(.long q0), (.long q1)]) (rest := []) (lenOf pd_0_116 rfl) rfl (by show 2 * 0 + _ ≤ _; exact Nat.le_of_eq rfl) (hb hby at_116) (fun _ _ => ⟨rfl, e72, (by decide : 0 + 0 ≤ _), (by decide : 0 + 0 ≤ _)⟩)
        dsimp only [Pt.U, Pt.locs, Pt.cells, Pt.slots] at X73 l73 y73 z73 st73 hQ73
        subst l73 y73 z73
        obtain ⟨rfl, N73q, e73⟩ := hQ73
        have N73 := Fr.app N71 N73q
        obtain ⟨T74, X74, e74, st74⟩ := getS2 X73 hx hZ hown (host := "") (Or.inl (hw _ (List.mem_of_getElem? (i := 0) rfl))) Via.refl e73 S_BUY (g := (mkF m 128 #[.val (.long q0), .second, .val (.long q1), .second, .val (.int p2), .val (.ref w_BUY), .val (.ref w_SELL), .val (.int (0 : Int32)), .val (.int (1 : Int32)), .val (.int (1 : Int32)), .val (.int (0 : Int32)), .val (.int (1 : Int32))] [(.int (1 : Int32))])) rfl (hb hby at_128)
        have hr75 : (1 : Int32) = v2 w_BUY q1 q0 w_BUY w_SELL := own_buy (own_le (own_gt hs1 hs32))
        obtain ⟨cq75, kq75, q75a, q75b, q75c⟩ := isOf hZ e74 (show Exa Z h0 w_BUY "com/example/orderwarden/orderwarden/Side" from E_BUY)
        obtain ⟨_, _, ⟨T75, L75, k75, n75⟩, -, X75, ⟨Lc75, hQ75, l75, y75, z75⟩, st75⟩ := X74.virtualBack hx (y := (⟨"com/example/orderwarden/orderwarden/Side", "accepts", "(JJ)Z"⟩ : MethodName)) (z := (⟨"com/example/orderwarden/orderwarden/Side", "accepts", "(JJ)Z"⟩ : MethodName)) hown (mvT hZ (hw _ (List.mem_of_getElem? (i := 11) rfl))) (mvT hZ (hw _ (List.mem_of_getElem? (i := 12) rfl))) (notFace_of_selects (args := #[]) (mvT hZ (hw _ (List.mem_of_getElem? (i := 14) rfl)))) (mvT hZ (hw _ (List.mem_of_getElem? (i := 14) rfl))) (mvT hZ (hw _ (List.mem_of_getElem? (i := 13) rfl))) (by decide) (backOf (W := 1) (rm2 l Z ar0 hw [] w_BUY q1 q0 w_BUY w_SELL h0 n0 Z0 F  (1 : Int32) hr75) hZ (hw _ (List.mem_of_getElem? (i := 15) rfl)) (hw _ (List.mem_of_getElem? (i := 1) rfl)) (by decide) (by decide)) q75a q75c (g := (mkF m 133 #[.val (.long q0), .second, .val (.long q1), .second, .val (.int p2), .val (.ref w_BUY), .val (.ref w_SELL), .val (.int (0 : Int32)), .val (.int (1 : Int32)), .val (.int (1 : Int32)), .val (.int (0 : Int32)), .val (.int (1 : Int32))] [(.long q0), (.long q1), (.ref w_BUY), (.int (1 : Int32))])) rfl (by rw [hml]; rfl) (Steps.refl _) (argsL := [(.long q1), (.long q0)]) (rest := [(.int (1 : Int32))]) (lenOf pd_0_133 rfl) rfl (by show 2 * 0 + _ ≤ _; exact Nat.le_of_eq rfl) (hb hby at_133) (fun _ _ => ⟨rfl, e74, (by decide : 0 + 0 ≤ _), (by decide : 0 + 0 ≤ _)⟩)
        dsimp only [Pt.U, Pt.locs, Pt.cells, Pt.slots] at X75 l75 y75 z75 st75 hQ75
        subst l75 y75 z75
        obtain ⟨rfl, N75q, e75⟩ := hQ75
        have N75 := Fr.app N73 N75q
        have hk76 : ¬ ((lcmpW q1 q0) < (0 : Int32)) := by rw [lcW, lc_lt]; exact fun q => own_irr _ (Int64.lt_trans q (own_gt hs1 hs32))
        have hr77 : (9223372036854775807 : Int64) = v3 w_BUY w_BUY w_SELL := by unfold v3; rw [if_pos rfl]
        obtain ⟨cq77, kq77, q77a, q77b, q77c⟩ := isOf hZ e75 (show Exa Z h0 w_BUY "com/example/orderwarden/orderwarden/Side" from E_BUY)
        obtain ⟨_, _, ⟨T77, L77, k77, n77⟩, -, X77, ⟨Lc77, hQ77, l77, y77, z77⟩, st77⟩ := X75.virtualBack hx (y := (⟨"com/example/orderwarden/orderwarden/Side", "loosestLimit", "()J"⟩ : MethodName)) (z := (⟨"com/example/orderwarden/orderwarden/Side", "loosestLimit", "()J"⟩ : MethodName)) hown (mvT hZ (hw _ (List.mem_of_getElem? (i := 17) rfl))) (mvT hZ (hw _ (List.mem_of_getElem? (i := 18) rfl))) (notFace_of_selects (args := #[]) (mvT hZ (hw _ (List.mem_of_getElem? (i := 20) rfl)))) (mvT hZ (hw _ (List.mem_of_getElem? (i := 20) rfl))) (mvT hZ (hw _ (List.mem_of_getElem? (i := 19) rfl))) (by decide) (backOf (W := 1) (rm3 l Z ar0 hw [] w_BUY w_BUY w_SELL h0 n0 Z0 F  (9223372036854775807 : Int64) hr77) hZ (hw _ (List.mem_of_getElem? (i := 21) rfl)) (hw _ (List.mem_of_getElem? (i := 1) rfl)) (by decide) (by decide)) q77a q77c (g := (mkF m 178 #[.val (.long q0), .second, .val (.long q1), .second, .val (.int p2), .val (.ref w_BUY), .val (.ref w_SELL), .val (.int (0 : Int32)), .val (.int (1 : Int32)), .val (.int (1 : Int32)), .val (.int (0 : Int32)), .val (.int (1 : Int32))] [(.ref w_BUY), (.ref w_BUY)])) rfl (by rw [hml]; rfl) (Steps.refl _) (argsL := []) (rest := [(.ref w_BUY)]) (lenOf pd_0_178 rfl) rfl (by show 2 * 0 + _ ≤ _; exact Nat.le_of_eq rfl) (hb hby at_178) (fun _ _ => ⟨rfl, e75, (by decide : 0 + 0 ≤ _), (by decide : 0 + 0 ≤ _)⟩)
        dsimp only [Pt.U, Pt.locs, Pt.cells, Pt.slots] at X77 l77 y77 z77 st77 hQ77
        subst l77 y77 z77
        obtain ⟨rfl, N77q, e77⟩ := hQ77
        have N77 := Fr.app N75 N77q
        have hr78 : (1 : Int32) = v2 w_BUY (9223372036854775807 : Int64) (q1 &&& (9223372036854775807 : Int64)) w_BUY w_SELL := own_buy (own_and _).2
        obtain ⟨cq78, kq78, q78a, q78b, q78c⟩ := isOf hZ e77 (show Exa Z h0 w_BUY "com/example/orderwarden/orderwarden/Side" from E_BUY)
        obtain ⟨_, _, ⟨T78, L78, k78, n78⟩, -, X78, ⟨Lc78, hQ78, l78, y78, z78⟩, st78⟩ := X77.virtualBack hx (y := (⟨"com/example/orderwarden/orderwarden/Side", "accepts", "(JJ)Z"⟩ : MethodName)) (z := (⟨"com/example/orderwarden/orderwarden/Side", "accepts", "(JJ)Z"⟩ : MethodName)) hown (mvT hZ (hw _ (List.mem_of_getElem? (i := 11) rfl))) (mvT hZ (hw _ (List.mem_of_getElem? (i := 12) rfl))) (notFace_of_selects (args := #[]) (mvT hZ (hw _ (List.mem_of_getElem? (i := 14) rfl)))) (mvT hZ (hw _ (List.mem_of_getElem? (i := 14) rfl))) (mvT hZ (hw _ (List.mem_of_getElem? (i := 13) rfl))) (by decide) (backOf (W := 0) (rm2 l Z ar0 hw [] w_BUY (9223372036854775807 : Int64) (q1 &&& (9223372036854775807 : Int64)) w_BUY w_SELL h0 n0 Z0 F  (1 : Int32) hr78) hZ (hw _ (List.mem_of_getElem? (i := 15) rfl)) (hw _ (List.mem_of_getElem? (i := 1) rfl)) (by decide) (by decide)) q78a q78c (g := (mkF m 186 #[.val (.long q0), .second, .val (.long q1), .second, .val (.int p2), .val (.ref w_BUY), .val (.ref w_SELL), .val (.int (0 : Int32)), .val (.int (1 : Int32)), .val (.int (1 : Int32)), .val (.int (0 : Int32)), .val (.int (1 : Int32))] [(.long (q1 &&& (9223372036854775807 : Int64))), (.long (9223372036854775807 : Int64)), (.ref w_BUY)])) rfl (by rw [hml]; rfl) (Steps.refl _) (argsL := [(.long (9223372036854775807 : Int64)), (.long (q1 &&& (9223372036854775807 : Int64)))]) (rest := []) (lenOf pd_0_186 rfl) rfl (by show 2 * 0 + _ ≤ _; exact Nat.le_of_eq rfl) (hb hby at_186) (fun _ _ => ⟨rfl, e77, (by decide : 0 + 0 ≤ _), (by decide : 0 + 0 ≤ _)⟩)
        dsimp only [Pt.U, Pt.locs, Pt.cells, Pt.slots] at X78 l78 y78 z78 st78 hQ78
        subst l78 y78 z78
        obtain ⟨rfl, N78q, e78⟩ := hQ78
        have N78 := Fr.app N77 N78q
        obtain ⟨fs, hr, hrun, hended, hW, hsame⟩ := X78.leave (v := some (.int (1 : Int32))) (fun h => by rw [Bd.returns] at h; cases h)
        refine ⟨_, _, pre63 _ ?_, hrun, hended, _, _, rfl, ?_, ⟨_, rfl⟩, hW, hsame.mono (by decide) (by decide)⟩
        · show Steps p.tables e below (s₁.setTop (mkF m 4 #[.val (.long q0), .second, .val (.long q1), .second, .val (.int p2), .unset, .unset, .unset, .unset, .unset, .unset, .unset] [(.int (p2 &&& (1 : Int32)))])) _
          refine XS.ifYes X0.here hx rfl (pc0 := 4) (pc' := 13) rfl (hb hby at_4) rfl ((if0 _ _).trans (teq hc64).1) (by decide) (by decide) ?_
          show Steps p.tables e below (s₁.setTop (mkF m 13 #[.val (.long q0), .second, .val (.long q1), .second, .val (.int p2), .unset, .unset, .unset, .unset, .unset, .unset, .unset] [])) _
          refine st65 _ ?_
          show Steps p.tables e below (T65.setTop (mkF m 16 #[.val (.long q0), .second, .val (.long q1), .second, .val (.int p2), .unset, .unset, .unset, .unset, .unset, .unset, .unset] [(.ref w_BUY)])) _
          refine XS.astore X65.here hx rfl (hb hby at_16) rfl rfl (l' := #[.val (.long q0), .second, .val (.long q1), .second, .val (.int p2), .val (.ref w_BUY), .unset, .unset, .unset, .unset, .unset, .unset]) rfl ?_
          show Steps p.tables e below (T65.setTop (mkF m 18 #[.val (.long q0), .second, .val (.long q1), .second, .val (.int p2), .val (.ref w_BUY), .unset, .unset, .unset, .unset, .unset, .unset] [])) _
          refine XS.aload X65.here hx rfl (hb hby at_18) rfl rfl ?_
          show Steps p.tables e below (T65.setTop (mkF m 20 #[.val (.long q0), .second, .val (.long q1), .second, .val (.int p2), .val (.ref w_BUY), .unset, .unset, .unset, .unset, .unset, .unset] [(.ref w_BUY)])) _
          refine st66.trans ?_
          show Steps p.tables e below (T66.setTop (mkF m 23 #[.val (.long q0), .second, .val (.long q1), .second, .val (.int p2), .val (.ref w_BUY), .unset, .unset, .unset, .unset, .unset, .unset] [(.ref w_SELL)])) _
          refine XS.astore X66.here hx rfl (hb hby at_23) rfl rfl (l' := #[.val (.long q0), .second, .val (.long q1), .second, .val (.int p2), .val (.ref w_BUY), .val (.ref w_SELL), .unset, .unset, .unset, .unset, .unset]) rfl ?_
          show Steps p.tables e below (T66.setTop (mkF m 25 #[.val (.long q0), .second, .val (.long q1), .second, .val (.int p2), .val (.ref w_BUY), .val (.ref w_SELL), .unset, .unset, .unset, .unset, .unset] [])) _
          refine XS.aload X66.here hx rfl (hb hby at_25) rfl rfl ?_
          show Steps p.tables e below (T66.setTop (mkF m 27 #[.val (.long q0), .second, .val (.long q1), .second, .val (.int p2), .val (.ref w_BUY), .val (.ref w_SELL), .unset, .unset, .unset, .unset, .unset] [(.ref w_BUY)])) _
          refine XS.lloadN X66.here hx rfl (hb hby at_27) rfl ?_
          show Steps p.tables e below (T66.setTop (mkF m 28 #[.val (.long q0), .second, .val (.long q1), .second, .val (.int p2), .val (.ref w_BUY), .val (.ref w_SELL), .unset, .unset, .unset, .unset, .unset] [(.long q0), (.ref w_BUY)])) _
          refine XS.lloadN X66.here hx rfl (hb hby at_28) rfl ?_
          show Steps p.tables e below (T66.setTop (mkF m 29 #[.val (.long q0), .second, .val (.long q1), .second, .val (.int p2), .val (.ref w_BUY), .val (.ref w_SELL), .unset, .unset, .unset, .unset, .unset] [(.long q1), (.long q0), (.ref w_BUY)])) _
          refine st67.trans ?_
          show Steps p.tables e below (T67.setTop (mkF m 32 #[.val (.long q0), .second, .val (.long q1), .second, .val (.int p2), .val (.ref w_BUY), .val (.ref w_SELL), .unset, .unset, .unset, .unset, .unset] [(.int (0 : Int32))])) _
          refine XS.istore X67.here hx rfl (hb hby at_32) rfl (l' := #[.val (.long q0), .second, .val (.long q1), .second, .val (.int p2), .val (.ref w_BUY), .val (.ref w_SELL), .val (.int (0 : Int32)), .unset, .unset, .unset, .unset]) rfl ?_
          show Steps p.tables e below (T67.setTop (mkF m 34 #[.val (.long q0), .second, .val (.long q1), .second, .val (.int p2), .val (.ref w_BUY), .val (.ref w_SELL), .val (.int (0 : Int32)), .unset, .unset, .unset, .unset] [])) _
          refine XS.aload X67.here hx rfl (hb hby at_34) rfl rfl ?_
          show Steps p.tables e below (T67.setTop (mkF m 36 #[.val (.long q0), .second, .val (.long q1), .second, .val (.int p2), .val (.ref w_BUY), .val (.ref w_SELL), .val (.int (0 : Int32)), .unset, .unset, .unset, .unset] [(.ref w_SELL)])) _
          refine XS.lloadN X67.here hx rfl (hb hby at_36) rfl ?_
          show Steps p.tables e below (T67.setTop (mkF m 37 #[.val (.long q0), .second, .val (.long q1), .second, .val (.int p2), .val (.ref w_BUY), .val (.ref w_SELL), .val (.int (0 : Int32)), .unset, .unset, .unset, .unset] [(.long q0), (.ref w_SELL)])) _
          refine XS.lloadN X67.here hx rfl (hb hby at_37) rfl ?_
          show Steps p.tables e below (T67.setTop (mkF m 38 #[.val (.long q0), .second, .val (.long q1), .second, .val (.int p2), .val (.ref w_BUY), .val (.ref w_SELL), .val (.int (0 : Int32)), .unset, .unset, .unset, .unset] [(.long q1), (.long q0), (.ref w_SELL)])) _
          refine st68.trans ?_
          show Steps p.tables e below (T68.setTop (mkF m 41 #[.val (.long q0), .second, .val (.long q1), .second, .val (.int p2), .val (.ref w_BUY), .val (.ref w_SELL), .val (.int (0 : Int32)), .unset, .unset, .unset, .unset] [(.int (1 : Int32))])) _
          refine XS.istore X68.here hx rfl (hb hby at_41) rfl (l' := #[.val (.long q0), .second, .val (.long q1), .second, .val (.int p2), .val (.ref w_BUY), .val (.ref w_SELL), .val (.int (0 : Int32)), .val (.int (1 : Int32)), .unset, .unset, .unset]) rfl ?_
          show Steps p.tables e below (T68.setTop (mkF m 43 #[.val (.long q0), .second, .val (.long q1), .second, .val (.int p2), .val (.ref w_BUY), .val (.ref w_SELL), .val (.int (0 : Int32)), .val (.int (1 : Int32)), .unset, .unset, .unset] [])) _
          refine XS.iload X68.here hx rfl (hb hby at_43) rfl ?_
          show Steps p.tables e below (T68.setTop (mkF m 45 #[.val (.long q0), .second, .val (.long q1), .second, .val (.int p2), .val (.ref w_BUY), .val (.ref w_SELL), .val (.int (0 : Int32)), .val (.int (1 : Int32)), .unset, .unset, .unset] [(.int (0 : Int32))])) _
          refine XS.ifNo X68.here hx rfl (hb hby at_45) rfl ((if0 _ _).trans (teq (by decide : (0 : Int32) = (0 : Int32))).2) ?_
          show Steps p.tables e below (T68.setTop (mkF m 48 #[.val (.long q0), .second, .val (.long q1), .second, .val (.int p2), .val (.ref w_BUY), .val (.ref w_SELL), .val (.int (0 : Int32)), .val (.int (1 : Int32)), .unset, .unset, .unset] [])) _
          refine XS.iload X68.here hx rfl (hb hby at_48) rfl ?_
          show Steps p.tables e below (T68.setTop (mkF m 50 #[.val (.long q0), .second, .val (.long q1), .second, .val (.int p2), .val (.ref w_BUY), .val (.ref w_SELL), .val (.int (0 : Int32)), .val (.int (1 : Int32)), .unset, .unset, .unset] [(.int (1 : Int32))])) _
          refine XS.ifNo X68.here hx rfl (hb hby at_50) rfl ((if0 _ _).trans (feq (by decide : ¬ ((1 : Int32) = (0 : Int32)))).1) ?_
          show Steps p.tables e below (T68.setTop (mkF m 53 #[.val (.long q0), .second, .val (.long q1), .second, .val (.int p2), .val (.ref w_BUY), .val (.ref w_SELL), .val (.int (0 : Int32)), .val (.int (1 : Int32)), .unset, .unset, .unset] [])) _
          refine XS.iconst X68.here hx rfl (hb hby at_53) ?_
          show Steps p.tables e below (T68.setTop (mkF m 54 #[.val (.long q0), .second, .val (.long q1), .second, .val (.int p2), .val (.ref w_BUY), .val (.ref w_SELL), .val (.int (0 : Int32)), .val (.int (1 : Int32)), .unset, .unset, .unset] [(.int (1 : Int32))])) _
          refine XS.goto X68.here hx rfl (pc0 := 54) (pc' := 58) rfl (hb hby at_54) (by decide) (by decide) ?_
          show Steps p.tables e below (T68.setTop (mkF m 58 #[.val (.long q0), .second, .val (.long q1), .second, .val (.int p2), .val (.ref w_BUY), .val (.ref w_SELL), .val (.int (0 : Int32)), .val (.int (1 : Int32)), .unset, .unset, .unset] [(.int (1 : Int32))])) _
          refine XS.istore X68.here hx rfl (hb hby at_58) rfl (l' := #[.val (.long q0), .second, .val (.long q1), .second, .val (.int p2), .val (.ref w_BUY), .val (.ref w_SELL), .val (.int (0 : Int32)), .val (.int (1 : Int32)), .val (.int (1 : Int32)), .unset, .unset]) rfl ?_
          show Steps p.tables e below (T68.setTop (mkF m 60 #[.val (.long q0), .second, .val (.long q1), .second, .val (.int p2), .val (.ref w_BUY), .val (.ref w_SELL), .val (.int (0 : Int32)), .val (.int (1 : Int32)), .val (.int (1 : Int32)), .unset, .unset] [])) _
          refine XS.iload X68.here hx rfl (hb hby at_60) rfl ?_
          show Steps p.tables e below (T68.setTop (mkF m 62 #[.val (.long q0), .second, .val (.long q1), .second, .val (.int p2), .val (.ref w_BUY), .val (.ref w_SELL), .val (.int (0 : Int32)), .val (.int (1 : Int32)), .val (.int (1 : Int32)), .unset, .unset] [(.int (1 : Int32))])) _
          refine XS.ifNo X68.here hx rfl (hb hby at_62) rfl ((if0 _ _).trans (feq (by decide : ¬ ((1 : Int32) = (0 : Int32)))).1) ?_
          show Steps p.tables e below (T68.setTop (mkF m 65 #[.val (.long q0), .second, .val (.long q1), .second, .val (.int p2), .val (.ref w_BUY), .val (.ref w_SELL), .val (.int (0 : Int32)), .val (.int (1 : Int32)), .val (.int (1 : Int32)), .unset, .unset] [])) _
          refine XS.iload X68.here hx rfl (hb hby at_65) rfl ?_
          show Steps p.tables e below (T68.setTop (mkF m 67 #[.val (.long q0), .second, .val (.long q1), .second, .val (.int p2), .val (.ref w_BUY), .val (.ref w_SELL), .val (.int (0 : Int32)), .val (.int (1 : Int32)), .val (.int (1 : Int32)), .unset, .unset] [(.int (0 : Int32))])) _
          refine XS.ifYes X68.here hx rfl (pc0 := 67) (pc' := 79) rfl (hb hby at_67) rfl ((if0 _ _).trans (teq (by decide : (0 : Int32) = (0 : Int32))).1) (by decide) (by decide) ?_
          show Steps p.tables e below (T68.setTop (mkF m 79 #[.val (.long q0), .second, .val (.long q1), .second, .val (.int p2), .val (.ref w_BUY), .val (.ref w_SELL), .val (.int (0 : Int32)), .val (.int (1 : Int32)), .val (.int (1 : Int32)), .unset, .unset] [])) _
          refine XS.iconst X68.here hx rfl (hb hby at_79) ?_
          show Steps p.tables e below (T68.setTop (mkF m 80 #[.val (.long q0), .second, .val (.long q1), .second, .val (.int p2), .val (.ref w_BUY), .val (.ref w_SELL), .val (.int (0 : Int32)), .val (.int (1 : Int32)), .val (.int (1 : Int32)), .unset, .unset] [(.int (0 : Int32))])) _
          refine XS.lloadN X68.here hx rfl (hb hby at_80) rfl ?_
          show Steps p.tables e below (T68.setTop (mkF m 81 #[.val (.long q0), .second, .val (.long q1), .second, .val (.int p2), .val (.ref w_BUY), .val (.ref w_SELL), .val (.int (0 : Int32)), .val (.int (1 : Int32)), .val (.int (1 : Int32)), .unset, .unset] [(.long q1), (.int (0 : Int32))])) _
          refine XS.lloadN X68.here hx rfl (hb hby at_81) rfl ?_
          show Steps p.tables e below (T68.setTop (mkF m 82 #[.val (.long q0), .second, .val (.long q1), .second, .val (.int p2), .val (.ref w_BUY), .val (.ref w_SELL), .val (.int (0 : Int32)), .val (.int (1 : Int32)), .val (.int (1 : Int32)), .unset, .unset] [(.long q0), (.long q1), (.int (0 : Int32))])) _
          refine XS.lcmp X68.here hx rfl (hb hby at_82) rfl ?_
          show Steps p.tables e below (T68.setTop (mkF m 83 #[.val (.long q0), .second, .val (.long q1), .second, .val (.int p2), .val (.ref w_BUY), .val (.ref w_SELL), .val (.int (0 : Int32)), .val (.int (1 : Int32)), .val (.int (1 : Int32)), .unset, .unset] [(.int (lcmpW q1 q0)), (.int (0 : Int32))])) _
          refine XS.ifYes X68.here hx rfl (pc0 := 83) (pc' := 90) rfl (hb hby at_83) rfl ((if0 _ _).trans (feq hk69).2) (by decide) (by decide) ?_
          show Steps p.tables e below (T68.setTop (mkF m 90 #[.val (.long q0), .second, .val (.long q1), .second, .val (.int p2), .val (.ref w_BUY), .val (.ref w_SELL), .val (.int (0 : Int32)), .val (.int (1 : Int32)), .val (.int (1 : Int32)), .unset, .unset] [(.int (0 : Int32))])) _
          refine XS.iconst X68.here hx rfl (hb hby at_90) ?_
          show Steps p.tables e below (T68.setTop (mkF m 91 #[.val (.long q0), .second, .val (.long q1), .second, .val (.int p2), .val (.ref w_BUY), .val (.ref w_SELL), .val (.int (0 : Int32)), .val (.int (1 : Int32)), .val (.int (1 : Int32)), .unset, .unset] [(.int (0 : Int32)), (.int (0 : Int32))])) _
          refine XS.icmpNo X68.here hx rfl (hb hby at_91) rfl (teq (by decide : (0 : Int32) = (0 : Int32))).2 ?_
          show Steps p.tables e below (T68.setTop (mkF m 94 #[.val (.long q0), .second, .val (.long q1), .second, .val (.int p2), .val (.ref w_BUY), .val (.ref w_SELL), .val (.int (0 : Int32)), .val (.int (1 : Int32)), .val (.int (1 : Int32)), .unset, .unset] [])) _
          refine XS.iconst X68.here hx rfl (hb hby at_94) ?_
          show Steps p.tables e below (T68.setTop (mkF m 95 #[.val (.long q0), .second, .val (.long q1), .second, .val (.int p2), .val (.ref w_BUY), .val (.ref w_SELL), .val (.int (0 : Int32)), .val (.int (1 : Int32)), .val (.int (1 : Int32)), .unset, .unset] [(.int (1 : Int32))])) _
          refine XS.goto X68.here hx rfl (pc0 := 95) (pc' := 99) rfl (hb hby at_95) (by decide) (by decide) ?_
          show Steps p.tables e below (T68.setTop (mkF m 99 #[.val (.long q0), .second, .val (.long q1), .second, .val (.int p2), .val (.ref w_BUY), .val (.ref w_SELL), .val (.int (0 : Int32)), .val (.int (1 : Int32)), .val (.int (1 : Int32)), .unset, .unset] [(.int (1 : Int32))])) _
          refine XS.istore X68.here hx rfl (hb hby at_99) rfl (l' := #[.val (.long q0), .second, .val (.long q1), .second, .val (.int p2), .val (.ref w_BUY), .val (.ref w_SELL), .val (.int (0 : Int32)), .val (.int (1 : Int32)), .val (.int (1 : Int32)), .unset, .unset]) rfl ?_
          show Steps p.tables e below (T68.setTop (mkF m 101 #[.val (.long q0), .second, .val (.long q1), .second, .val (.int p2), .val (.ref w_BUY), .val (.ref w_SELL), .val (.int (0 : Int32)), .val (.int (1 : Int32)), .val (.int (1 : Int32)), .unset, .unset] [])) _
          refine st70 _ ?_
          show Steps p.tables e below (T70.setTop (mkF m 104 #[.val (.long q0), .second, .val (.long q1), .second, .val (.int p2), .val (.ref w_BUY), .val (.ref w_SELL), .val (.int (0 : Int32)), .val (.int (1 : Int32)), .val (.int (1 : Int32)), .unset, .unset] [(.ref w_BUY)])) _
          refine XS.lloadN X70.here hx rfl (hb hby at_104) rfl ?_
          show Steps p.tables e below (T70.setTop (mkF m 105 #[.val (.long q0), .second, .val (.long q1), .second, .val (.int p2), .val (.ref w_BUY), .val (.ref w_SELL), .val (.int (0 : Int32)), .val (.int (1 : Int32)), .val (.int (1 : Int32)), .unset, .unset] [(.long q0), (.ref w_BUY)])) _
          refine XS.lloadN X70.here hx rfl (hb hby at_105) rfl ?_
          show Steps p.tables e below (T70.setTop (mkF m 106 #[.val (.long q0), .second, .val (.long q1), .second, .val (.int p2), .val (.ref w_BUY), .val (.ref w_SELL), .val (.int (0 : Int32)), .val (.int (1 : Int32)), .val (.int (1 : Int32)), .unset, .unset] [(.long q1), (.long q0), (.ref w_BUY)])) _
          refine st71.trans ?_
          show Steps p.tables e below (T71.setTop (mkF m 109 #[.val (.long q0), .second, .val (.long q1), .second, .val (.int p2), .val (.ref w_BUY), .val (.ref w_SELL), .val (.int (0 : Int32)), .val (.int (1 : Int32)), .val (.int (1 : Int32)), .unset, .unset] [(.int (0 : Int32))])) _
          refine XS.istore X71.here hx rfl (hb hby at_109) rfl (l' := #[.val (.long q0), .second, .val (.long q1), .second, .val (.int p2), .val (.ref w_BUY), .val (.ref w_SELL), .val (.int (0 : Int32)), .val (.int (1 : Int32)), .val (.int (1 : Int32)), .val (.int (0 : Int32)), .unset]) rfl ?_
          show Steps p.tables e below (T71.setTop (mkF m 111 #[.val (.long q0), .second, .val (.long q1), .second, .val (.int p2), .val (.ref w_BUY), .val (.ref w_SELL), .val (.int (0 : Int32)), .val (.int (1 : Int32)), .val (.int (1 : Int32)), .val (.int (0 : Int32)), .unset] [])) _
          refine st72 _ ?_
          show Steps p.tables e below (T72.setTop (mkF m 114 #[.val (.long q0), .second, .val (.long q1), .second, .val (.int p2), .val (.ref w_BUY), .val (.ref w_SELL), .val (.int (0 : Int32)), .val (.int (1 : Int32)), .val (.int (1 : Int32)), .val (.int (0 : Int32)), .unset] [(.ref w_SELL)])) _
          refine XS.lloadN X72.here hx rfl (hb hby at_114) rfl ?_
          show Steps p.tables e below (T72.setTop (mkF m 115 #[.val (.long q0), .second, .val (.long q1), .second, .val (.int p2), .val (.ref w_BUY), .val (.ref w_SELL), .val (.int (0 : Int32)), .val (.int (1 : Int32)), .val (.int (1 : Int32)), .val (.int (0 : Int32)), .unset] [(.long q0), (.ref w_SELL)])) _
          refine XS.lloadN X72.here hx rfl (hb hby at_115) rfl ?_
          show Steps p.tables e below (T72.setTop (mkF m 116 #[.val (.long q0), .second, .val (.long q1), .second, .val (.int p2), .val (.ref w_BUY), .val (.ref w_SELL), .val (.int (0 : Int32)), .val (.int (1 : Int32)), .val (.int (1 : Int32)), .val (.int (0 : Int32)), .unset] [(.long q1), (.long q0), (.ref w_SELL)])) _
          refine st73.trans ?_
          show Steps p.tables e below (T73.setTop (mkF m 119 #[.val (.long q0), .second, .val (.long q1), .second, .val (.int p2), .val (.ref w_BUY), .val (.ref w_SELL), .val (.int (0 : Int32)), .val (.int (1 : Int32)), .val (.int (1 : Int32)), .val (.int (0 : Int32)), .unset] [(.int (1 : Int32))])) _
          refine XS.istore X73.here hx rfl (hb hby at_119) rfl (l' := #[.val (.long q0), .second, .val (.long q1), .second, .val (.int p2), .val (.ref w_BUY), .val (.ref w_SELL), .val (.int (0 : Int32)), .val (.int (1 : Int32)), .val (.int (1 : Int32)), .val (.int (0 : Int32)), .val (.int (1 : Int32))]) rfl ?_
          show Steps p.tables e below (T73.setTop (mkF m 121 #[.val (.long q0), .second, .val (.long q1), .second, .val (.int p2), .val (.ref w_BUY), .val (.ref w_SELL), .val (.int (0 : Int32)), .val (.int (1 : Int32)), .val (.int (1 : Int32)), .val (.int (0 : Int32)), .val (.int (1 : Int32))] [])) _
          refine XS.iload X73.here hx rfl (hb hby at_121) rfl ?_
          show Steps p.tables e below (T73.setTop (mkF m 123 #[.val (.long q0), .second, .val (.long q1), .second, .val (.int p2), .val (.ref w_BUY), .val (.ref w_SELL), .val (.int (0 : Int32)), .val (.int (1 : Int32)), .val (.int (1 : Int32)), .val (.int (0 : Int32)), .val (.int (1 : Int32))] [(.int (1 : Int32))])) _
          refine XS.ifNo X73.here hx rfl (hb hby at_123) rfl ((if0 _ _).trans (feq (by decide : ¬ ((1 : Int32) = (0 : Int32)))).1) ?_
          show Steps p.tables e below (T73.setTop (mkF m 126 #[.val (.long q0), .second, .val (.long q1), .second, .val (.int p2), .val (.ref w_BUY), .val (.ref w_SELL), .val (.int (0 : Int32)), .val (.int (1 : Int32)), .val (.int (1 : Int32)), .val (.int (0 : Int32)), .val (.int (1 : Int32))] [])) _
          refine XS.iload X73.here hx rfl (hb hby at_126) rfl ?_
          show Steps p.tables e below (T73.setTop (mkF m 128 #[.val (.long q0), .second, .val (.long q1), .second, .val (.int p2), .val (.ref w_BUY), .val (.ref w_SELL), .val (.int (0 : Int32)), .val (.int (1 : Int32)), .val (.int (1 : Int32)), .val (.int (0 : Int32)), .val (.int (1 : Int32))] [(.int (1 : Int32))])) _
          refine st74 _ ?_
          show Steps p.tables e below (T74.setTop (mkF m 131 #[.val (.long q0), .second, .val (.long q1), .second, .val (.int p2), .val (.ref w_BUY), .val (.ref w_SELL), .val (.int (0 : Int32)), .val (.int (1 : Int32)), .val (.int (1 : Int32)), .val (.int (0 : Int32)), .val (.int (1 : Int32))] [(.ref w_BUY), (.int (1 : Int32))])) _
          refine XS.lloadN X74.here hx rfl (hb hby at_131) rfl ?_
          show Steps p.tables e below (T74.setTop (mkF m 132 #[.val (.long q0), .second, .val (.long q1), .second, .val (.int p2), .val (.ref w_BUY), .val (.ref w_SELL), .val (.int (0 : Int32)), .val (.int (1 : Int32)), .val (.int (1 : Int32)), .val (.int (0 : Int32)), .val (.int (1 : Int32))] [(.long q1), (.ref w_BUY), (.int (1 : Int32))])) _
          refine XS.lloadN X74.here hx rfl (hb hby at_132) rfl ?_
          show Steps p.tables e below (T74.setTop (mkF m 133 #[.val (.long q0), .second, .val (.long q1), .second, .val (.int p2), .val (.ref w_BUY), .val (.ref w_SELL), .val (.int (0 : Int32)), .val (.int (1 : Int32)), .val (.int (1 : Int32)), .val (.int (0 : Int32)), .val (.int (1 : Int32))] [(.long q0), (.long q1), (.ref w_BUY), (.int (1 : Int32))])) _
          refine st75.trans ?_
          show Steps p.tables e below (T75.setTop (mkF m 136 #[.val (.long q0), .second, .val (.long q1), .second, .val (.int p2), .val (.ref w_BUY), .val (.ref w_SELL), .val (.int (0 : Int32)), .val (.int (1 : Int32)), .val (.int (1 : Int32)), .val (.int (0 : Int32)), .val (.int (1 : Int32))] [(.int (1 : Int32)), (.int (1 : Int32))])) _
          refine XS.icmpNo X75.here hx rfl (hb hby at_136) rfl (teq (by decide : (1 : Int32) = (1 : Int32))).2 ?_
          show Steps p.tables e below (T75.setTop (mkF m 139 #[.val (.long q0), .second, .val (.long q1), .second, .val (.int p2), .val (.ref w_BUY), .val (.ref w_SELL), .val (.int (0 : Int32)), .val (.int (1 : Int32)), .val (.int (1 : Int32)), .val (.int (0 : Int32)), .val (.int (1 : Int32))] [])) _
          refine XS.iconst X75.here hx rfl (hb hby at_139) ?_
          show Steps p.tables e below (T75.setTop (mkF m 140 #[.val (.long q0), .second, .val (.long q1), .second, .val (.int p2), .val (.ref w_BUY), .val (.ref w_SELL), .val (.int (0 : Int32)), .val (.int (1 : Int32)), .val (.int (1 : Int32)), .val (.int (0 : Int32)), .val (.int (1 : Int32))] [(.int (1 : Int32))])) _
          refine XS.goto X75.here hx rfl (pc0 := 140) (pc' := 144) rfl (hb hby at_140) (by decide) (by decide) ?_
          show Steps p.tables e below (T75.setTop (mkF m 144 #[.val (.long q0), .second, .val (.long q1), .second, .val (.int p2), .val (.ref w_BUY), .val (.ref w_SELL), .val (.int (0 : Int32)), .val (.int (1 : Int32)), .val (.int (1 : Int32)), .val (.int (0 : Int32)), .val (.int (1 : Int32))] [(.int (1 : Int32))])) _
          refine XS.istore X75.here hx rfl (hb hby at_144) rfl (l' := #[.val (.long q0), .second, .val (.long q1), .second, .val (.int p2), .val (.ref w_BUY), .val (.ref w_SELL), .val (.int (0 : Int32)), .val (.int (1 : Int32)), .val (.int (1 : Int32)), .val (.int (0 : Int32)), .val (.int (1 : Int32))]) rfl ?_
          show Steps p.tables e below (T75.setTop (mkF m 146 #[.val (.long q0), .second, .val (.long q1), .second, .val (.int p2), .val (.ref w_BUY), .val (.ref w_SELL), .val (.int (0 : Int32)), .val (.int (1 : Int32)), .val (.int (1 : Int32)), .val (.int (0 : Int32)), .val (.int (1 : Int32))] [])) _
          refine XS.lloadN X75.here hx rfl (hb hby at_146) rfl ?_
          show Steps p.tables e below (T75.setTop (mkF m 147 #[.val (.long q0), .second, .val (.long q1), .second, .val (.int p2), .val (.ref w_BUY), .val (.ref w_SELL), .val (.int (0 : Int32)), .val (.int (1 : Int32)), .val (.int (1 : Int32)), .val (.int (0 : Int32)), .val (.int (1 : Int32))] [(.long q1)])) _
          refine XS.lloadN X75.here hx rfl (hb hby at_147) rfl ?_
          show Steps p.tables e below (T75.setTop (mkF m 148 #[.val (.long q0), .second, .val (.long q1), .second, .val (.int p2), .val (.ref w_BUY), .val (.ref w_SELL), .val (.int (0 : Int32)), .val (.int (1 : Int32)), .val (.int (1 : Int32)), .val (.int (0 : Int32)), .val (.int (1 : Int32))] [(.long q0), (.long q1)])) _
          refine XS.lcmp X75.here hx rfl (hb hby at_148) rfl ?_
          show Steps p.tables e below (T75.setTop (mkF m 149 #[.val (.long q0), .second, .val (.long q1), .second, .val (.int p2), .val (.ref w_BUY), .val (.ref w_SELL), .val (.int (0 : Int32)), .val (.int (1 : Int32)), .val (.int (1 : Int32)), .val (.int (0 : Int32)), .val (.int (1 : Int32))] [(.int (lcmpW q1 q0))])) _
          refine XS.ifYes X75.here hx rfl (pc0 := 149) (pc' := 169) rfl (hb hby at_149) rfl ((if0 _ _).trans (flt hk76).2.1) (by decide) (by decide) ?_
          show Steps p.tables e below (T75.setTop (mkF m 169 #[.val (.long q0), .second, .val (.long q1), .second, .val (.int p2), .val (.ref w_BUY), .val (.ref w_SELL), .val (.int (0 : Int32)), .val (.int (1 : Int32)), .val (.int (1 : Int32)), .val (.int (0 : Int32)), .val (.int (1 : Int32))] [])) _
          refine XS.iload X75.here hx rfl (hb hby at_169) rfl ?_
          show Steps p.tables e below (T75.setTop (mkF m 171 #[.val (.long q0), .second, .val (.long q1), .second, .val (.int p2), .val (.ref w_BUY), .val (.ref w_SELL), .val (.int (0 : Int32)), .val (.int (1 : Int32)), .val (.int (1 : Int32)), .val (.int (0 : Int32)), .val (.int (1 : Int32))] [(.int (1 : Int32))])) _
          refine XS.ifNo X75.here hx rfl (hb hby at_171) rfl ((if0 _ _).trans (feq (by decide : ¬ ((1 : Int32) = (0 : Int32)))).1) ?_
          show Steps p.tables e below (T75.setTop (mkF m 174 #[.val (.long q0), .second, .val (.long q1), .second, .val (.int p2), .val (.ref w_BUY), .val (.ref w_SELL), .val (.int (0 : Int32)), .val (.int (1 : Int32)), .val (.int (1 : Int32)), .val (.int (0 : Int32)), .val (.int (1 : Int32))] [])) _
          refine XS.aload X75.here hx rfl (hb hby at_174) rfl rfl ?_
          show Steps p.tables e below (T75.setTop (mkF m 176 #[.val (.long q0), .second, .val (.long q1), .second, .val (.int p2), .val (.ref w_BUY), .val (.ref w_SELL), .val (.int (0 : Int32)), .val (.int (1 : Int32)), .val (.int (1 : Int32)), .val (.int (0 : Int32)), .val (.int (1 : Int32))] [(.ref w_BUY)])) _
          refine XS.aload X75.here hx rfl (hb hby at_176) rfl rfl ?_
          show Steps p.tables e below (T75.setTop (mkF m 178 #[.val (.long q0), .second, .val (.long q1), .second, .val (.int p2), .val (.ref w_BUY), .val (.ref w_SELL), .val (.int (0 : Int32)), .val (.int (1 : Int32)), .val (.int (1 : Int32)), .val (.int (0 : Int32)), .val (.int (1 : Int32))] [(.ref w_BUY), (.ref w_BUY)])) _
          refine st77.trans ?_
          show Steps p.tables e below (T77.setTop (mkF m 181 #[.val (.long q0), .second, .val (.long q1), .second, .val (.int p2), .val (.ref w_BUY), .val (.ref w_SELL), .val (.int (0 : Int32)), .val (.int (1 : Int32)), .val (.int (1 : Int32)), .val (.int (0 : Int32)), .val (.int (1 : Int32))] [(.long (9223372036854775807 : Int64)), (.ref w_BUY)])) _
          refine XS.lloadN X77.here hx rfl (hb hby at_181) rfl ?_
          show Steps p.tables e below (T77.setTop (mkF m 182 #[.val (.long q0), .second, .val (.long q1), .second, .val (.int p2), .val (.ref w_BUY), .val (.ref w_SELL), .val (.int (0 : Int32)), .val (.int (1 : Int32)), .val (.int (1 : Int32)), .val (.int (0 : Int32)), .val (.int (1 : Int32))] [(.long q1), (.long (9223372036854775807 : Int64)), (.ref w_BUY)])) _
          refine X77.ldc2Long hx hown (mvT hZ (hw _ (List.mem_of_getElem? (i := 23) rfl))) (g := (mkF m 182 #[.val (.long q0), .second, .val (.long q1), .second, .val (.int p2), .val (.ref w_BUY), .val (.ref w_SELL), .val (.int (0 : Int32)), .val (.int (1 : Int32)), .val (.int (1 : Int32)), .val (.int (0 : Int32)), .val (.int (1 : Int32))] [(.long q1), (.long (9223372036854775807 : Int64)), (.ref w_BUY)])) rfl (hb hby at_182) _ ?_
          show Steps p.tables e below (T77.setTop (mkF m 185 #[.val (.long q0), .second, .val (.long q1), .second, .val (.int p2), .val (.ref w_BUY), .val (.ref w_SELL), .val (.int (0 : Int32)), .val (.int (1 : Int32)), .val (.int (1 : Int32)), .val (.int (0 : Int32)), .val (.int (1 : Int32))] [(.long (9223372036854775807 : Int64)), (.long q1), (.long (9223372036854775807 : Int64)), (.ref w_BUY)])) _
          refine XS.land X77.here hx rfl (hb hby at_185) rfl ?_
          show Steps p.tables e below (T77.setTop (mkF m 186 #[.val (.long q0), .second, .val (.long q1), .second, .val (.int p2), .val (.ref w_BUY), .val (.ref w_SELL), .val (.int (0 : Int32)), .val (.int (1 : Int32)), .val (.int (1 : Int32)), .val (.int (0 : Int32)), .val (.int (1 : Int32))] [(.long (q1 &&& (9223372036854775807 : Int64))), (.long (9223372036854775807 : Int64)), (.ref w_BUY)])) _
          refine st78.trans ?_
          show Steps p.tables e below (T78.setTop (mkF m 189 #[.val (.long q0), .second, .val (.long q1), .second, .val (.int p2), .val (.ref w_BUY), .val (.ref w_SELL), .val (.int (0 : Int32)), .val (.int (1 : Int32)), .val (.int (1 : Int32)), .val (.int (0 : Int32)), .val (.int (1 : Int32))] [(.int (1 : Int32))])) _
          refine XS.ifNo X78.here hx rfl (hb hby at_189) rfl ((if0 _ _).trans (feq (by decide : ¬ ((1 : Int32) = (0 : Int32)))).1) ?_
          show Steps p.tables e below (T78.setTop (mkF m 192 #[.val (.long q0), .second, .val (.long q1), .second, .val (.int p2), .val (.ref w_BUY), .val (.ref w_SELL), .val (.int (0 : Int32)), .val (.int (1 : Int32)), .val (.int (1 : Int32)), .val (.int (0 : Int32)), .val (.int (1 : Int32))] [])) _
          refine XS.iconst X78.here hx rfl (hb hby at_192) ?_
          show Steps p.tables e below (T78.setTop (mkF m 193 #[.val (.long q0), .second, .val (.long q1), .second, .val (.int p2), .val (.ref w_BUY), .val (.ref w_SELL), .val (.int (0 : Int32)), .val (.int (1 : Int32)), .val (.int (1 : Int32)), .val (.int (0 : Int32)), .val (.int (1 : Int32))] [(.int (1 : Int32))])) _
          refine XS.goto X78.here hx rfl (pc0 := 193) (pc' := 197) rfl (hb hby at_193) (by decide) (by decide) ?_
          show Steps p.tables e below (T78.setTop (mkF m 197 #[.val (.long q0), .second, .val (.long q1), .second, .val (.int p2), .val (.ref w_BUY), .val (.ref w_SELL), .val (.int (0 : Int32)), .val (.int (1 : Int32)), .val (.int (1 : Int32)), .val (.int (0 : Int32)), .val (.int (1 : Int32))] [(.int (1 : Int32))])) _
          refine XS.istore X78.here hx rfl (hb hby at_197) rfl (l' := #[.val (.long q0), .second, .val (.long q1), .second, .val (.int p2), .val (.ref w_BUY), .val (.ref w_SELL), .val (.int (0 : Int32)), .val (.int (1 : Int32)), .val (.int (1 : Int32)), .val (.int (0 : Int32)), .val (.int (1 : Int32))]) rfl ?_
          show Steps p.tables e below (T78.setTop (mkF m 199 #[.val (.long q0), .second, .val (.long q1), .second, .val (.int p2), .val (.ref w_BUY), .val (.ref w_SELL), .val (.int (0 : Int32)), .val (.int (1 : Int32)), .val (.int (1 : Int32)), .val (.int (0 : Int32)), .val (.int (1 : Int32))] [])) _
          refine XS.iload X78.here hx rfl (hb hby at_199) rfl ?_
          show Steps p.tables e below (T78.setTop (mkF m 201 #[.val (.long q0), .second, .val (.long q1), .second, .val (.int p2), .val (.ref w_BUY), .val (.ref w_SELL), .val (.int (0 : Int32)), .val (.int (1 : Int32)), .val (.int (1 : Int32)), .val (.int (0 : Int32)), .val (.int (1 : Int32))] [(.int (1 : Int32))])) _
          exact retN X78 hx (t := .boolean) Bd.returns (by simp) (hb hby at_201) hr
        · show Qp (some (.int (1 : Int32))) h0 n0 _ T78.heap _
          rw [e78]
          exact ⟨rfl, N78, rfl⟩
      ·
        obtain ⟨T79, X79, e79, st79⟩ := getS2 X0 hx hZ hown (host := "") (Or.inl (hw _ (List.mem_of_getElem? (i := 16) rfl))) Via.refl e0 S_SELL (g := (mkF m 7 #[.val (.long q0), .second, .val (.long q1), .second, .val (.int p2), .unset, .unset, .unset, .unset, .unset, .unset, .unset] [])) rfl (hb hby at_7)
        have hr80 : w_BUY = v1 w_SELL w_BUY w_SELL := by unfold v1; rw [if_neg ne_SELL_BUY]
        obtain ⟨cq80, kq80, q80a, q80b, q80c⟩ := isOf hZ e79 (show Exa Z h0 w_SELL "com/example/orderwarden/orderwarden/Side" from E_SELL)
        obtain ⟨_, _, ⟨T80, L80, k80, n80⟩, -, X80, ⟨Lc80, hQ80, l80, y80, z80⟩, st80⟩ := X79.virtualBack hx (y := (⟨"com/example/orderwarden/orderwarden/Side", "opposite", "()Lcom/example/orderwarden/orderwarden/Side;"⟩ : MethodName)) (z := (⟨"com/example/orderwarden/orderwarden/Side", "opposite", "()Lcom/example/orderwarden/orderwarden/Side;"⟩ : MethodName)) hown (mvT hZ (hw _ (List.mem_of_getElem? (i := 3) rfl))) (mvT hZ (hw _ (List.mem_of_getElem? (i := 4) rfl))) (notFace_of_selects (args := #[]) (mvT hZ (hw _ (List.mem_of_getElem? (i := 6) rfl)))) (mvT hZ (hw _ (List.mem_of_getElem? (i := 6) rfl))) (mvT hZ (hw _ (List.mem_of_getElem? (i := 5) rfl))) (by decide) (backOf (W := 0) (rm1 l Z ar0 hw [] w_SELL w_BUY w_SELL h0 n0 Z0 F  w_BUY hr80) hZ (hw _ (List.mem_of_getElem? (i := 7) rfl)) (hw _ (List.mem_of_getElem? (i := 1) rfl)) (by decide) (by decide)) q80a q80c (g := (mkF m 20 #[.val (.long q0), .second, .val (.long q1), .second, .val (.int p2), .val (.ref w_SELL), .unset, .unset, .unset, .unset, .unset, .unset] [(.ref w_SELL)])) rfl (by rw [hml]; rfl) (Steps.refl _) (argsL := []) (rest := []) (lenOf pd_0_20 rfl) rfl (by show 2 * 0 + _ ≤ _; exact Nat.le_of_eq rfl) (hb hby at_20) (fun _ _ => ⟨rfl, e79, (by decide : 0 + 0 ≤ _), (by decide : 0 + 0 ≤ _)⟩)
        dsimp only [Pt.U, Pt.locs, Pt.cells, Pt.slots] at X80 l80 y80 z80 st80 hQ80
        subst l80 y80 z80
        obtain ⟨rfl, N80q, e80⟩ := hQ80
        have N80 := Fr.app N0 N80q
        have hr81 : (1 : Int32) = v2 w_SELL q0 q1 w_BUY w_SELL := own_sell ne_SELL_BUY (own_le (own_gt hs1 hs32))
        obtain ⟨cq81, kq81, q81a, q81b, q81c⟩ := isOf hZ e80 (show Exa Z h0 w_SELL "com/example/orderwarden/orderwarden/Side" from E_SELL)
        obtain ⟨_, _, ⟨T81, L81, k81, n81⟩, -, X81, ⟨Lc81, hQ81, l81, y81, z81⟩, st81⟩ := X80.virtualBack hx (y := (⟨"com/example/orderwarden/orderwarden/Side", "accepts", "(JJ)Z"⟩ : MethodName)) (z := (⟨"com/example/orderwarden/orderwarden/Side", "accepts", "(JJ)Z"⟩ : MethodName)) hown (mvT hZ (hw _ (List.mem_of_getElem? (i := 11) rfl))) (mvT hZ (hw _ (List.mem_of_getElem? (i := 12) rfl))) (notFace_of_selects (args := #[]) (mvT hZ (hw _ (List.mem_of_getElem? (i := 14) rfl)))) (mvT hZ (hw _ (List.mem_of_getElem? (i := 14) rfl))) (mvT hZ (hw _ (List.mem_of_getElem? (i := 13) rfl))) (by decide) (backOf (W := 0) (rm2 l Z ar0 hw [] w_SELL q0 q1 w_BUY w_SELL h0 n0 Z0 F  (1 : Int32) hr81) hZ (hw _ (List.mem_of_getElem? (i := 15) rfl)) (hw _ (List.mem_of_getElem? (i := 1) rfl)) (by decide) (by decide)) q81a q81c (g := (mkF m 29 #[.val (.long q0), .second, .val (.long q1), .second, .val (.int p2), .val (.ref w_SELL), .val (.ref w_BUY), .unset, .unset, .unset, .unset, .unset] [(.long q1), (.long q0), (.ref w_SELL)])) rfl (by rw [hml]; rfl) (Steps.refl _) (argsL := [(.long q0), (.long q1)]) (rest := []) (lenOf pd_0_29 rfl) rfl (by show 2 * 0 + _ ≤ _; exact Nat.le_of_eq rfl) (hb hby at_29) (fun _ _ => ⟨rfl, e80, (by decide : 0 + 0 ≤ _), (by decide : 0 + 0 ≤ _)⟩)
        dsimp only [Pt.U, Pt.locs, Pt.cells, Pt.slots] at X81 l81 y81 z81 st81 hQ81
        subst l81 y81 z81
        obtain ⟨rfl, N81q, e81⟩ := hQ81
        have N81 := Fr.app N80 N81q
        have hr82 : (0 : Int32) = v2 w_BUY q0 q1 w_BUY w_SELL := own_buy0 (own_gt hs1 hs32)
        obtain ⟨cq82, kq82, q82a, q82b, q82c⟩ := isOf hZ e81 (show Exa Z h0 w_BUY "com/example/orderwarden/orderwarden/Side" from E_BUY)
        obtain ⟨_, _, ⟨T82, L82, k82, n82⟩, -, X82, ⟨Lc82, hQ82, l82, y82, z82⟩, st82⟩ := X81.virtualBack hx (y := (⟨"com/example/orderwarden/orderwarden/Side", "accepts", "(JJ)Z"⟩ : MethodName)) (z := (⟨"com/example/orderwarden/orderwarden/Side", "accepts", "(JJ)Z"⟩ : MethodName)) hown (mvT hZ (hw _ (List.mem_of_getElem? (i := 11) rfl))) (mvT hZ (hw _ (List.mem_of_getElem? (i := 12) rfl))) (notFace_of_selects (args := #[]) (mvT hZ (hw _ (List.mem_of_getElem? (i := 14) rfl)))) (mvT hZ (hw _ (List.mem_of_getElem? (i := 14) rfl))) (mvT hZ (hw _ (List.mem_of_getElem? (i := 13) rfl))) (by decide) (backOf (W := 0) (rm2 l Z ar0 hw [] w_BUY q0 q1 w_BUY w_SELL h0 n0 Z0 F  (0 : Int32) hr82) hZ (hw _ (List.mem_of_getElem? (i := 15) rfl)) (hw _ (List.mem_of_getElem? (i := 1) rfl)) (by decide) (by decide)) q82a q82c (g := (mkF m 38 #[.val (.long q0), .second, .val (.long q1), .second, .val (.int p2), .val (.ref w_SELL), .val (.ref w_BUY), .val (.int (1 : Int32)), .unset, .unset, .unset, .unset] [(.long q1), (.long q0), (.ref w_BUY)])) rfl (by rw [hml]; rfl) (Steps.refl _) (argsL := [(.long q0), (.long q1)]) (rest := []) (lenOf pd_0_38 rfl) rfl (by show 2 * 0 + _ ≤ _; exact Nat.le_of_eq rfl) (hb hby at_38) (fun _ _ => ⟨rfl, e81, (by decide : 0 + 0 ≤ _), (by decide : 0 + 0 ≤ _)⟩)
        dsimp only [Pt.U, Pt.locs, Pt.cells, Pt.slots] at X82 l82 y82 z82 st82 hQ82
        subst l82 y82 z82
        obtain ⟨rfl, N82q, e82⟩ := hQ82
        have N82 := Fr.app N81 N82q
        have hk83 : ¬ ((lcmpW q1 q0) = (0 : Int32)) := by rw [lcW, lc_eq]; exact fun q => own_ne (own_gt hs1 hs32) q.symm
        obtain ⟨T84, X84, e84, st84⟩ := getS2 X82 hx hZ hown (host := "") (Or.inl (hw _ (List.mem_of_getElem? (i := 0) rfl))) Via.refl e82 S_BUY (g := (mkF m 101 #[.val (.long q0), .second, .val (.long q1), .second, .val (.int p2), .val (.ref w_SELL), .val (.ref w_BUY), .val (.int (1 : Int32)), .val (.int (0 : Int32)), .val (.int (1 : Int32)), .unset, .unset] [])) rfl (hb hby at_101)
        have hr85 : (0 : Int32) = v2 w_BUY q0 q1 w_BUY w_SELL := own_buy0 (own_gt hs1 hs32)
        obtain ⟨cq85, kq85, q85a, q85b, q85c⟩ := isOf hZ e84 (show Exa Z h0 w_BUY "com/example/orderwarden/orderwarden/Side" from E_BUY)
        obtain ⟨_, _, ⟨T85, L85, k85, n85⟩, -, X85, ⟨Lc85, hQ85, l85, y85, z85⟩, st85⟩ := X84.virtualBack hx (y := (⟨"com/example/orderwarden/orderwarden/Side", "accepts", "(JJ)Z"⟩ : MethodName)) (z := (⟨"com/example/orderwarden/orderwarden/Side", "accepts", "(JJ)Z"⟩ : MethodName)) hown (mvT hZ (hw _ (List.mem_of_getElem? (i := 11) rfl))) (mvT hZ (hw _ (List.mem_of_getElem? (i := 12) rfl))) (notFace_of_selects (args := #[]) (mvT hZ (hw _ (List.mem_of_getElem? (i := 14) rfl)))) (mvT hZ (hw _ (List.mem_of_getElem? (i := 14) rfl))) (mvT hZ (hw _ (List.mem_of_getElem? (i := 13) rfl))) (by decide) (backOf (W := 0) (rm2 l Z ar0 hw [] w_BUY q0 q1 w_BUY w_SELL h0 n0 Z0 F  (0 : Int32) hr85) hZ (hw _ (List.mem_of_getElem? (i := 15) rfl)) (hw _ (List.mem_of_getElem? (i := 1) rfl)) (by decide) (by decide)) q85a q85c (g := (mkF m 106 #[.val (.long q0), .second, .val (.long q1), .second, .val (.int p2), .val (.ref w_SELL), .val (.ref w_BUY), .val (.int (1 : Int32)), .val (.int (0 : Int32)), .val (.int (1 : Int32)), .unset, .unset] [(.long q1), (.long q0), (.ref w_BUY)])) rfl (by rw [hml]; rfl) (Steps.refl _) (argsL := [(.long q0), (.long q1)]) (rest := []) (lenOf pd_0_106 rfl) rfl (by show 2 * 0 + _ ≤ _; exact Nat.le_of_eq rfl) (hb hby at_106) (fun _ _ => ⟨rfl, e84, (by decide : 0 + 0 ≤ _), (by decide : 0 + 0 ≤ _)⟩)
        dsimp only [Pt.U, Pt.locs, Pt.cells, Pt.slots] at X85 l85 y85 z85 st85 hQ85
        subst l85 y85 z85
        obtain ⟨rfl, N85q, e85⟩ := hQ85
        have N85 := Fr.app N82 N85q
        obtain ⟨T86, X86, e86, st86⟩ := getS2 X85 hx hZ hown (host := "") (Or.inl (hw _ (List.mem_of_getElem? (i := 16) rfl))) Via.refl e85 S_SELL (g := (mkF m 111 #[.val (.long q0), .second, .val (.long q1), .second, .val (.int p2), .val (.ref w_SELL), .val (.ref w_BUY), .val (.int (1 : Int32)), .val (.int (0 : Int32)), .val (.int (1 : Int32)), .val (.int (0 : Int32)), .unset] [])) rfl (hb hby at_111)
        have hr87 : (1 : Int32) = v2 w_SELL q0 q1 w_BUY w_SELL := own_sell ne_SELL_BUY (own_le (own_gt hs1 hs32))
        obtain ⟨cq87, kq87, q87a, q87b, q87c⟩ := isOf hZ e86 (show Exa Z h0 w_SELL "com/example/orderwarden/orderwarden/Side" from E_SELL)
        obtain ⟨_, _, ⟨T87, L87, k87, n87⟩, -, X87, ⟨Lc87, hQ87, l87, y87, z87⟩, st87⟩ := X86.virtualBack hx (y := (⟨"com/example/orderwarden/orderwarden/Side", "accepts", "(JJ)Z"⟩ : MethodName)) (z := (⟨"com/example/orderwarden/orderwarden/Side", "accepts", "(JJ)Z"⟩ : MethodName)) hown (mvT hZ (hw _ (List.mem_of_getElem? (i := 11) rfl))) (mvT hZ (hw _ (List.mem_of_getElem? (i := 12) rfl))) (notFace_of_selects (args := #[]) (mvT hZ (hw _ (List.mem_of_getElem? (i := 14) rfl)))) (mvT hZ (hw _ (List.mem_of_getElem? (i := 14) rfl))) (mvT hZ (hw _ (List.mem_of_getElem? (i := 13) rfl))) (by decide) (backOf (W := 0) (rm2 l Z ar0 hw [] w_SELL q0 q1 w_BUY w_SELL h0 n0 Z0 F  (1 : Int32) hr87) hZ (hw _ (List.mem_of_getElem? (i := 15) rfl)) (hw _ (List.mem_of_getElem? (i := 1) rfl)) (by decide) (by decide)) q87a q87c (g := (mkF m 116 #[.val (.long q0), .second, .val (.long q1), .second, .val (.int p2), .val (.ref w_SELL), .val (.ref w_BUY), .val (.int (1 : Int32)), .val (.int (0 : Int32)), .val (.int (1 : Int32)), .val (.int (0 : Int32)), .unset] [(.long q1), (.long q0), (.ref w_SELL)])) rfl (by rw [hml]; rfl) (Steps.refl _) (argsL := [(.long q0), (.long q1)]) (rest := []) (lenOf pd_0_116 rfl) rfl (by show 2 * 0 + _ ≤ _; exact Nat.le_of_eq rfl) (hb hby at_116) (fun _ _ => ⟨rfl, e86, (by decide : 0 + 0 ≤ _), (by decide : 0 + 0 ≤ _)⟩)
        dsimp only [Pt.U, Pt.locs, Pt.cells, Pt.slots] at X87 l87 y87 z87 st87 hQ87
        subst l87 y87 z87
        obtain ⟨rfl, N87q, e87⟩ := hQ87
        have N87 := Fr.app N85 N87q
        obtain ⟨T88, X88, e88, st88⟩ := getS2 X87 hx hZ hown (host := "") (Or.inl (hw _ (List.mem_of_getElem? (i := 0) rfl))) Via.refl e87 S_BUY (g := (mkF m 128 #[.val (.long q0), .second, .val (.long q1), .second, .val (.int p2), .val (.ref w_SELL), .val (.ref w_BUY), .val (.int (1 : Int32)), .val (.int (0 : Int32)), .val (.int (1 : Int32)), .val (.int (0 : Int32)), .val (.int (1 : Int32))] [(.int (1 : Int32))])) rfl (hb hby at_128)
        have hr89 : (1 : Int32) = v2 w_BUY q1 q0 w_BUY w_SELL := own_buy (own_le (own_gt hs1 hs32))
        obtain ⟨cq89, kq89, q89a, q89b, q89c⟩ := isOf hZ e88 (show Exa Z h0 w_BUY "com/example/orderwarden/orderwarden/Side" from E_BUY)
        obtain ⟨_, _, ⟨T89, L89, k89, n89⟩, -, X89, ⟨Lc89, hQ89, l89, y89, z89⟩, st89⟩ := X88.virtualBack hx (y := (⟨"com/example/orderwarden/orderwarden/Side", "accepts", "(JJ)Z"⟩ : MethodName)) (z := (⟨"com/example/orderwarden/orderwarden/Side", "accepts", "(JJ)Z"⟩ : MethodName)) hown (mvT hZ (hw _ (List.mem_of_getElem? (i := 11) rfl))) (mvT hZ (hw _ (List.mem_of_getElem? (i := 12) rfl))) (notFace_of_selects (args := #[]) (mvT hZ (hw _ (List.mem_of_getElem? (i := 14) rfl)))) (mvT hZ (hw _ (List.mem_of_getElem? (i := 14) rfl))) (mvT hZ (hw _ (List.mem_of_getElem? (i := 13) rfl))) (by decide) (backOf (W := 1) (rm2 l Z ar0 hw [] w_BUY q1 q0 w_BUY w_SELL h0 n0 Z0 F  (1 : Int32) hr89) hZ (hw _ (List.mem_of_getElem? (i := 15) rfl)) (hw _ (List.mem_of_getElem? (i := 1) rfl)) (by decide) (by decide)) q89a q89c (g := (mkF m 133 #[.val (.long q0), .second, .val (.long q1), .second, .val (.int p2), .val (.ref w_SELL), .val (.ref w_BUY), .val (.int (1 : Int32)), .val (.int (0 : Int32)), .val (.int (1 : Int32)), .val (.int (0 : Int32)), .val (.int (1 : Int32))] [(.long q0), (.long q1), (.ref w_BUY), (.int (1 : Int32))])) rfl (by rw [hml]; rfl) (Steps.refl _) (argsL := [(.long q1), (.long q0)]) (rest := [(.int (1 : Int32))]) (lenOf pd_0_133 rfl) rfl (by show 2 * 0 + _ ≤ _; exact Nat.le_of_eq rfl) (hb hby at_133) (fun _ _ => ⟨rfl, e88, (by decide : 0 + 0 ≤ _), (by decide : 0 + 0 ≤ _)⟩)
        dsimp only [Pt.U, Pt.locs, Pt.cells, Pt.slots] at X89 l89 y89 z89 st89 hQ89
        subst l89 y89 z89
        obtain ⟨rfl, N89q, e89⟩ := hQ89
        have N89 := Fr.app N87 N89q
        have hk90 : ¬ ((lcmpW q1 q0) < (0 : Int32)) := by rw [lcW, lc_lt]; exact fun q => own_irr _ (Int64.lt_trans q (own_gt hs1 hs32))
        have hr91 : (0 : Int64) = v3 w_SELL w_BUY w_SELL := by unfold v3; rw [if_neg ne_SELL_BUY]
        obtain ⟨cq91, kq91, q91a, q91b, q91c⟩ := isOf hZ e89 (show Exa Z h0 w_SELL "com/example/orderwarden/orderwarden/Side" from E_SELL)
        obtain ⟨_, _, ⟨T91, L91, k91, n91⟩, -, X91, ⟨Lc91, hQ91, l91, y91, z91⟩, st91⟩ := X89.virtualBack hx (y := (⟨"com/example/orderwarden/orderwarden/Side", "loosestLimit", "()J"⟩ : MethodName)) (z := (⟨"com/example/orderwarden/orderwarden/Side", "loosestLimit", "()J"⟩ : MethodName)) hown (mvT hZ (hw _ (List.mem_of_getElem? (i := 17) rfl))) (mvT hZ (hw _ (List.mem_of_getElem? (i := 18) rfl))) (notFace_of_selects (args := #[]) (mvT hZ (hw _ (List.mem_of_getElem? (i := 20) rfl)))) (mvT hZ (hw _ (List.mem_of_getElem? (i := 20) rfl))) (mvT hZ (hw _ (List.mem_of_getElem? (i := 19) rfl))) (by decide) (backOf (W := 1) (rm3 l Z ar0 hw [] w_SELL w_BUY w_SELL h0 n0 Z0 F  (0 : Int64) hr91) hZ (hw _ (List.mem_of_getElem? (i := 21) rfl)) (hw _ (List.mem_of_getElem? (i := 1) rfl)) (by decide) (by decide)) q91a q91c (g := (mkF m 178 #[.val (.long q0), .second, .val (.long q1), .second, .val (.int p2), .val (.ref w_SELL), .val (.ref w_BUY), .val (.int (1 : Int32)), .val (.int (0 : Int32)), .val (.int (1 : Int32)), .val (.int (0 : Int32)), .val (.int (1 : Int32))] [(.ref w_SELL), (.ref w_SELL)])) rfl (by rw [hml]; rfl) (Steps.refl _) (argsL := []) (rest := [(.ref w_SELL)]) (lenOf pd_0_178 rfl) rfl (by show 2 * 0 + _ ≤ _; exact Nat.le_of_eq rfl) (hb hby at_178) (fun _ _ => ⟨rfl, e89, (by decide : 0 + 0 ≤ _), (by decide : 0 + 0 ≤ _)⟩)
        dsimp only [Pt.U, Pt.locs, Pt.cells, Pt.slots] at X91 l91 y91 z91 st91 hQ91
        subst l91 y91 z91
        obtain ⟨rfl, N91q, e91⟩ := hQ91
        have N91 := Fr.app N89 N91q
        have hr92 : (1 : Int32) = v2 w_SELL (0 : Int64) (q1 &&& (9223372036854775807 : Int64)) w_BUY w_SELL := own_sell ne_SELL_BUY (own_and _).1
        obtain ⟨cq92, kq92, q92a, q92b, q92c⟩ := isOf hZ e91 (show Exa Z h0 w_SELL "com/example/orderwarden/orderwarden/Side" from E_SELL)
        obtain ⟨_, _, ⟨T92, L92, k92, n92⟩, -, X92, ⟨Lc92, hQ92, l92, y92, z92⟩, st92⟩ := X91.virtualBack hx (y := (⟨"com/example/orderwarden/orderwarden/Side", "accepts", "(JJ)Z"⟩ : MethodName)) (z := (⟨"com/example/orderwarden/orderwarden/Side", "accepts", "(JJ)Z"⟩ : MethodName)) hown (mvT hZ (hw _ (List.mem_of_getElem? (i := 11) rfl))) (mvT hZ (hw _ (List.mem_of_getElem? (i := 12) rfl))) (notFace_of_selects (args := #[]) (mvT hZ (hw _ (List.mem_of_getElem? (i := 14) rfl)))) (mvT hZ (hw _ (List.mem_of_getElem? (i := 14) rfl))) (mvT hZ (hw _ (List.mem_of_getElem? (i := 13) rfl))) (by decide) (backOf (W := 0) (rm2 l Z ar0 hw [] w_SELL (0 : Int64) (q1 &&& (9223372036854775807 : Int64)) w_BUY w_SELL h0 n0 Z0 F  (1 : Int32) hr92) hZ (hw _ (List.mem_of_getElem? (i := 15) rfl)) (hw _ (List.mem_of_getElem? (i := 1) rfl)) (by decide) (by decide)) q92a q92c (g := (mkF m 186 #[.val (.long q0), .second, .val (.long q1), .second, .val (.int p2), .val (.ref w_SELL), .val (.ref w_BUY), .val (.int (1 : Int32)), .val (.int (0 : Int32)), .val (.int (1 : Int32)), .val (.int (0 : Int32)), .val (.int (1 : Int32))] [(.long (q1 &&& (9223372036854775807 : Int64))), (.long (0 : Int64)), (.ref w_SELL)])) rfl (by rw [hml]; rfl) (Steps.refl _) (argsL := [(.long (0 : Int64)), (.long (q1 &&& (9223372036854775807 : Int64)))]) (rest := []) (lenOf pd_0_186 rfl) rfl (by show 2 * 0 + _ ≤ _; exact Nat.le_of_eq rfl) (hb hby at_186) (fun _ _ => ⟨rfl, e91, (by decide : 0 + 0 ≤ _), (by decide : 0 + 0 ≤ _)⟩)
        dsimp only [Pt.U, Pt.locs, Pt.cells, Pt.slots] at X92 l92 y92 z92 st92 hQ92
        subst l92 y92 z92
        obtain ⟨rfl, N92q, e92⟩ := hQ92
        have N92 := Fr.app N91 N92q
        obtain ⟨fs, hr, hrun, hended, hW, hsame⟩ := X92.leave (v := some (.int (1 : Int32))) (fun h => by rw [Bd.returns] at h; cases h)
        refine ⟨_, _, pre63 _ ?_, hrun, hended, _, _, rfl, ?_, ⟨_, rfl⟩, hW, hsame.mono (by decide) (by decide)⟩
        · show Steps p.tables e below (s₁.setTop (mkF m 4 #[.val (.long q0), .second, .val (.long q1), .second, .val (.int p2), .unset, .unset, .unset, .unset, .unset, .unset, .unset] [(.int (p2 &&& (1 : Int32)))])) _
          refine XS.ifNo X0.here hx rfl (hb hby at_4) rfl ((if0 _ _).trans (feq hc64).1) ?_
          show Steps p.tables e below (s₁.setTop (mkF m 7 #[.val (.long q0), .second, .val (.long q1), .second, .val (.int p2), .unset, .unset, .unset, .unset, .unset, .unset, .unset] [])) _
          refine st79 _ ?_
          show Steps p.tables e below (T79.setTop (mkF m 10 #[.val (.long q0), .second, .val (.long q1), .second, .val (.int p2), .unset, .unset, .unset, .unset, .unset, .unset, .unset] [(.ref w_SELL)])) _
          refine XS.goto X79.here hx rfl (pc0 := 10) (pc' := 16) rfl (hb hby at_10) (by decide) (by decide) ?_
          show Steps p.tables e below (T79.setTop (mkF m 16 #[.val (.long q0), .second, .val (.long q1), .second, .val (.int p2), .unset, .unset, .unset, .unset, .unset, .unset, .unset] [(.ref w_SELL)])) _
          refine XS.astore X79.here hx rfl (hb hby at_16) rfl rfl (l' := #[.val (.long q0), .second, .val (.long q1), .second, .val (.int p2), .val (.ref w_SELL), .unset, .unset, .unset, .unset, .unset, .unset]) rfl ?_
          show Steps p.tables e below (T79.setTop (mkF m 18 #[.val (.long q0), .second, .val (.long q1), .second, .val (.int p2), .val (.ref w_SELL), .unset, .unset, .unset, .unset, .unset, .unset] [])) _
          refine XS.aload X79.here hx rfl (hb hby at_18) rfl rfl ?_
          show Steps p.tables e below (T79.setTop (mkF m 20 #[.val (.long q0), .second, .val (.long q1), .second, .val (.int p2), .val (.ref w_SELL), .unset, .unset, .unset, .unset, .unset, .unset] [(.ref w_SELL)])) _
          refine st80.trans ?_
          show Steps p.tables e below (T80.setTop (mkF m 23 #[.val (.long q0), .second, .val (.long q1), .second, .val (.int p2), .val (.ref w_SELL), .unset, .unset, .unset, .unset, .unset, .unset] [(.ref w_BUY)])) _
          refine XS.astore X80.here hx rfl (hb hby at_23) rfl rfl (l' := #[.val (.long q0), .second, .val (.long q1), .second, .val (.int p2), .val (.ref w_SELL), .val (.ref w_BUY), .unset, .unset, .unset, .unset, .unset]) rfl ?_
          show Steps p.tables e below (T80.setTop (mkF m 25 #[.val (.long q0), .second, .val (.long q1), .second, .val (.int p2), .val (.ref w_SELL), .val (.ref w_BUY), .unset, .unset, .unset, .unset, .unset] [])) _
          refine XS.aload X80.here hx rfl (hb hby at_25) rfl rfl ?_
          show Steps p.tables e below (T80.setTop (mkF m 27 #[.val (.long q0), .second, .val (.long q1), .second, .val (.int p2), .val (.ref w_SELL), .val (.ref w_BUY), .unset, .unset, .unset, .unset, .unset] [(.ref w_SELL)])) _
          refine XS.lloadN X80.here hx rfl (hb hby at_27) rfl ?_
          show Steps p.tables e below (T80.setTop (mkF m 28 #[.val (.long q0), .second, .val (.long q1), .second, .val (.int p2), .val (.ref w_SELL), .val (.ref w_BUY), .unset, .unset, .unset, .unset, .unset] [(.long q0), (.ref w_SELL)])) _
          refine XS.lloadN X80.here hx rfl (hb hby at_28) rfl ?_
          show Steps p.tables e below (T80.setTop (mkF m 29 #[.val (.long q0), .second, .val (.long q1), .second, .val (.int p2), .val (.ref w_SELL), .val (.ref w_BUY), .unset, .unset, .unset, .unset, .unset] [(.long q1), (.long q0), (.ref w_SELL)])) _
          refine st81.trans ?_
          show Steps p.tables e below (T81.setTop (mkF m 32 #[.val (.long q0), .second, .val (.long q1), .second, .val (.int p2), .val (.ref w_SELL), .val (.ref w_BUY), .unset, .unset, .unset, .unset, .unset] [(.int (1 : Int32))])) _
          refine XS.istore X81.here hx rfl (hb hby at_32) rfl (l' := #[.val (.long q0), .second, .val (.long q1), .second, .val (.int p2), .val (.ref w_SELL), .val (.ref w_BUY), .val (.int (1 : Int32)), .unset, .unset, .unset, .unset]) rfl ?_
          show Steps p.tables e below (T81.setTop (mkF m 34 #[.val (.long q0), .second, .val (.long q1), .second, .val (.int p2), .val (.ref w_SELL), .val (.ref w_BUY), .val (.int (1 : Int32)), .unset, .unset, .unset, .unset] [])) _
          refine XS.aload X81.here hx rfl (hb hby at_34) rfl rfl ?_
          show Steps p.tables e below (T81.setTop (mkF m 36 #[.val (.long q0), .second, .val (.long q1), .second, .val (.int p2), .val (.ref w_SELL), .val (.ref w_BUY), .val (.int (1 : Int32)), .unset, .unset, .unset, .unset] [(.ref w_BUY)])) _
          refine XS.lloadN X81.here hx rfl (hb hby at_36) rfl ?_
          show Steps p.tables e below (T81.setTop (mkF m 37 #[.val (.long q0), .second, .val (.long q1), .second, .val (.int p2), .val (.ref w_SELL), .val (.ref w_BUY), .val (.int (1 : Int32)), .unset, .unset, .unset, .unset] [(.long q0), (.ref w_BUY)])) _
          refine XS.lloadN X81.here hx rfl (hb hby at_37) rfl ?_
          show Steps p.tables e below (T81.setTop (mkF m 38 #[.val (.long q0), .second, .val (.long q1), .second, .val (.int p2), .val (.ref w_SELL), .val (.ref w_BUY), .val (.int (1 : Int32)), .unset, .unset, .unset, .unset] [(.long q1), (.long q0), (.ref w_BUY)])) _
          refine st82.trans ?_
          show Steps p.tables e below (T82.setTop (mkF m 41 #[.val (.long q0), .second, .val (.long q1), .second, .val (.int p2), .val (.ref w_SELL), .val (.ref w_BUY), .val (.int (1 : Int32)), .unset, .unset, .unset, .unset] [(.int (0 : Int32))])) _
          refine XS.istore X82.here hx rfl (hb hby at_41) rfl (l' := #[.val (.long q0), .second, .val (.long q1), .second, .val (.int p2), .val (.ref w_SELL), .val (.ref w_BUY), .val (.int (1 : Int32)), .val (.int (0 : Int32)), .unset, .unset, .unset]) rfl ?_
          show Steps p.tables e below (T82.setTop (mkF m 43 #[.val (.long q0), .second, .val (.long q1), .second, .val (.int p2), .val (.ref w_SELL), .val (.ref w_BUY), .val (.int (1 : Int32)), .val (.int (0 : Int32)), .unset, .unset, .unset] [])) _
          refine XS.iload X82.here hx rfl (hb hby at_43) rfl ?_
          show Steps p.tables e below (T82.setTop (mkF m 45 #[.val (.long q0), .second, .val (.long q1), .second, .val (.int p2), .val (.ref w_SELL), .val (.ref w_BUY), .val (.int (1 : Int32)), .val (.int (0 : Int32)), .unset, .unset, .unset] [(.int (1 : Int32))])) _
          refine XS.ifYes X82.here hx rfl (pc0 := 45) (pc' := 53) rfl (hb hby at_45) rfl ((if0 _ _).trans (feq (by decide : ¬ ((1 : Int32) = (0 : Int32)))).2) (by decide) (by decide) ?_
          show Steps p.tables e below (T82.setTop (mkF m 53 #[.val (.long q0), .second, .val (.long q1), .second, .val (.int p2), .val (.ref w_SELL), .val (.ref w_BUY), .val (.int (1 : Int32)), .val (.int (0 : Int32)), .unset, .unset, .unset] [])) _
          refine XS.iconst X82.here hx rfl (hb hby at_53) ?_
          show Steps p.tables e below (T82.setTop (mkF m 54 #[.val (.long q0), .second, .val (.long q1), .second, .val (.int p2), .val (.ref w_SELL), .val (.ref w_BUY), .val (.int (1 : Int32)), .val (.int (0 : Int32)), .unset, .unset, .unset] [(.int (1 : Int32))])) _
          refine XS.goto X82.here hx rfl (pc0 := 54) (pc' := 58) rfl (hb hby at_54) (by decide) (by decide) ?_
          show Steps p.tables e below (T82.setTop (mkF m 58 #[.val (.long q0), .second, .val (.long q1), .second, .val (.int p2), .val (.ref w_SELL), .val (.ref w_BUY), .val (.int (1 : Int32)), .val (.int (0 : Int32)), .unset, .unset, .unset] [(.int (1 : Int32))])) _
          refine XS.istore X82.here hx rfl (hb hby at_58) rfl (l' := #[.val (.long q0), .second, .val (.long q1), .second, .val (.int p2), .val (.ref w_SELL), .val (.ref w_BUY), .val (.int (1 : Int32)), .val (.int (0 : Int32)), .val (.int (1 : Int32)), .unset, .unset]) rfl ?_
          show Steps p.tables e below (T82.setTop (mkF m 60 #[.val (.long q0), .second, .val (.long q1), .second, .val (.int p2), .val (.ref w_SELL), .val (.ref w_BUY), .val (.int (1 : Int32)), .val (.int (0 : Int32)), .val (.int (1 : Int32)), .unset, .unset] [])) _
          refine XS.iload X82.here hx rfl (hb hby at_60) rfl ?_
          show Steps p.tables e below (T82.setTop (mkF m 62 #[.val (.long q0), .second, .val (.long q1), .second, .val (.int p2), .val (.ref w_SELL), .val (.ref w_BUY), .val (.int (1 : Int32)), .val (.int (0 : Int32)), .val (.int (1 : Int32)), .unset, .unset] [(.int (1 : Int32))])) _
          refine XS.ifNo X82.here hx rfl (hb hby at_62) rfl ((if0 _ _).trans (feq (by decide : ¬ ((1 : Int32) = (0 : Int32)))).1) ?_
          show Steps p.tables e below (T82.setTop (mkF m 65 #[.val (.long q0), .second, .val (.long q1), .second, .val (.int p2), .val (.ref w_SELL), .val (.ref w_BUY), .val (.int (1 : Int32)), .val (.int (0 : Int32)), .val (.int (1 : Int32)), .unset, .unset] [])) _
          refine XS.iload X82.here hx rfl (hb hby at_65) rfl ?_
          show Steps p.tables e below (T82.setTop (mkF m 67 #[.val (.long q0), .second, .val (.long q1), .second, .val (.int p2), .val (.ref w_SELL), .val (.ref w_BUY), .val (.int (1 : Int32)), .val (.int (0 : Int32)), .val (.int (1 : Int32)), .unset, .unset] [(.int (1 : Int32))])) _
          refine XS.ifNo X82.here hx rfl (hb hby at_67) rfl ((if0 _ _).trans (feq (by decide : ¬ ((1 : Int32) = (0 : Int32)))).1) ?_
          show Steps p.tables e below (T82.setTop (mkF m 70 #[.val (.long q0), .second, .val (.long q1), .second, .val (.int p2), .val (.ref w_SELL), .val (.ref w_BUY), .val (.int (1 : Int32)), .val (.int (0 : Int32)), .val (.int (1 : Int32)), .unset, .unset] [])) _
          refine XS.iload X82.here hx rfl (hb hby at_70) rfl ?_
          show Steps p.tables e below (T82.setTop (mkF m 72 #[.val (.long q0), .second, .val (.long q1), .second, .val (.int p2), .val (.ref w_SELL), .val (.ref w_BUY), .val (.int (1 : Int32)), .val (.int (0 : Int32)), .val (.int (1 : Int32)), .unset, .unset] [(.int (0 : Int32))])) _
          refine XS.ifYes X82.here hx rfl (pc0 := 72) (pc' := 79) rfl (hb hby at_72) rfl ((if0 _ _).trans (teq (by decide : (0 : Int32) = (0 : Int32))).1) (by decide) (by decide) ?_
          show Steps p.tables e below (T82.setTop (mkF m 79 #[.val (.long q0), .second, .val (.long q1), .second, .val (.int p2), .val (.ref w_SELL), .val (.ref w_BUY), .val (.int (1 : Int32)), .val (.int (0 : Int32)), .val (.int (1 : Int32)), .unset, .unset] [])) _
          refine XS.iconst X82.here hx rfl (hb hby at_79) ?_
          show Steps p.tables e below (T82.setTop (mkF m 80 #[.val (.long q0), .second, .val (.long q1), .second, .val (.int p2), .val (.ref w_SELL), .val (.ref w_BUY), .val (.int (1 : Int32)), .val (.int (0 : Int32)), .val (.int (1 : Int32)), .unset, .unset] [(.int (0 : Int32))])) _
          refine XS.lloadN X82.here hx rfl (hb hby at_80) rfl ?_
          show Steps p.tables e below (T82.setTop (mkF m 81 #[.val (.long q0), .second, .val (.long q1), .second, .val (.int p2), .val (.ref w_SELL), .val (.ref w_BUY), .val (.int (1 : Int32)), .val (.int (0 : Int32)), .val (.int (1 : Int32)), .unset, .unset] [(.long q1), (.int (0 : Int32))])) _
          refine XS.lloadN X82.here hx rfl (hb hby at_81) rfl ?_
          show Steps p.tables e below (T82.setTop (mkF m 82 #[.val (.long q0), .second, .val (.long q1), .second, .val (.int p2), .val (.ref w_SELL), .val (.ref w_BUY), .val (.int (1 : Int32)), .val (.int (0 : Int32)), .val (.int (1 : Int32)), .unset, .unset] [(.long q0), (.long q1), (.int (0 : Int32))])) _
          refine XS.lcmp X82.here hx rfl (hb hby at_82) rfl ?_
          show Steps p.tables e below (T82.setTop (mkF m 83 #[.val (.long q0), .second, .val (.long q1), .second, .val (.int p2), .val (.ref w_SELL), .val (.ref w_BUY), .val (.int (1 : Int32)), .val (.int (0 : Int32)), .val (.int (1 : Int32)), .unset, .unset] [(.int (lcmpW q1 q0)), (.int (0 : Int32))])) _
          refine XS.ifYes X82.here hx rfl (pc0 := 83) (pc' := 90) rfl (hb hby at_83) rfl ((if0 _ _).trans (feq hk83).2) (by decide) (by decide) ?_
          show Steps p.tables e below (T82.setTop (mkF m 90 #[.val (.long q0), .second, .val (.long q1), .second, .val (.int p2), .val (.ref w_SELL), .val (.ref w_BUY), .val (.int (1 : Int32)), .val (.int (0 : Int32)), .val (.int (1 : Int32)), .unset, .unset] [(.int (0 : Int32))])) _
          refine XS.iconst X82.here hx rfl (hb hby at_90) ?_
          show Steps p.tables e below (T82.setTop (mkF m 91 #[.val (.long q0), .second, .val (.long q1), .second, .val (.int p2), .val (.ref w_SELL), .val (.ref w_BUY), .val (.int (1 : Int32)), .val (.int (0 : Int32)), .val (.int (1 : Int32)), .unset, .unset] [(.int (0 : Int32)), (.int (0 : Int32))])) _
          refine XS.icmpNo X82.here hx rfl (hb hby at_91) rfl (teq (by decide : (0 : Int32) = (0 : Int32))).2 ?_
          show Steps p.tables e below (T82.setTop (mkF m 94 #[.val (.long q0), .second, .val (.long q1), .second, .val (.int p2), .val (.ref w_SELL), .val (.ref w_BUY), .val (.int (1 : Int32)), .val (.int (0 : Int32)), .val (.int (1 : Int32)), .unset, .unset] [])) _
          refine XS.iconst X82.here hx rfl (hb hby at_94) ?_
          show Steps p.tables e below (T82.setTop (mkF m 95 #[.val (.long q0), .second, .val (.long q1), .second, .val (.int p2), .val (.ref w_SELL), .val (.ref w_BUY), .val (.int (1 : Int32)), .val (.int (0 : Int32)), .val (.int (1 : Int32)), .unset, .unset] [(.int (1 : Int32))])) _
          refine XS.goto X82.here hx rfl (pc0 := 95) (pc' := 99) rfl (hb hby at_95) (by decide) (by decide) ?_
          show Steps p.tables e below (T82.setTop (mkF m 99 #[.val (.long q0), .second, .val (.long q1), .second, .val (.int p2), .val (.ref w_SELL), .val (.ref w_BUY), .val (.int (1 : Int32)), .val (.int (0 : Int32)), .val (.int (1 : Int32)), .unset, .unset] [(.int (1 : Int32))])) _
          refine XS.istore X82.here hx rfl (hb hby at_99) rfl (l' := #[.val (.long q0), .second, .val (.long q1), .second, .val (.int p2), .val (.ref w_SELL), .val (.ref w_BUY), .val (.int (1 : Int32)), .val (.int (0 : Int32)), .val (.int (1 : Int32)), .unset, .unset]) rfl ?_
          show Steps p.tables e below (T82.setTop (mkF m 101 #[.val (.long q0), .second, .val (.long q1), .second, .val (.int p2), .val (.ref w_SELL), .val (.ref w_BUY), .val (.int (1 : Int32)), .val (.int (0 : Int32)), .val (.int (1 : Int32)), .unset, .unset] [])) _
          refine st84 _ ?_
          show Steps p.tables e below (T84.setTop (mkF m 104 #[.val (.long q0), .second, .val (.long q1), .second, .val (.int p2), .val (.ref w_SELL), .val (.ref w_BUY), .val (.int (1 : Int32)), .val (.int (0 : Int32)), .val (.int (1 : Int32)), .unset, .unset] [(.ref w_BUY)])) _
          refine XS.lloadN X84.here hx rfl (hb hby at_104) rfl ?_
          show Steps p.tables e below (T84.setTop (mkF m 105 #[.val (.long q0), .second, .val (.long q1), .second, .val (.int p2), .val (.ref w_SELL), .val (.ref w_BUY), .val (.int (1 : Int32)), .val (.int (0 : Int32)), .val (.int (1 : Int32)), .unset, .unset] [(.long q0), (.ref w_BUY)])) _
          refine XS.lloadN X84.here hx rfl (hb hby at_105) rfl ?_
          show Steps p.tables e below (T84.setTop (mkF m 106 #[.val (.long q0), .second, .val (.long q1), .second, .val (.int p2), .val (.ref w_SELL), .val (.ref w_BUY), .val (.int (1 : Int32)), .val (.int (0 : Int32)), .val (.int (1 : Int32)), .unset, .unset] [(.long q1), (.long q0), (.ref w_BUY)])) _
          refine st85.trans ?_
          show Steps p.tables e below (T85.setTop (mkF m 109 #[.val (.long q0), .second, .val (.long q1), .second, .val (.int p2), .val (.ref w_SELL), .val (.ref w_BUY), .val (.int (1 : Int32)), .val (.int (0 : Int32)), .val (.int (1 : Int32)), .unset, .unset] [(.int (0 : Int32))])) _
          refine XS.istore X85.here hx rfl (hb hby at_109) rfl (l' := #[.val (.long q0), .second, .val (.long q1), .second, .val (.int p2), .val (.ref w_SELL), .val (.ref w_BUY), .val (.int (1 : Int32)), .val (.int (0 : Int32)), .val (.int (1 : Int32)), .val (.int (0 : Int32)), .unset]) rfl ?_
          show Steps p.tables e below (T85.setTop (mkF m 111 #[.val (.long q0), .second, .val (.long q1), .second, .val (.int p2), .val (.ref w_SELL), .val (.ref w_BUY), .val (.int (1 : Int32)), .val (.int (0 : Int32)), .val (.int (1 : Int32)), .val (.int (0 : Int32)), .unset] [])) _
          refine st86 _ ?_
          show Steps p.tables e below (T86.setTop (mkF m 114 #[.val (.long q0), .second, .val (.long q1), .second, .val (.int p2), .val (.ref w_SELL), .val (.ref w_BUY), .val (.int (1 : Int32)), .val (.int (0 : Int32)), .val (.int (1 : Int32)), .val (.int (0 : Int32)), .unset] [(.ref w_SELL)])) _
          refine XS.lloadN X86.here hx rfl (hb hby at_114) rfl ?_
          show Steps p.tables e below (T86.setTop (mkF m 115 #[.val (.long q0), .second, .val (.long q1), .second, .val (.int p2), .val (.ref w_SELL), .val (.ref w_BUY), .val (.int (1 : Int32)), .val (.int (0 : Int32)), .val (.int (1 : Int32)), .val (.int (0 : Int32)), .unset] [(.long q0), (.ref w_SELL)])) _
          refine XS.lloadN X86.here hx rfl (hb hby at_115) rfl ?_
          show Steps p.tables e below (T86.setTop (mkF m 116 #[.val (.long q0), .second, .val (.long q1), .second, .val (.int p2), .val (.ref w_SELL), .val (.ref w_BUY), .val (.int (1 : Int32)), .val (.int (0 : Int32)), .val (.int (1 : Int32)), .val (.int (0 : Int32)), .unset] [(.long q1), (.long q0), (.ref w_SELL)])) _
          refine st87.trans ?_
          show Steps p.tables e below (T87.setTop (mkF m 119 #[.val (.long q0), .second, .val (.long q1), .second, .val (.int p2), .val (.ref w_SELL), .val (.ref w_BUY), .val (.int (1 : Int32)), .val (.int (0 : Int32)), .val (.int (1 : Int32)), .val (.int (0 : Int32)), .unset] [(.int (1 : Int32))])) _
          refine XS.istore X87.here hx rfl (hb hby at_119) rfl (l' := #[.val (.long q0), .second, .val (.long q1), .second, .val (.int p2), .val (.ref w_SELL), .val (.ref w_BUY), .val (.int (1 : Int32)), .val (.int (0 : Int32)), .val (.int (1 : Int32)), .val (.int (0 : Int32)), .val (.int (1 : Int32))]) rfl ?_
          show Steps p.tables e below (T87.setTop (mkF m 121 #[.val (.long q0), .second, .val (.long q1), .second, .val (.int p2), .val (.ref w_SELL), .val (.ref w_BUY), .val (.int (1 : Int32)), .val (.int (0 : Int32)), .val (.int (1 : Int32)), .val (.int (0 : Int32)), .val (.int (1 : Int32))] [])) _
          refine XS.iload X87.here hx rfl (hb hby at_121) rfl ?_
          show Steps p.tables e below (T87.setTop (mkF m 123 #[.val (.long q0), .second, .val (.long q1), .second, .val (.int p2), .val (.ref w_SELL), .val (.ref w_BUY), .val (.int (1 : Int32)), .val (.int (0 : Int32)), .val (.int (1 : Int32)), .val (.int (0 : Int32)), .val (.int (1 : Int32))] [(.int (1 : Int32))])) _
          refine XS.ifNo X87.here hx rfl (hb hby at_123) rfl ((if0 _ _).trans (feq (by decide : ¬ ((1 : Int32) = (0 : Int32)))).1) ?_
          show Steps p.tables e below (T87.setTop (mkF m 126 #[.val (.long q0), .second, .val (.long q1), .second, .val (.int p2), .val (.ref w_SELL), .val (.ref w_BUY), .val (.int (1 : Int32)), .val (.int (0 : Int32)), .val (.int (1 : Int32)), .val (.int (0 : Int32)), .val (.int (1 : Int32))] [])) _
          refine XS.iload X87.here hx rfl (hb hby at_126) rfl ?_
          show Steps p.tables e below (T87.setTop (mkF m 128 #[.val (.long q0), .second, .val (.long q1), .second, .val (.int p2), .val (.ref w_SELL), .val (.ref w_BUY), .val (.int (1 : Int32)), .val (.int (0 : Int32)), .val (.int (1 : Int32)), .val (.int (0 : Int32)), .val (.int (1 : Int32))] [(.int (1 : Int32))])) _
          refine st88 _ ?_
          show Steps p.tables e below (T88.setTop (mkF m 131 #[.val (.long q0), .second, .val (.long q1), .second, .val (.int p2), .val (.ref w_SELL), .val (.ref w_BUY), .val (.int (1 : Int32)), .val (.int (0 : Int32)), .val (.int (1 : Int32)), .val (.int (0 : Int32)), .val (.int (1 : Int32))] [(.ref w_BUY), (.int (1 : Int32))])) _
          refine XS.lloadN X88.here hx rfl (hb hby at_131) rfl ?_
          show Steps p.tables e below (T88.setTop (mkF m 132 #[.val (.long q0), .second, .val (.long q1), .second, .val (.int p2), .val (.ref w_SELL), .val (.ref w_BUY), .val (.int (1 : Int32)), .val (.int (0 : Int32)), .val (.int (1 : Int32)), .val (.int (0 : Int32)), .val (.int (1 : Int32))] [(.long q1), (.ref w_BUY), (.int (1 : Int32))])) _
          refine XS.lloadN X88.here hx rfl (hb hby at_132) rfl ?_
          show Steps p.tables e below (T88.setTop (mkF m 133 #[.val (.long q0), .second, .val (.long q1), .second, .val (.int p2), .val (.ref w_SELL), .val (.ref w_BUY), .val (.int (1 : Int32)), .val (.int (0 : Int32)), .val (.int (1 : Int32)), .val (.int (0 : Int32)), .val (.int (1 : Int32))] [(.long q0), (.long q1), (.ref w_BUY), (.int (1 : Int32))])) _
          refine st89.trans ?_
          show Steps p.tables e below (T89.setTop (mkF m 136 #[.val (.long q0), .second, .val (.long q1), .second, .val (.int p2), .val (.ref w_SELL), .val (.ref w_BUY), .val (.int (1 : Int32)), .val (.int (0 : Int32)), .val (.int (1 : Int32)), .val (.int (0 : Int32)), .val (.int (1 : Int32))] [(.int (1 : Int32)), (.int (1 : Int32))])) _
          refine XS.icmpNo X89.here hx rfl (hb hby at_136) rfl (teq (by decide : (1 : Int32) = (1 : Int32))).2 ?_
          show Steps p.tables e below (T89.setTop (mkF m 139 #[.val (.long q0), .second, .val (.long q1), .second, .val (.int p2), .val (.ref w_SELL), .val (.ref w_BUY), .val (.int (1 : Int32)), .val (.int (0 : Int32)), .val (.int (1 : Int32)), .val (.int (0 : Int32)), .val (.int (1 : Int32))] [])) _
          refine XS.iconst X89.here hx rfl (hb hby at_139) ?_
          show Steps p.tables e below (T89.setTop (mkF m 140 #[.val (.long q0), .second, .val (.long q1), .second, .val (.int p2), .val (.ref w_SELL), .val (.ref w_BUY), .val (.int (1 : Int32)), .val (.int (0 : Int32)), .val (.int (1 : Int32)), .val (.int (0 : Int32)), .val (.int (1 : Int32))] [(.int (1 : Int32))])) _
          refine XS.goto X89.here hx rfl (pc0 := 140) (pc' := 144) rfl (hb hby at_140) (by decide) (by decide) ?_
          show Steps p.tables e below (T89.setTop (mkF m 144 #[.val (.long q0), .second, .val (.long q1), .second, .val (.int p2), .val (.ref w_SELL), .val (.ref w_BUY), .val (.int (1 : Int32)), .val (.int (0 : Int32)), .val (.int (1 : Int32)), .val (.int (0 : Int32)), .val (.int (1 : Int32))] [(.int (1 : Int32))])) _
          refine XS.istore X89.here hx rfl (hb hby at_144) rfl (l' := #[.val (.long q0), .second, .val (.long q1), .second, .val (.int p2), .val (.ref w_SELL), .val (.ref w_BUY), .val (.int (1 : Int32)), .val (.int (0 : Int32)), .val (.int (1 : Int32)), .val (.int (0 : Int32)), .val (.int (1 : Int32))]) rfl ?_
          show Steps p.tables e below (T89.setTop (mkF m 146 #[.val (.long q0), .second, .val (.long q1), .second, .val (.int p2), .val (.ref w_SELL), .val (.ref w_BUY), .val (.int (1 : Int32)), .val (.int (0 : Int32)), .val (.int (1 : Int32)), .val (.int (0 : Int32)), .val (.int (1 : Int32))] [])) _
          refine XS.lloadN X89.here hx rfl (hb hby at_146) rfl ?_
          show Steps p.tables e below (T89.setTop (mkF m 147 #[.val (.long q0), .second, .val (.long q1), .second, .val (.int p2), .val (.ref w_SELL), .val (.ref w_BUY), .val (.int (1 : Int32)), .val (.int (0 : Int32)), .val (.int (1 : Int32)), .val (.int (0 : Int32)), .val (.int (1 : Int32))] [(.long q1)])) _
          refine XS.lloadN X89.here hx rfl (hb hby at_147) rfl ?_
          show Steps p.tables e below (T89.setTop (mkF m 148 #[.val (.long q0), .second, .val (.long q1), .second, .val (.int p2), .val (.ref w_SELL), .val (.ref w_BUY), .val (.int (1 : Int32)), .val (.int (0 : Int32)), .val (.int (1 : Int32)), .val (.int (0 : Int32)), .val (.int (1 : Int32))] [(.long q0), (.long q1)])) _
          refine XS.lcmp X89.here hx rfl (hb hby at_148) rfl ?_
          show Steps p.tables e below (T89.setTop (mkF m 149 #[.val (.long q0), .second, .val (.long q1), .second, .val (.int p2), .val (.ref w_SELL), .val (.ref w_BUY), .val (.int (1 : Int32)), .val (.int (0 : Int32)), .val (.int (1 : Int32)), .val (.int (0 : Int32)), .val (.int (1 : Int32))] [(.int (lcmpW q1 q0))])) _
          refine XS.ifYes X89.here hx rfl (pc0 := 149) (pc' := 169) rfl (hb hby at_149) rfl ((if0 _ _).trans (flt hk90).2.1) (by decide) (by decide) ?_
          show Steps p.tables e below (T89.setTop (mkF m 169 #[.val (.long q0), .second, .val (.long q1), .second, .val (.int p2), .val (.ref w_SELL), .val (.ref w_BUY), .val (.int (1 : Int32)), .val (.int (0 : Int32)), .val (.int (1 : Int32)), .val (.int (0 : Int32)), .val (.int (1 : Int32))] [])) _
          refine XS.iload X89.here hx rfl (hb hby at_169) rfl ?_
          show Steps p.tables e below (T89.setTop (mkF m 171 #[.val (.long q0), .second, .val (.long q1), .second, .val (.int p2), .val (.ref w_SELL), .val (.ref w_BUY), .val (.int (1 : Int32)), .val (.int (0 : Int32)), .val (.int (1 : Int32)), .val (.int (0 : Int32)), .val (.int (1 : Int32))] [(.int (1 : Int32))])) _
          refine XS.ifNo X89.here hx rfl (hb hby at_171) rfl ((if0 _ _).trans (feq (by decide : ¬ ((1 : Int32) = (0 : Int32)))).1) ?_
          show Steps p.tables e below (T89.setTop (mkF m 174 #[.val (.long q0), .second, .val (.long q1), .second, .val (.int p2), .val (.ref w_SELL), .val (.ref w_BUY), .val (.int (1 : Int32)), .val (.int (0 : Int32)), .val (.int (1 : Int32)), .val (.int (0 : Int32)), .val (.int (1 : Int32))] [])) _
          refine XS.aload X89.here hx rfl (hb hby at_174) rfl rfl ?_
          show Steps p.tables e below (T89.setTop (mkF m 176 #[.val (.long q0), .second, .val (.long q1), .second, .val (.int p2), .val (.ref w_SELL), .val (.ref w_BUY), .val (.int (1 : Int32)), .val (.int (0 : Int32)), .val (.int (1 : Int32)), .val (.int (0 : Int32)), .val (.int (1 : Int32))] [(.ref w_SELL)])) _
          refine XS.aload X89.here hx rfl (hb hby at_176) rfl rfl ?_
          show Steps p.tables e below (T89.setTop (mkF m 178 #[.val (.long q0), .second, .val (.long q1), .second, .val (.int p2), .val (.ref w_SELL), .val (.ref w_BUY), .val (.int (1 : Int32)), .val (.int (0 : Int32)), .val (.int (1 : Int32)), .val (.int (0 : Int32)), .val (.int (1 : Int32))] [(.ref w_SELL), (.ref w_SELL)])) _
          refine st91.trans ?_
          show Steps p.tables e below (T91.setTop (mkF m 181 #[.val (.long q0), .second, .val (.long q1), .second, .val (.int p2), .val (.ref w_SELL), .val (.ref w_BUY), .val (.int (1 : Int32)), .val (.int (0 : Int32)), .val (.int (1 : Int32)), .val (.int (0 : Int32)), .val (.int (1 : Int32))] [(.long (0 : Int64)), (.ref w_SELL)])) _
          refine XS.lloadN X91.here hx rfl (hb hby at_181) rfl ?_
          show Steps p.tables e below (T91.setTop (mkF m 182 #[.val (.long q0), .second, .val (.long q1), .second, .val (.int p2), .val (.ref w_SELL), .val (.ref w_BUY), .val (.int (1 : Int32)), .val (.int (0 : Int32)), .val (.int (1 : Int32)), .val (.int (0 : Int32)), .val (.int (1 : Int32))] [(.long q1), (.long (0 : Int64)), (.ref w_SELL)])) _
          refine X91.ldc2Long hx hown (mvT hZ (hw _ (List.mem_of_getElem? (i := 23) rfl))) (g := (mkF m 182 #[.val (.long q0), .second, .val (.long q1), .second, .val (.int p2), .val (.ref w_SELL), .val (.ref w_BUY), .val (.int (1 : Int32)), .val (.int (0 : Int32)), .val (.int (1 : Int32)), .val (.int (0 : Int32)), .val (.int (1 : Int32))] [(.long q1), (.long (0 : Int64)), (.ref w_SELL)])) rfl (hb hby at_182) _ ?_
          show Steps p.tables e below (T91.setTop (mkF m 185 #[.val (.long q0), .second, .val (.long q1), .second, .val (.int p2), .val (.ref w_SELL), .val (.ref w_BUY), .val (.int (1 : Int32)), .val (.int (0 : Int32)), .val (.int (1 : Int32)), .val (.int (0 : Int32)), .val (.int (1 : Int32))] [(.long (9223372036854775807 : Int64)), (.long q1), (.long (0 : Int64)), (.ref w_SELL)])) _
          refine XS.land X91.here hx rfl (hb hby at_185) rfl ?_
          show Steps p.tables e below (T91.setTop (mkF m 186 #[.val (.long q0), .second, .val (.long q1), .second, .val (.int p2), .val (.ref w_SELL), .val (.ref w_BUY), .val (.int (1 : Int32)), .val (.int (0 : Int32)), .val (.int (1 : Int32)), .val (.int (0 : Int32)), .val (.int (1 : Int32))] [(.long (q1 &&& (9223372036854775807 : Int64))), (.long (0 : Int64)), (.ref w_SELL)])) _
          refine st92.trans ?_
          show Steps p.tables e below (T92.setTop (mkF m 189 #[.val (.long q0), .second, .val (.long q1), .second, .val (.int p2), .val (.ref w_SELL), .val (.ref w_BUY), .val (.int (1 : Int32)), .val (.int (0 : Int32)), .val (.int (1 : Int32)), .val (.int (0 : Int32)), .val (.int (1 : Int32))] [(.int (1 : Int32))])) _
          refine XS.ifNo X92.here hx rfl (hb hby at_189) rfl ((if0 _ _).trans (feq (by decide : ¬ ((1 : Int32) = (0 : Int32)))).1) ?_
          show Steps p.tables e below (T92.setTop (mkF m 192 #[.val (.long q0), .second, .val (.long q1), .second, .val (.int p2), .val (.ref w_SELL), .val (.ref w_BUY), .val (.int (1 : Int32)), .val (.int (0 : Int32)), .val (.int (1 : Int32)), .val (.int (0 : Int32)), .val (.int (1 : Int32))] [])) _
          refine XS.iconst X92.here hx rfl (hb hby at_192) ?_
          show Steps p.tables e below (T92.setTop (mkF m 193 #[.val (.long q0), .second, .val (.long q1), .second, .val (.int p2), .val (.ref w_SELL), .val (.ref w_BUY), .val (.int (1 : Int32)), .val (.int (0 : Int32)), .val (.int (1 : Int32)), .val (.int (0 : Int32)), .val (.int (1 : Int32))] [(.int (1 : Int32))])) _
          refine XS.goto X92.here hx rfl (pc0 := 193) (pc' := 197) rfl (hb hby at_193) (by decide) (by decide) ?_
          show Steps p.tables e below (T92.setTop (mkF m 197 #[.val (.long q0), .second, .val (.long q1), .second, .val (.int p2), .val (.ref w_SELL), .val (.ref w_BUY), .val (.int (1 : Int32)), .val (.int (0 : Int32)), .val (.int (1 : Int32)), .val (.int (0 : Int32)), .val (.int (1 : Int32))] [(.int (1 : Int32))])) _
          refine XS.istore X92.here hx rfl (hb hby at_197) rfl (l' := #[.val (.long q0), .second, .val (.long q1), .second, .val (.int p2), .val (.ref w_SELL), .val (.ref w_BUY), .val (.int (1 : Int32)), .val (.int (0 : Int32)), .val (.int (1 : Int32)), .val (.int (0 : Int32)), .val (.int (1 : Int32))]) rfl ?_
          show Steps p.tables e below (T92.setTop (mkF m 199 #[.val (.long q0), .second, .val (.long q1), .second, .val (.int p2), .val (.ref w_SELL), .val (.ref w_BUY), .val (.int (1 : Int32)), .val (.int (0 : Int32)), .val (.int (1 : Int32)), .val (.int (0 : Int32)), .val (.int (1 : Int32))] [])) _
          refine XS.iload X92.here hx rfl (hb hby at_199) rfl ?_
          show Steps p.tables e below (T92.setTop (mkF m 201 #[.val (.long q0), .second, .val (.long q1), .second, .val (.int p2), .val (.ref w_SELL), .val (.ref w_BUY), .val (.int (1 : Int32)), .val (.int (0 : Int32)), .val (.int (1 : Int32)), .val (.int (0 : Int32)), .val (.int (1 : Int32))] [(.int (1 : Int32))])) _
          exact retN X92 hx (t := .boolean) Bd.returns (by simp) (hb hby at_201) hr
        · show Qp (some (.int (1 : Int32))) h0 n0 _ T92.heap _
          rw [e92]
          exact ⟨rfl, N92, rfl⟩

set_option maxRecDepth 65536 in
set_option maxHeartbeats 40000000 in
theorem comes_1 {Post : Tables → Env → Array Value → State → Outcome → State → Prop} (hpost : ∀ tb e args s v u, (limb_1_1.after args s (.returned v) u = true ∧ limb_1_2.after args s (.returned v) u = true ∧ True) → FrameEnd s (.returned v) u (Jvm.fieldLocs frame_1_writes args s ++ Jvm.arrayLocs frame_1_arrays args s ++ Jvm.staticLocs frame_1_statics s) 0 0 → Post tb e args s (.returned v) u) :
    ArmFor flags0 classFile x code maxLocals ret World_1 tables_1 room_1 Calls_1 rest_1 Pre_1 Post := by
  intro l hfl _ _ p e ha hc hk s m args below hf hA hF happ hP
  obtain ⟨hcalls, hrest, hpre⟩ := hP
  obtain ⟨-, -, -, hnamed, -, -, -, hat⟩ := (Spec.applies_iff hf).mp happ
  obtain ⟨hg, hn⟩ := and_e (Cond.before_iff.mp (show (Jvm.Cond.and given_1 narrow_1).before args s = true from hpre))
  obtain ⟨g0, hg⟩ := and_e hg
  obtain ⟨w0, w1, w2, rfl⟩ : ∃ w0 w1 w2 : Value, args = #[w0, w1, w2] := by
    have hs : args.size = 3 := by simpa [Cond.value, given_1] using g0
    obtain ⟨L⟩ := args
    match L, hs with
    | [w0, w1, w2], _ => exact ⟨w0, w1, w2, rfl⟩
  have hw := fun d (hd : d ∈ tables_1) => atoms_spec (ws := Jvm.Cond.code x code maxLocals ret :: tables_1) hat d (List.mem_cons_of_mem _ hd)
  obtain ⟨g1, hg⟩ := and_e hg
  obtain ⟨i0, ei0⟩ := isL_v g1
  obtain rfl : w0 = (.long i0) := Option.some.inj ei0
  obtain ⟨g2, hg⟩ := and_e hg
  obtain ⟨i1, ei1⟩ := isL_v g2
  obtain rfl : w1 = (.long i1) := Option.some.inj ei1
  obtain ⟨i2, ei2⟩ := is_v hg
  obtain rfl : w2 = (.int i2) := Option.some.inj ei2
  obtain ⟨c0, hn⟩ := and_e hn
  obtain ⟨c1, hn⟩ := and_e hn
  obtain ⟨c2, hn⟩ := and_e hn
  have c3 := hn
  obtain ⟨w_BUY, ev_BUY⟩ := exa_v c0
  have S_BUY := Sta.start ev_BUY (Or.inr ⟨(hw _ (List.mem_of_getElem? (i := 1) rfl)), (hw _ (List.mem_of_getElem? (i := 2) rfl))⟩)
  have E_BUY := Exa.start ev_BUY c0
  obtain ⟨w_SELL, ev_SELL⟩ := exa_v c1
  have S_SELL := Sta.start ev_SELL (Or.inr ⟨(hw _ (List.mem_of_getElem? (i := 1) rfl)), (hw _ (List.mem_of_getElem? (i := 10) rfl))⟩)
  have E_SELL := Exa.start ev_SELL c1
  have F_ordinal_SELL := own_fld ev_SELL c2
  have F_ordinal_BUY := own_fld ev_BUY c3
  have F : Fx s s.heap w_BUY w_SELL := ⟨S_BUY, E_BUY, S_SELL, E_SELL, F_ordinal_SELL, F_ordinal_BUY⟩

  obtain ⟨n, o, h1, h2, h3, _, L, rfl, ⟨rfl, N, -⟩, hq⟩ := rm0 l s _ hw tables_1 i0 i1 i2 w_BUY w_SELL s.heap s.heap.size (Nat.le_refl _) F  p e ha hc hk s m _ below hf ((Spec.applies_iff_loose hf).mp happ).1 ⟨rfl, State.Warmed39.refl s, rfl⟩ trivial
  refine ⟨n, _, h1, h2, h3, hpost _ _ _ _ _ _ ⟨Cond.after_iff.mpr rfl, Cond.after_iff.mpr (eq_i res_at (Term.int_eval (1)) rfl), trivial⟩ ⟨hq.1, hq.2.1, (hq.2.2.sift fun y hy => Or.inr (N y hy)).mono (by decide) (by decide)⟩⟩
theorem main_1_1 : Claimed_1_1 := comes_1 fun _ _ _ _ _ _ h hF => ⟨h.1, hF⟩
theorem main_1_2 : Claimed_1_2 := comes_1 fun _ _ _ _ _ _ h hF => ⟨h.2.1, hF⟩
end Jvm.Pilot.@@N@@
namespace Jvm.Pilot.@@N@@
open Jvm Jvm.ClassFile Sem Op Lib Jvm.Free Jvm.Stand Jvm.Pilot.@@N@@.Jvm.D
/-! MADE BY PROGRAM (witnessworld.py) out of the Statement's table words and the real class files: 12 classes; the members and pool entries that the words name. The judged class is class 1, her method 1. -/
namespace start1
open Jvm.ClassFile
def u (s : String) : CpInfo := .utf8 (stringToUtf16 s)
/-- a pool by its gaps: so many unusable entries, then the entry; so many at the end -/
def gap : Nat → List CpInfo → List CpInfo
  | 0, r => r
  | n + 1, r => .unusable :: gap n r
def poolList (es : List (Nat × CpInfo)) (last : Nat) : List CpInfo := es.foldr (fun e r => gap e.1 (e.2 :: r)) (gap last [])
def pool (es : List (Nat × CpInfo)) (last : Nat) : Array CpInfo := ⟨poolList es last⟩
def fileOf (pool : Array CpInfo) (this : Nat) (attrs : Array Attribute := #[]) (ms : Array MethodInfo := #[]) (fl : Nat := 33) (sup : Nat := 0) (ifs : Array Nat := #[]) (fds : Array FieldInfo := #[]) : ClassFile where
  minorVersion := 0
  majorVersion := 65
  constantPool := pool
  accessFlags := fl
  thisClass := this
  superClass := sup
  interfaces := ifs
  fields := fds
  methods := ms
  attributes := attrs
def plain (name : String) (sup : Option ClassId) : Class where
  name := name
  kind := .ordinary
  loader := none
  accessFlags := 33
  super := sup
  interfaces := #[]
  cf := none
  fields := #[]
  methods := #[]
  instanceTypes := #[]
  staticTypes := #[]
  resolved := #[]
  callSites := []
  init := .initialized
  statics := none
  mirror := none

def pool0 : Array CpInfo := pool [(5, u "<init>"), (0, u "()V"), (1, .class_ 10), (1, u "java/lang/Object")] 113

def k0m0 : Method := { name := "<init>", desc := "()V", sig := { parameters := [], returnType := none }, accessFlags := 1, code := none }
/-- java/lang/Object -/
def k0 : Class := { plain "java/lang/Object" none with
  accessFlags := 33
  interfaces := #[]
  cf := some (fileOf pool0 8 #[] #[{ accessFlags := 1, nameIndex := 5, descriptorIndex := 6, attributes := #[] }] 33 0 #[] #[])
  fields := #[]
  methods := #[k0m0]
  instanceTypes := #[]
  staticTypes := #[]
  resolved := Array.replicate 124 none
  statics := none }

def pool1 : Array CpInfo := pool [(2, .class_ 4), (1, u "java/lang/Object"), (0, u "<init>"), (0, u "()V"), (0, .fieldref 8 9), (0, .class_ 10), (0, .nameAndType 11 12), (0, u "com/example/orderwarden/orderwarden/Side"), (0, u "SELL"), (0, u "Lcom/example/orderwarden/orderwarden/Side;"), (0, .fieldref 8 14), (0, .nameAndType 15 12), (0, u "BUY"), (0, .methodref 8 17), (0, .nameAndType 18 19), (0, u "opposite"), (0, u "()Lcom/example/orderwarden/orderwarden/Side;"), (0, .methodref 8 21), (0, .nameAndType 22 23), (0, u "accepts"), (0, u "(JJ)Z"), (0, .methodref 8 25), (0, .nameAndType 26 27), (0, u "loosestLimit"), (0, u "()J"), (2, .long 9223372036854775807), (1, .class_ 33), (0, u "com/example/orderwarden/orderwarden/SideAcceptsPinLaw"), (2, u "law"), (0, u "(JJI)Z")] 3

def k1m0 : Method := { name := "<init>", desc := "()V", sig := { parameters := [], returnType := none }, accessFlags := 1, code := none }
def k1c1 : Code := { maxStack := 7, maxLocals := 12, code := code, exceptionTable := #[], attributes := #[] }
def k1m1 : Method := { name := "law", desc := "(JJI)Z", sig := { parameters := [.long, .long, .int], returnType := some .boolean }, accessFlags := 9, code := some k1c1 }
/-- com/example/orderwarden/orderwarden/SideAcceptsPinLaw -/
def k1 : Class := { plain "com/example/orderwarden/orderwarden/SideAcceptsPinLaw" (some 0) with
  accessFlags := 49
  interfaces := #[]
  cf := some (fileOf pool1 32 #[] #[{ accessFlags := 1, nameIndex := 5, descriptorIndex := 6, attributes := #[] }, { accessFlags := 9, nameIndex := 36, descriptorIndex := 37, attributes := #[] }] 49 2 #[] #[])
  fields := #[]
  methods := #[k1m0, k1m1]
  instanceTypes := #[]
  staticTypes := #[]
  resolved := Array.replicate 41 none
  statics := none }

def pool2 : Array CpInfo := pool [(1, .class_ 2), (0, u "java/lang/constant/Constable"), (0, .class_ 4), (0, u "java/lang/Object")] 6

/-- java/lang/constant/Constable -/
def k2 : Class := { plain "java/lang/constant/Constable" (some 0) with
  accessFlags := 1537
  interfaces := #[]
  cf := some (fileOf pool2 1 #[] #[] 1537 3 #[] #[])
  fields := #[]
  methods := #[]
  instanceTypes := #[]
  staticTypes := #[]
  resolved := Array.replicate 11 none
  statics := none }

def pool3 : Array CpInfo := pool [(1, .class_ 2), (0, u "java/lang/Comparable"), (0, .class_ 4), (0, u "java/lang/Object")] 7

/-- java/lang/Comparable -/
def k3 : Class := { plain "java/lang/Comparable" (some 0) with
  accessFlags := 1537
  interfaces := #[]
  cf := some (fileOf pool3 1 #[] #[] 1537 3 #[] #[])
  fields := #[]
  methods := #[]
  instanceTypes := #[]
  staticTypes := #[]
  resolved := Array.replicate 12 none
  statics := none }

def pool4 : Array CpInfo := pool [(1, .class_ 2), (0, u "java/io/Serializable"), (0, .class_ 4), (0, u "java/lang/Object")] 2

/-- java/io/Serializable -/
def k4 : Class := { plain "java/io/Serializable" (some 0) with
  accessFlags := 1537
  interfaces := #[]
  cf := some (fileOf pool4 1 #[] #[] 1537 3 #[] #[])
  fields := #[]
  methods := #[]
  instanceTypes := #[]
  staticTypes := #[]
  resolved := Array.replicate 7 none
  statics := none }

def pool5 : Array CpInfo := pool [(2, .class_ 4), (1, u "java/lang/Enum"), (0, u "name"), (0, u "Ljava/lang/String;"), (2, u "ordinal"), (0, u "I"), (1, .class_ 14), (1, u "java/lang/Object"), (4, u "hash"), (86, .class_ 108), (1, u "java/lang/Enum$EnumDesc"), (2, .class_ 112), (0, u "java/lang/constant/Constable"), (0, .class_ 114), (0, u "java/lang/Comparable"), (0, .class_ 116), (0, u "java/io/Serializable")] 87

/-- java/lang/Enum -/
def k5 : Class := { plain "java/lang/Enum" (some 0) with
  accessFlags := 1057
  interfaces := #[2, 3, 4]
  cf := some (fileOf pool5 2 #[.nestMembers #[106]] #[] 1057 12 #[111, 113, 115] #[{ accessFlags := 18, nameIndex := 5, descriptorIndex := 6, attributes := #[] }, { accessFlags := 18, nameIndex := 9, descriptorIndex := 10, attributes := #[] }, { accessFlags := 2, nameIndex := 19, descriptorIndex := 10, attributes := #[] }])
  fields := #[{ name := "name", type := (.object "java/lang/String"), accessFlags := 18, slot := 0, constantValue := 0 }, { name := "ordinal", type := .int, accessFlags := 18, slot := 1, constantValue := 0 }, { name := "hash", type := .int, accessFlags := 2, slot := 2, constantValue := 0 }]
  methods := #[]
  instanceTypes := #[(.object "java/lang/String"), .int, .int]
  staticTypes := #[]
  resolved := Array.replicate 204 none
  statics := none }

def pool6 : Array CpInfo := pool [(1, .class_ 2), (0, u "com/example/orderwarden/orderwarden/Side"), (0, .fieldref 1 4), (0, .nameAndType 5 6), (0, u "BUY"), (0, u "Lcom/example/orderwarden/orderwarden/Side;"), (0, .fieldref 1 8), (0, .nameAndType 9 6), (0, u "SELL"), (2, u "$VALUES"), (0, u "[Lcom/example/orderwarden/orderwarden/Side;"), (6, .class_ 22), (1, u "java/lang/Enum"), (8, .long 9223372036854775807), (25, u "opposite"), (0, u "()Lcom/example/orderwarden/orderwarden/Side;"), (1, u "loosestLimit"), (0, u "()J"), (0, u "accepts"), (0, u "(JJ)Z")] 6

def k6c0 : Code := { maxStack := 2, maxLocals := 1, code := prog_47_method_4_code, exceptionTable := #[], attributes := #[] }
def k6m0 : Method := { name := "opposite", desc := "()Lcom/example/orderwarden/orderwarden/Side;", sig := { parameters := [], returnType := some (.object "com/example/orderwarden/orderwarden/Side") }, accessFlags := 1, code := some k6c0 }
def k6c1 : Code := { maxStack := 2, maxLocals := 1, code := prog_47_method_5_code, exceptionTable := #[], attributes := #[] }
def k6m1 : Method := { name := "loosestLimit", desc := "()J", sig := { parameters := [], returnType := some .long }, accessFlags := 1, code := some k6c1 }
def k6c2 : Code := { maxStack := 4, maxLocals := 5, code := prog_47_method_6_code, exceptionTable := #[], attributes := #[] }
def k6m2 : Method := { name := "accepts", desc := "(JJ)Z", sig := { parameters := [.long, .long], returnType := some .boolean }, accessFlags := 1, code := some k6c2 }
/-- com/example/orderwarden/orderwarden/Side -/
def k6 : Class := { plain "com/example/orderwarden/orderwarden/Side" (some 5) with
  accessFlags := 16433
  interfaces := #[]
  cf := some (fileOf pool6 1 #[] #[{ accessFlags := 1, nameIndex := 57, descriptorIndex := 58, attributes := #[] }, { accessFlags := 1, nameIndex := 60, descriptorIndex := 61, attributes := #[] }, { accessFlags := 1, nameIndex := 62, descriptorIndex := 63, attributes := #[] }] 16433 20 #[] #[{ accessFlags := 16409, nameIndex := 5, descriptorIndex := 6, attributes := #[] }, { accessFlags := 16409, nameIndex := 9, descriptorIndex := 6, attributes := #[] }, { accessFlags := 4122, nameIndex := 12, descriptorIndex := 13, attributes := #[] }])
  fields := #[{ name := "BUY", type := (.object "com/example/orderwarden/orderwarden/Side"), accessFlags := 16409, slot := 0, constantValue := 0 }, { name := "SELL", type := (.object "com/example/orderwarden/orderwarden/Side"), accessFlags := 16409, slot := 1, constantValue := 0 }, { name := "$VALUES", type := (.array (.object "com/example/orderwarden/orderwarden/Side")), accessFlags := 4122, slot := 2, constantValue := 0 }]
  methods := #[k6m0, k6m1, k6m2]
  instanceTypes := #[(.object "java/lang/String"), .int, .int]
  staticTypes := #[(.object "com/example/orderwarden/orderwarden/Side"), (.object "com/example/orderwarden/orderwarden/Side"), (.array (.object "com/example/orderwarden/orderwarden/Side"))]
  resolved := Array.replicate 70 none
  statics := some 0 }

def pool7 : Array CpInfo := pool [(1, u "java/lang/Cloneable"), (0, .class_ 1), (0, u "java/lang/Object"), (0, .class_ 3)] 3

/-- java/lang/Cloneable -/
def k7 : Class := { plain "java/lang/Cloneable" (some 0) with
  accessFlags := 1537
  interfaces := #[]
  cf := some (fileOf pool7 2 #[] #[] 1537 4 #[] #[])
  fields := #[]
  methods := #[]
  instanceTypes := #[]
  staticTypes := #[]
  resolved := Array.replicate 8 none
  statics := none }

/-- the primitive byte -/
def k8 : Class := { plain "byte" none with kind := .primitive 'B', accessFlags := 0x411 }
/-- [B -/
def k9 : Class := { plain "[B" (some 0) with kind := .array 8 .byte, interfaces := #[7, 4], accessFlags := 1041 }

/-- the primitive int -/
def k10 : Class := { plain "int" none with kind := .primitive 'I', accessFlags := 0x411 }
/-- [I -/
def k11 : Class := { plain "[I" (some 0) with kind := .array 10 .int, interfaces := #[7, 4], accessFlags := 1041 }

def heap : Heap := #[{ cls := 6, slots := #[.ref 1, .ref 2, .null], vm := .statics 6 },
  { cls := 6, slots := #[.null, .int 0, .int 0], vm := .none },
  { cls := 6, slots := #[.null, .int 1, .int 0], vm := .none }]
def classes : Array Class := #[k0, k1, k2, k3, k4, k5, k6, k7, k8, k9, k10, k11]
def interned : List (Array UInt16 × Addr) := []
def slotsUsed : Nat := 9
def theMethod : MethodId := ⟨1, 1⟩
def args0 : Array Value := #[.long 5, .long 6, .int 1]
def aboutOver (below : List Frame) : State where
  vm := { classes := classes, interned := interned.toArray }
  heap := heap
  slotsUsed := slotsUsed
  threads := #[{ frames := .invoking theMethod args0 :: below }]
def below0 : List Frame := [.native { method := ⟨0, 0⟩, args := #[] }]
def about1 : State := aboutOver below0
def p0 : Program := .bare "" "" ""
def e0 : Env := launch0.env 0 0 0
theorem w_frames : about1.frames = Frame.invoking theMethod args0 :: below0 := rfl
set_option maxRecDepth 65536 in
theorem w_args : argsFit about1.vm theMethod args0 = true := by decide +kernel
set_option maxRecDepth 65536 in
theorem w_heap : heapFits about1 = true := by decide +kernel
set_option maxRecDepth 65536 in
theorem w_runnable : about1.curStatus? = some .runnable := by decide +kernel
set_option maxRecDepth 65536 in
theorem w_alone : about1.alone = true := by decide +kernel
set_option maxRecDepth 65536 in
theorem w_named : about1.methodNamed? x = some theMethod := by decide +kernel
set_option maxRecDepth 65536 in
theorem w_hears : about1.hears theMethod below0 = true := by decide +kernel
set_option maxRecDepth 65536 in
theorem w_ripe : about1.ripe theMethod args0 below0 = true := by decide +kernel
theorem w_running : about1.status = .running := rfl
set_option maxRecDepth 65536 in
theorem w_room : about1.hasRoom e0.platform room_1 = true :=
  launch0.hasRoom_least _ room_1 (by decide +kernel) (by decide +kernel) (by decide +kernel) (by decide +kernel) (by decide +kernel) (by decide +kernel)
theorem allAtoms_all (ts : List Jvm.Cond) (a : Array Jvm.Value) (st : Jvm.State) : (allAtoms ts).before a st = ts.all (fun c => c.before a st) := by
  induction ts with
  | nil => rfl
  | cons c t ih =>
    show (Jvm.Cond.and c (allAtoms t)).before a st = _
    rw [Jvm.Cond.before_and, ih, List.all_cons]
def words1 : List Jvm.Cond := Jvm.Cond.code x code maxLocals ret :: tables_1
/-- a 'code' word, met by the world's own term for the bytes: nothing is compared byte by byte -/
theorem code_word {y : MethodName} {bytes : ByteArray} {mx : Nat} {rt : Option FieldType} {a : Array Value} {s : State} {m : MethodId} {meth : Method} {c : Code} (h1 : s.methodNamed? y = some m) (h2 : s.vm.method? m = some meth) (h3 : meth.code = some c) (h4 : c.code = bytes)
    (h5 : (c.maxLocals == mx && c.exceptionTable.isEmpty && decide (c.maxStack ≤ mostOperands) && decide (meth.sig.returnType = rt) && !meth.locks && decide (parseMethodDescriptor y.desc = some meth.sig)) = true) : (Jvm.Cond.code y bytes mx rt).before a s = true := by
  simp only [Bool.and_eq_true, beq_iff_eq, Bool.not_eq_true', decide_eq_true_eq] at h5
  obtain ⟨⟨⟨⟨⟨g1, g2⟩, g3⟩, g4⟩, g5⟩, g6⟩ := h5
  simp [Cond.before, Cond.holds, Cond.value, h1, h2, h3, h4, g1, g2, g3, g4, g5, g6]
def isCode : Jvm.Cond → Bool
  | .code _ _ _ _ => true
  | _ => false
theorem all_split {L : List Jvm.Cond} {P : Jvm.Cond → Bool} (h1 : L.all (fun c => isCode c || P c) = true) (h2 : ∀ c ∈ L.filter isCode, P c = true) : L.all P = true := by
  refine List.all_eq_true.mpr fun c hc => ?_
  have h := List.all_eq_true.mp h1 c hc
  rcases Bool.eq_false_or_eq_true (isCode c) with hi | hi
  · exact h2 c (List.mem_filter.mpr ⟨hc, hi⟩)
  · simpa [hi] using h
set_option maxRecDepth 65536 in
theorem w_c0 : (Jvm.Cond.code x code maxLocals ret).before args0 about1 = true := code_word (m := ⟨1, 1⟩) (meth := k1m1) (c := k1c1) (by decide +kernel) rfl rfl rfl (by decide +kernel)
set_option maxRecDepth 65536 in
theorem w_c1 : (Jvm.Cond.code ({ cls := "com/example/orderwarden/orderwarden/Side", name := "opposite", desc := "()Lcom/example/orderwarden/orderwarden/Side;" } : Jvm.MethodName) prog_47_method_4_code (1 : Nat) (Option.some (Jvm.ClassFile.FieldType.object "com/example/orderwarden/orderwarden/Side"))).before args0 about1 = true := code_word (m := ⟨6, 0⟩) (meth := k6m0) (c := k6c0) (by decide +kernel) rfl rfl rfl (by decide +kernel)
set_option maxRecDepth 65536 in
theorem w_c2 : (Jvm.Cond.code ({ cls := "com/example/orderwarden/orderwarden/Side", name := "accepts", desc := "(JJ)Z" } : Jvm.MethodName) prog_47_method_6_code (5 : Nat) (Option.some Jvm.ClassFile.FieldType.boolean)).before args0 about1 = true := code_word (m := ⟨6, 2⟩) (meth := k6m2) (c := k6c2) (by decide +kernel) rfl rfl rfl (by decide +kernel)
set_option maxRecDepth 65536 in
theorem w_c3 : (Jvm.Cond.code ({ cls := "com/example/orderwarden/orderwarden/Side", name := "loosestLimit", desc := "()J" } : Jvm.MethodName) prog_47_method_5_code (1 : Nat) (Option.some Jvm.ClassFile.FieldType.long)).before args0 about1 = true := code_word (m := ⟨6, 1⟩) (meth := k6m1) (c := k6c1) (by decide +kernel) rfl rfl rfl (by decide +kernel)
def codes1 : List Jvm.Cond := [Jvm.Cond.code x code maxLocals ret, Jvm.Cond.code ({ cls := "com/example/orderwarden/orderwarden/Side", name := "opposite", desc := "()Lcom/example/orderwarden/orderwarden/Side;" } : Jvm.MethodName) prog_47_method_4_code (1 : Nat) (Option.some (Jvm.ClassFile.FieldType.object "com/example/orderwarden/orderwarden/Side")), Jvm.Cond.code ({ cls := "com/example/orderwarden/orderwarden/Side", name := "accepts", desc := "(JJ)Z" } : Jvm.MethodName) prog_47_method_6_code (5 : Nat) (Option.some Jvm.ClassFile.FieldType.boolean), Jvm.Cond.code ({ cls := "com/example/orderwarden/orderwarden/Side", name := "loosestLimit", desc := "()J" } : Jvm.MethodName) prog_47_method_5_code (1 : Nat) (Option.some Jvm.ClassFile.FieldType.long)]
set_option maxRecDepth 65536 in
theorem codes_eq : words1.filter isCode = codes1 := rfl
theorem w_codes : ∀ c ∈ words1.filter isCode, c.before args0 about1 = true := by
  rw [codes_eq]
  intro c hc
  simp only [codes1, List.mem_cons, List.not_mem_nil, or_false] at hc
  rcases hc with rfl | rfl | rfl | rfl
  · exact w_c0
  · exact w_c1
  · exact w_c2
  · exact w_c3
set_option maxRecDepth 65536 in
theorem w_t1 : (words1.take 24).all (fun c => isCode c || c.before args0 about1) = true := by decide +kernel
set_option maxRecDepth 65536 in
theorem w_t2 : (words1.drop 24).all (fun c => isCode c || c.before args0 about1) = true := by decide +kernel
theorem w_tables : (allAtoms (Jvm.Cond.code x code maxLocals ret :: tables_1)).before args0 about1 = true := by
  rw [allAtoms_all]
  show words1.all (fun c => c.before args0 about1) = true
  refine all_split ?_ w_codes
  rw [← List.take_append_drop 24 words1, List.all_append, w_t1, w_t2]
  rfl
set_option maxRecDepth 65536 in
theorem w_case : (Jvm.Cond.and given_1 narrow_1).before args0 about1 = true := by decide +kernel
theorem w_applies : (headSpec (Jvm.Cond.code x code maxLocals ret :: tables_1) room_1).applies x e0.platform about1 = true :=
  (Spec.applies_iff w_frames).mpr ⟨w_running, w_runnable, w_alone, w_named, w_hears, w_ripe, w_room, w_tables⟩
theorem atStart : AtStart classFile x code maxLocals ret World_1 tables_1 room_1 Calls_1 rest_1 Pre_1 launch0 p0 e0 about1 theMethod args0 below0 :=
  ⟨lists_1, trivial, launch0.admits_env _ _ _, launch0.least_env, fairChoices_fair.cas, fairChoices_fair.clock, w_frames, w_args, w_heap, w_applies, trivial, trivial, w_case⟩
end start1
theorem witness_1 : WitnessClaimed_1 := ⟨start1.p0, start1.e0, start1.about1, start1.theMethod, start1.args0, start1.below0, start1.atStart⟩
end Jvm.Pilot.@@N@@
