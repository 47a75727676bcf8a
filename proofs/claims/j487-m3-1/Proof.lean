import JvmDerived
import JvmDerived.Pilot.@@N@@Statement
import JvmDerived.Pilot.@@N@@Code
set_option linter.unusedVariables false
set_option linter.unusedSimpArgs false
@@BLOCK:NumsL.lean.txt@@
namespace Jvm.RoadKit
open Sem ClassFile Op Lib Jvm.Stand Jvm.Free Jvm.LawKit
section New
variable {p : Program} {l : Launch} {e : Env} {R : Room} {s : State} {m : MethodId} {args : Array Value} {below : List Frame} {meth : Method} {c : Code} {T : State} {locs : List Loc} {cells slots : Nat}
theorem retI (X : Stand p l e R s m args below meth c T locs cells slots) (hx : p.tables.exec = Jvm.exec) {pc : Nat} {Ls : Array Slot} {z : Int32} {rest : List Value} (hret : meth.sig.returnType = some .int) (hd : decode c.code pc = .ok (.ireturn, 1)) {fs : List Frame}
    (hl : ∀ (f : JFrame) (acts : List Action), f.method = m → f.locked = none → f.entered = [] → (doReturn e (T.setTop f) acts (some (.int z))).1 = T.setFrames fs) : Steps p.tables e below (T.setTop (mkF m pc Ls (.int z :: rest))) (T.setFrames fs) := by
  have hm' : T.vm.method? m = some meth := X.method'
  have hn : narrow .int (.int z) = .int z := rfl
  show Steps p.tables e below (T.setTop { method := m, pc := pc, locals := Ls, stack := _ :: rest, locked := none }) _
  jvm_step X.here [X.here.top, hx, hd, hm', hret, hn]
  first | (intro acts; rw [hl _ acts rfl rfl rfl]) | rw [hl _ _ rfl rfl rfl]
  exact Steps.refl _
end New
end Jvm.RoadKit
namespace Jvm.Pilot.@@N@@
open Jvm Jvm.ClassFile Sem Op Lib Jvm.Free Jvm.Stand Jvm.LawKit Jvm.RoadKit Bundle Jvm.Pilot.@@N@@.Jvm.D
/-- what a body that writes nothing leaves -/
def Qp (r : Option Value) (h0 : Heap) (n0 : Nat) (v : Option Value) (h : Heap) (L : List Loc) : Prop := v = r ∧ Fr n0 L ∧ h = h0
theorem own_fld {args : Array Value} {s : State} {t : Term} {C n d : String} {x : Addr} {k : Int32} (ht : t.eval args s none [] s = some (.ref x)) (h : (Cond.eq (.field t C n d) (.int k)).value args s none s [] = some true) : Fld s s.heap x C n d (.int k) := by
  obtain ⟨u, v, a1, a2, k1, -⟩ := cmp_v (Or.inl h)
  have a3 : (Term.int k).eval args s none [] s = some (.int k) := rfl
  cases a3.symm.trans a2
  have a4 : u = .int k := by
    cases u <;> simp [Cond.value, a1, a3] at h ⊢
    exact h
  subst a4
  rw [fld_at ht] at a1
  exact Fld.start a1
theorem own_fld_inj {Z : State} {h : Heap} {a : Addr} {C n d : String} {v w : Value} (F : Fld Z h a C n d v) (G : Fld Z h a C n d w) : v = w := by
  obtain ⟨c1, cf1, k1, i1, f1, h1, h2, -, -, -, -, h7⟩ := F
  obtain ⟨c2, cf2, k2, i2, f2, g1, g2, -, -, -, -, g7⟩ := G
  cases h1.symm.trans g1
  cases h2.symm.trans g2
  exact Option.some.inj (h7.symm.trans g7)
theorem own_fld_ne {Z : State} {h : Heap} {a b : Addr} {C n d : String} {v w : Int32} (F : Fld Z h a C n d (.int v)) (G : Fld Z h b C n d (.int w)) (hn : ¬ v = w) : a ≠ b := fun q => by
  subst q
  exact hn (Value.int.inj (own_fld_inj F G))
theorem nar_ref (t : FieldType) (w : Value) (h : w.isRef = true) : narrow t w = w := by
  rcases ref_cases h with rfl | ⟨a, rfl⟩ <;> cases t <;> rfl

def Fx (Z : State) (h : Heap) (w_BUY : Addr) (w_SELL : Addr) : Prop := (Sta Z h "com/example/orderwarden/orderwarden/Side" "BUY" "Lcom/example/orderwarden/orderwarden/Side;" (.ref w_BUY)) ∧ (Exa Z h w_BUY "com/example/orderwarden/orderwarden/Side") ∧ (Sta Z h "com/example/orderwarden/orderwarden/Side" "SELL" "Lcom/example/orderwarden/orderwarden/Side;" (.ref w_SELL)) ∧ (Exa Z h w_SELL "com/example/orderwarden/orderwarden/Side") ∧ (Fld Z h w_SELL "java/lang/Enum" "ordinal" "I" (.int (1 : Int32))) ∧ (Fld Z h w_BUY "java/lang/Enum" "ordinal" "I" (.int (0 : Int32)))


theorem d1_0 : decode prog_47_method_5_code 0 = .ok (.aload_n 0, 1) := by decide +kernel
theorem d1_1 : decode prog_47_method_5_code 1 = .ok (.getstatic 3, 3) := by decide +kernel
theorem d1_4 : decode prog_47_method_5_code 4 = .ok (.if_acmp .ne 9, 3) := by decide +kernel
theorem d1_7 : decode prog_47_method_5_code 7 = .ok (.ldc2_w 31, 3) := by decide +kernel
theorem d1_10 : decode prog_47_method_5_code 10 = .ok (.goto 4, 3) := by decide +kernel
theorem d1_13 : decode prog_47_method_5_code 13 = .ok (.lconst 0, 1) := by decide +kernel
theorem d1_14 : decode prog_47_method_5_code 14 = .ok (.lreturn, 1) := by decide +kernel
theorem pn_1 : plainName "com/example/orderwarden/orderwarden/Side" = true := by first | (simp [plainName, overriddenIn]; done) | decide +kernel
theorem ef_1 (m : MethodId) (a0 : Addr) : entryFrame m #[(.ref a0)] 1 = mkF m 0 #[.val (.ref a0)] [] := by first | (simp [entryFrame, mkF, argsToLocals, Value.category]; done) | rfl
def v1 (a0 : Addr) (w_BUY : Addr) (w_SELL : Addr)  : Int64 := if a0 = w_BUY then (9223372036854775807 : Int64) else (0 : Int64)
set_option maxRecDepth 65536 in
set_option maxHeartbeats 40000000 in
theorem rm1 (l : Launch) (Z : State) (ar0 : Array Value) (hw : ∀ d ∈ tables_1, d.before ar0 Z = true) (ws : List Jvm.Cond) (a0 : Addr) (w_BUY : Addr) (w_SELL : Addr) (h0 : Heap) (n0 : Nat) (Z0 : n0 ≤ h0.size) (F : Fx Z h0 w_BUY w_SELL)  (r : Int64) (hre : r = v1 a0 w_BUY w_SELL) :
    MetFree l (⟨"com/example/orderwarden/orderwarden/Side", "loosestLimit", "()J"⟩ : MethodName) (head1 ((Jvm.Cond.code (⟨"com/example/orderwarden/orderwarden/Side", "loosestLimit", "()J"⟩ : MethodName) prog_47_method_5_code 1 (some .long)) :: ws) ({ frames := 0, cells := 0, slots := 0, locals := 0 } : Room)) (fun a U => a = #[(.ref a0)] ∧ Z.Warmed39 U.vm ∧ U.heap = h0) (fun _ _ _ _ _ => True) (fun _ U o U' => ∃ v L, o = .returned v ∧ Qp (some (.long r)) h0 n0 v U'.heap L ∧ FrameEnd U o U' L ({ frames := 0, cells := 0, slots := 0, locals := 0 } : Room).cells ({ frames := 0, cells := 0, slots := 0, locals := 0 } : Room).slots) := by
  obtain ⟨S_BUY, E_BUY, S_SELL, E_SELL, F_ordinal_SELL, F_ordinal_BUY⟩ := id F
  refine MetFree.of_bodySF (plainFor_of_name pn_1) hisR ?_
  intro p e s m args below meth c s₁ Bd hml0 hP hK
  obtain ⟨rfl, hZ, hh⟩ := hP
  have hx := Bd.exec
  have hby := Bd.bytes
  have hml : c.maxLocals = 1 := hml0
  have hown : s.vm.findClass "com/example/orderwarden/orderwarden/Side" = some m.cls := findClass_of_methodNamed Bd.named
  have X0 : Stand p l e ({ frames := 0, cells := 0, slots := 0, locals := 0 } : Room) s m #[(.ref a0)] below meth c s₁ [] 0 0 := Stand.of_body Bd
  have e0 : s₁.heap = h0 := by rw [← hh, Bd.state]; rfl
  have N0 := Fr.nil n0
  have pre0 : ∀ t, Steps p.tables e below (s₁.setTop (mkF m 0 #[.val (.ref a0)] [])) t → Steps p.tables e below (s₁.setTop (entryFrame m #[(.ref a0)] 1)) t := fun t k => castTop (ef_1 m a0) k
  obtain ⟨T1, X1, e1, st1⟩ := getS2 X0 hx hZ hown (host := "") (Or.inl (hw _ (List.mem_of_getElem? (i := 9) rfl))) Via.refl e0 S_BUY (g := (mkF m 1 #[.val (.ref a0)] [(.ref a0)])) rfl (hb hby d1_1)
  have pre2 : ∀ t, Steps p.tables e below (T1.setTop (mkF m 4 #[.val (.ref a0)] [(.ref w_BUY), (.ref a0)])) t → Steps p.tables e below (s₁.setTop (entryFrame m #[(.ref a0)] 1)) t := by
    intro t k
    refine pre0 _ ?_
    show Steps p.tables e below (s₁.setTop (mkF m 0 #[.val (.ref a0)] [])) _
    refine XS.aloadN X0.here hx rfl (hb hby d1_0) rfl rfl ?_
    show Steps p.tables e below (s₁.setTop (mkF m 1 #[.val (.ref a0)] [(.ref a0)])) _
    refine st1 _ ?_
    exact k
  by_cases hc3 : a0 = w_BUY
  ·
    have hv : (some (.long r) : Option Value) = some (.long (9223372036854775807 : Int64)) := by rw [hre]; unfold v1; rw [if_pos hc3]
    rw [hv]
    obtain ⟨fs, hr, hrun, hended, hW, hsame⟩ := X1.leave (v := some (.long (9223372036854775807 : Int64))) (fun h => by rw [Bd.returns] at h; cases h)
    refine ⟨_, _, pre2 _ ?_, hrun, hended, _, _, rfl, ?_, ⟨_, rfl⟩, hW, hsame.mono (by decide) (by decide)⟩
    · show Steps p.tables e below (T1.setTop (mkF m 4 #[.val (.ref a0)] [(.ref w_BUY), (.ref a0)])) _
      refine Jvm.RoadKit.acmp (g := (mkF m 4 #[.val (.ref a0)] [(.ref w_BUY), (.ref a0)])) X1 hx rfl rfl rfl (pc0 := 4) (pc' := 7) (same := true) rfl (hb hby d1_4) rfl (decide_eq_true (congrArg Value.ref hc3)) (by decide) (by decide) ?_
      show Steps p.tables e below (T1.setTop (mkF m 7 #[.val (.ref a0)] [])) _
      refine X1.ldc2Long hx hown (mvT hZ (hw _ (List.mem_of_getElem? (i := 10) rfl))) (g := (mkF m 7 #[.val (.ref a0)] [])) rfl (hb hby d1_7) _ ?_
      show Steps p.tables e below (T1.setTop (mkF m 10 #[.val (.ref a0)] [(.long (9223372036854775807 : Int64))])) _
      refine XS.goto X1.here hx rfl (pc0 := 10) (pc' := 14) rfl (hb hby d1_10) (by decide) (by decide) ?_
      show Steps p.tables e below (T1.setTop (mkF m 14 #[.val (.ref a0)] [(.long (9223372036854775807 : Int64))])) _
      exact X1.lreturnOut hx Bd.returns (hb hby d1_14) hr
    · show Qp (some (.long (9223372036854775807 : Int64))) h0 n0 _ T1.heap _
      rw [e1]
      exact ⟨rfl, N0, rfl⟩
  ·
    have hv : (some (.long r) : Option Value) = some (.long (0 : Int64)) := by rw [hre]; unfold v1; rw [if_neg hc3]
    rw [hv]
    obtain ⟨fs, hr, hrun, hended, hW, hsame⟩ := X1.leave (v := some (.long (0 : Int64))) (fun h => by rw [Bd.returns] at h; cases h)
    refine ⟨_, _, pre2 _ ?_, hrun, hended, _, _, rfl, ?_, ⟨_, rfl⟩, hW, hsame.mono (by decide) (by decide)⟩
    · show Steps p.tables e below (T1.setTop (mkF m 4 #[.val (.ref a0)] [(.ref w_BUY), (.ref a0)])) _
      refine Jvm.RoadKit.acmp (g := (mkF m 4 #[.val (.ref a0)] [(.ref w_BUY), (.ref a0)])) X1 hx rfl rfl rfl (pc0 := 4) (pc' := 13) (same := false) rfl (hb hby d1_4) rfl (decide_eq_false (fun q => hc3 (Value.ref.inj q))) (by decide) (by decide) ?_
      show Steps p.tables e below (T1.setTop (mkF m 13 #[.val (.ref a0)] [])) _
      refine XS.lconst X1.here hx rfl (hb hby d1_13) ?_
      show Steps p.tables e below (T1.setTop (mkF m 14 #[.val (.ref a0)] [(.long (0 : Int64))])) _
      exact X1.lreturnOut hx Bd.returns (hb hby d1_14) hr
    · show Qp (some (.long (0 : Int64))) h0 n0 _ T1.heap _
      rw [e1]
      exact ⟨rfl, N0, rfl⟩

theorem d2_0 : decode prog_47_method_6_code 0 = .ok (.aload_n 0, 1) := by decide +kernel
theorem d2_1 : decode prog_47_method_6_code 1 = .ok (.getstatic 3, 3) := by decide +kernel
theorem d2_4 : decode prog_47_method_6_code 4 = .ok (.if_acmp .ne 17, 3) := by decide +kernel
theorem d2_7 : decode prog_47_method_6_code 7 = .ok (.lload_n 3, 1) := by decide +kernel
theorem d2_8 : decode prog_47_method_6_code 8 = .ok (.lload_n 1, 1) := by decide +kernel
theorem d2_9 : decode prog_47_method_6_code 9 = .ok (.lcmp, 1) := by decide +kernel
theorem d2_10 : decode prog_47_method_6_code 10 = .ok (.ifCond .gt 7, 3) := by decide +kernel
theorem d2_13 : decode prog_47_method_6_code 13 = .ok (.iconst 1, 1) := by decide +kernel
theorem d2_14 : decode prog_47_method_6_code 14 = .ok (.goto 18, 3) := by decide +kernel
theorem d2_17 : decode prog_47_method_6_code 17 = .ok (.iconst 0, 1) := by decide +kernel
theorem d2_18 : decode prog_47_method_6_code 18 = .ok (.goto 14, 3) := by decide +kernel
theorem d2_21 : decode prog_47_method_6_code 21 = .ok (.lload_n 3, 1) := by decide +kernel
theorem d2_22 : decode prog_47_method_6_code 22 = .ok (.lload_n 1, 1) := by decide +kernel
theorem d2_23 : decode prog_47_method_6_code 23 = .ok (.lcmp, 1) := by decide +kernel
theorem d2_24 : decode prog_47_method_6_code 24 = .ok (.ifCond .lt 7, 3) := by decide +kernel
theorem d2_27 : decode prog_47_method_6_code 27 = .ok (.iconst 1, 1) := by decide +kernel
theorem d2_28 : decode prog_47_method_6_code 28 = .ok (.goto 4, 3) := by decide +kernel
theorem d2_31 : decode prog_47_method_6_code 31 = .ok (.iconst 0, 1) := by decide +kernel
theorem d2_32 : decode prog_47_method_6_code 32 = .ok (.ireturn, 1) := by decide +kernel
theorem pn_2 : plainName "com/example/orderwarden/orderwarden/Side" = true := by first | (simp [plainName, overriddenIn]; done) | decide +kernel
theorem ef_2 (m : MethodId) (a0 : Addr) (q1 : Int64) (q2 : Int64) : entryFrame m #[(.ref a0), (.long q1), (.long q2)] 5 = mkF m 0 #[.val (.ref a0), .val (.long q1), .second, .val (.long q2), .second] [] := by first | (simp [entryFrame, mkF, argsToLocals, Value.category]; done) | rfl
def v2 (a0 : Addr) (q1 : Int64) (q2 : Int64) (w_BUY : Addr) (w_SELL : Addr)  : Int32 := if a0 = w_BUY then if (0 : Int32) < (lcmpW q2 q1) then (0 : Int32) else (1 : Int32) else if (lcmpW q2 q1) < (0 : Int32) then (0 : Int32) else (1 : Int32)
set_option maxRecDepth 65536 in
set_option maxHeartbeats 40000000 in
theorem rm2 (l : Launch) (Z : State) (ar0 : Array Value) (hw : ∀ d ∈ tables_1, d.before ar0 Z = true) (ws : List Jvm.Cond) (a0 : Addr) (q1 : Int64) (q2 : Int64) (w_BUY : Addr) (w_SELL : Addr) (h0 : Heap) (n0 : Nat) (Z0 : n0 ≤ h0.size) (F : Fx Z h0 w_BUY w_SELL)  (r : Int32) (hre : r = v2 a0 q1 q2 w_BUY w_SELL) :
    MetFree l (⟨"com/example/orderwarden/orderwarden/Side", "accepts", "(JJ)Z"⟩ : MethodName) (head1 ((Jvm.Cond.code (⟨"com/example/orderwarden/orderwarden/Side", "accepts", "(JJ)Z"⟩ : MethodName) prog_47_method_6_code 5 (some .boolean)) :: ws) ({ frames := 0, cells := 0, slots := 0, locals := 0 } : Room)) (fun a U => a = #[(.ref a0), (.long q1), (.long q2)] ∧ Z.Warmed39 U.vm ∧ U.heap = h0) (fun _ _ _ _ _ => True) (fun _ U o U' => ∃ v L, o = .returned v ∧ Qp (some (.int r)) h0 n0 v U'.heap L ∧ FrameEnd U o U' L ({ frames := 0, cells := 0, slots := 0, locals := 0 } : Room).cells ({ frames := 0, cells := 0, slots := 0, locals := 0 } : Room).slots) := by
  obtain ⟨S_BUY, E_BUY, S_SELL, E_SELL, F_ordinal_SELL, F_ordinal_BUY⟩ := id F
  refine MetFree.of_bodySF (plainFor_of_name pn_2) hisR ?_
  intro p e s m args below meth c s₁ Bd hml0 hP hK
  obtain ⟨rfl, hZ, hh⟩ := hP
  have hx := Bd.exec
  have hby := Bd.bytes
  have hml : c.maxLocals = 5 := hml0
  have hown : s.vm.findClass "com/example/orderwarden/orderwarden/Side" = some m.cls := findClass_of_methodNamed Bd.named
  have X0 : Stand p l e ({ frames := 0, cells := 0, slots := 0, locals := 0 } : Room) s m #[(.ref a0), (.long q1), (.long q2)] below meth c s₁ [] 0 0 := Stand.of_body Bd
  have e0 : s₁.heap = h0 := by rw [← hh, Bd.state]; rfl
  have N0 := Fr.nil n0
  have pre0 : ∀ t, Steps p.tables e below (s₁.setTop (mkF m 0 #[.val (.ref a0), .val (.long q1), .second, .val (.long q2), .second] [])) t → Steps p.tables e below (s₁.setTop (entryFrame m #[(.ref a0), (.long q1), (.long q2)] 5)) t := fun t k => castTop (ef_2 m a0 q1 q2) k
  obtain ⟨T1, X1, e1, st1⟩ := getS2 X0 hx hZ hown (host := "") (Or.inl (hw _ (List.mem_of_getElem? (i := 9) rfl))) Via.refl e0 S_BUY (g := (mkF m 1 #[.val (.ref a0), .val (.long q1), .second, .val (.long q2), .second] [(.ref a0)])) rfl (hb hby d2_1)
  have pre2 : ∀ t, Steps p.tables e below (T1.setTop (mkF m 4 #[.val (.ref a0), .val (.long q1), .second, .val (.long q2), .second] [(.ref w_BUY), (.ref a0)])) t → Steps p.tables e below (s₁.setTop (entryFrame m #[(.ref a0), (.long q1), (.long q2)] 5)) t := by
    intro t k
    refine pre0 _ ?_
    show Steps p.tables e below (s₁.setTop (mkF m 0 #[.val (.ref a0), .val (.long q1), .second, .val (.long q2), .second] [])) _
    refine XS.aloadN X0.here hx rfl (hb hby d2_0) rfl rfl ?_
    show Steps p.tables e below (s₁.setTop (mkF m 1 #[.val (.ref a0), .val (.long q1), .second, .val (.long q2), .second] [(.ref a0)])) _
    refine st1 _ ?_
    exact k
  by_cases hc3 : a0 = w_BUY
  ·
    have pre4 : ∀ t, Steps p.tables e below (T1.setTop (mkF m 10 #[.val (.ref a0), .val (.long q1), .second, .val (.long q2), .second] [(.int (lcmpW q2 q1))])) t → Steps p.tables e below (s₁.setTop (entryFrame m #[(.ref a0), (.long q1), (.long q2)] 5)) t := by
      intro t k
      refine pre2 _ ?_
      show Steps p.tables e below (T1.setTop (mkF m 4 #[.val (.ref a0), .val (.long q1), .second, .val (.long q2), .second] [(.ref w_BUY), (.ref a0)])) _
      refine Jvm.RoadKit.acmp (g := (mkF m 4 #[.val (.ref a0), .val (.long q1), .second, .val (.long q2), .second] [(.ref w_BUY), (.ref a0)])) X1 hx rfl rfl rfl (pc0 := 4) (pc' := 7) (same := true) rfl (hb hby d2_4) rfl (decide_eq_true (congrArg Value.ref hc3)) (by decide) (by decide) ?_
      show Steps p.tables e below (T1.setTop (mkF m 7 #[.val (.ref a0), .val (.long q1), .second, .val (.long q2), .second] [])) _
      refine XS.lloadN X1.here hx rfl (hb hby d2_7) rfl ?_
      show Steps p.tables e below (T1.setTop (mkF m 8 #[.val (.ref a0), .val (.long q1), .second, .val (.long q2), .second] [(.long q2)])) _
      refine XS.lloadN X1.here hx rfl (hb hby d2_8) rfl ?_
      show Steps p.tables e below (T1.setTop (mkF m 9 #[.val (.ref a0), .val (.long q1), .second, .val (.long q2), .second] [(.long q1), (.long q2)])) _
      refine XS.lcmp X1.here hx rfl (hb hby d2_9) rfl ?_
      exact k
    by_cases hc5 : (0 : Int32) < (lcmpW q2 q1)
    ·
      have hv : (some (.int r) : Option Value) = some (.int (0 : Int32)) := by rw [hre]; unfold v2; rw [if_pos hc3, if_pos hc5]
      rw [hv]
      obtain ⟨fs, hr, hrun, hended, hW, hsame⟩ := X1.leave (v := some (.int (0 : Int32))) (fun h => by rw [Bd.returns] at h; cases h)
      refine ⟨_, _, pre4 _ ?_, hrun, hended, _, _, rfl, ?_, ⟨_, rfl⟩, hW, hsame.mono (by decide) (by decide)⟩
      · show Steps p.tables e below (T1.setTop (mkF m 10 #[.val (.ref a0), .val (.long q1), .second, .val (.long q2), .second] [(.int (lcmpW q2 q1))])) _
        refine XS.ifYes X1.here hx rfl (pc0 := 10) (pc' := 17) rfl (hb hby d2_10) rfl ((if0 _ _).trans (tlt hc5).2.2.1) (by decide) (by decide) ?_
        show Steps p.tables e below (T1.setTop (mkF m 17 #[.val (.ref a0), .val (.long q1), .second, .val (.long q2), .second] [])) _
        refine XS.iconst X1.here hx rfl (hb hby d2_17) ?_
        show Steps p.tables e below (T1.setTop (mkF m 18 #[.val (.ref a0), .val (.long q1), .second, .val (.long q2), .second] [(.int (0 : Int32))])) _
        refine XS.goto X1.here hx rfl (pc0 := 18) (pc' := 32) rfl (hb hby d2_18) (by decide) (by decide) ?_
        show Steps p.tables e below (T1.setTop (mkF m 32 #[.val (.ref a0), .val (.long q1), .second, .val (.long q2), .second] [(.int (0 : Int32))])) _
        exact retN X1 hx (t := .boolean) Bd.returns (by simp) (hb hby d2_32) hr
      · show Qp (some (.int (0 : Int32))) h0 n0 _ T1.heap _
        rw [e1]
        exact ⟨rfl, N0, rfl⟩
    ·
      have hv : (some (.int r) : Option Value) = some (.int (1 : Int32)) := by rw [hre]; unfold v2; rw [if_pos hc3, if_neg hc5]
      rw [hv]
      obtain ⟨fs, hr, hrun, hended, hW, hsame⟩ := X1.leave (v := some (.int (1 : Int32))) (fun h => by rw [Bd.returns] at h; cases h)
      refine ⟨_, _, pre4 _ ?_, hrun, hended, _, _, rfl, ?_, ⟨_, rfl⟩, hW, hsame.mono (by decide) (by decide)⟩
      · show Steps p.tables e below (T1.setTop (mkF m 10 #[.val (.ref a0), .val (.long q1), .second, .val (.long q2), .second] [(.int (lcmpW q2 q1))])) _
        refine XS.ifNo X1.here hx rfl (hb hby d2_10) rfl ((if0 _ _).trans (flt hc5).2.2.1) ?_
        show Steps p.tables e below (T1.setTop (mkF m 13 #[.val (.ref a0), .val (.long q1), .second, .val (.long q2), .second] [])) _
        refine XS.iconst X1.here hx rfl (hb hby d2_13) ?_
        show Steps p.tables e below (T1.setTop (mkF m 14 #[.val (.ref a0), .val (.long q1), .second, .val (.long q2), .second] [(.int (1 : Int32))])) _
        refine XS.goto X1.here hx rfl (pc0 := 14) (pc' := 32) rfl (hb hby d2_14) (by decide) (by decide) ?_
        show Steps p.tables e below (T1.setTop (mkF m 32 #[.val (.ref a0), .val (.long q1), .second, .val (.long q2), .second] [(.int (1 : Int32))])) _
        exact retN X1 hx (t := .boolean) Bd.returns (by simp) (hb hby d2_32) hr
      · show Qp (some (.int (1 : Int32))) h0 n0 _ T1.heap _
        rw [e1]
        exact ⟨rfl, N0, rfl⟩
  ·
    have pre6 : ∀ t, Steps p.tables e below (T1.setTop (mkF m 24 #[.val (.ref a0), .val (.long q1), .second, .val (.long q2), .second] [(.int (lcmpW q2 q1))])) t → Steps p.tables e below (s₁.setTop (entryFrame m #[(.ref a0), (.long q1), (.long q2)] 5)) t := by
      intro t k
      refine pre2 _ ?_
      show Steps p.tables e below (T1.setTop (mkF m 4 #[.val (.ref a0), .val (.long q1), .second, .val (.long q2), .second] [(.ref w_BUY), (.ref a0)])) _
      refine Jvm.RoadKit.acmp (g := (mkF m 4 #[.val (.ref a0), .val (.long q1), .second, .val (.long q2), .second] [(.ref w_BUY), (.ref a0)])) X1 hx rfl rfl rfl (pc0 := 4) (pc' := 21) (same := false) rfl (hb hby d2_4) rfl (decide_eq_false (fun q => hc3 (Value.ref.inj q))) (by decide) (by decide) ?_
      show Steps p.tables e below (T1.setTop (mkF m 21 #[.val (.ref a0), .val (.long q1), .second, .val (.long q2), .second] [])) _
      refine XS.lloadN X1.here hx rfl (hb hby d2_21) rfl ?_
      show Steps p.tables e below (T1.setTop (mkF m 22 #[.val (.ref a0), .val (.long q1), .second, .val (.long q2), .second] [(.long q2)])) _
      refine XS.lloadN X1.here hx rfl (hb hby d2_22) rfl ?_
      show Steps p.tables e below (T1.setTop (mkF m 23 #[.val (.ref a0), .val (.long q1), .second, .val (.long q2), .second] [(.long q1), (.long q2)])) _
      refine XS.lcmp X1.here hx rfl (hb hby d2_23) rfl ?_
      exact k
    by_cases hc7 : (lcmpW q2 q1) < (0 : Int32)
    ·
      have hv : (some (.int r) : Option Value) = some (.int (0 : Int32)) := by rw [hre]; unfold v2; rw [if_neg hc3, if_pos hc7]
      rw [hv]
      obtain ⟨fs, hr, hrun, hended, hW, hsame⟩ := X1.leave (v := some (.int (0 : Int32))) (fun h => by rw [Bd.returns] at h; cases h)
      refine ⟨_, _, pre6 _ ?_, hrun, hended, _, _, rfl, ?_, ⟨_, rfl⟩, hW, hsame.mono (by decide) (by decide)⟩
      · show Steps p.tables e below (T1.setTop (mkF m 24 #[.val (.ref a0), .val (.long q1), .second, .val (.long q2), .second] [(.int (lcmpW q2 q1))])) _
        refine XS.ifYes X1.here hx rfl (pc0 := 24) (pc' := 31) rfl (hb hby d2_24) rfl ((if0 _ _).trans (tlt hc7).1) (by decide) (by decide) ?_
        show Steps p.tables e below (T1.setTop (mkF m 31 #[.val (.ref a0), .val (.long q1), .second, .val (.long q2), .second] [])) _
        refine XS.iconst X1.here hx rfl (hb hby d2_31) ?_
        show Steps p.tables e below (T1.setTop (mkF m 32 #[.val (.ref a0), .val (.long q1), .second, .val (.long q2), .second] [(.int (0 : Int32))])) _
        exact retN X1 hx (t := .boolean) Bd.returns (by simp) (hb hby d2_32) hr
      · show Qp (some (.int (0 : Int32))) h0 n0 _ T1.heap _
        rw [e1]
        exact ⟨rfl, N0, rfl⟩
    ·
      have hv : (some (.int r) : Option Value) = some (.int (1 : Int32)) := by rw [hre]; unfold v2; rw [if_neg hc3, if_neg hc7]
      rw [hv]
      obtain ⟨fs, hr, hrun, hended, hW, hsame⟩ := X1.leave (v := some (.int (1 : Int32))) (fun h => by rw [Bd.returns] at h; cases h)
      refine ⟨_, _, pre6 _ ?_, hrun, hended, _, _, rfl, ?_, ⟨_, rfl⟩, hW, hsame.mono (by decide) (by decide)⟩
      · show Steps p.tables e below (T1.setTop (mkF m 24 #[.val (.ref a0), .val (.long q1), .second, .val (.long q2), .second] [(.int (lcmpW q2 q1))])) _
        refine XS.ifNo X1.here hx rfl (hb hby d2_24) rfl ((if0 _ _).trans (flt hc7).1) ?_
        show Steps p.tables e below (T1.setTop (mkF m 27 #[.val (.ref a0), .val (.long q1), .second, .val (.long q2), .second] [])) _
        refine XS.iconst X1.here hx rfl (hb hby d2_27) ?_
        show Steps p.tables e below (T1.setTop (mkF m 28 #[.val (.ref a0), .val (.long q1), .second, .val (.long q2), .second] [(.int (1 : Int32))])) _
        refine XS.goto X1.here hx rfl (pc0 := 28) (pc' := 32) rfl (hb hby d2_28) (by decide) (by decide) ?_
        show Steps p.tables e below (T1.setTop (mkF m 32 #[.val (.ref a0), .val (.long q1), .second, .val (.long q2), .second] [(.int (1 : Int32))])) _
        exact retN X1 hx (t := .boolean) Bd.returns (by simp) (hb hby d2_32) hr
      · show Qp (some (.int (1 : Int32))) h0 n0 _ T1.heap _
        rw [e1]
        exact ⟨rfl, N0, rfl⟩

theorem own_buy {w_BUY w_SELL : Addr} {l p : Int64} (h : p ≤ l) : (1 : Int32) = v2 w_BUY l p w_BUY w_SELL := by
  unfold v2
  rw [if_pos rfl, if_neg (by rw [lcW, lc_gt]; exact Int64.not_lt.mpr h)]
theorem own_sell {w_BUY w_SELL : Addr} {l p : Int64} (hn : w_SELL ≠ w_BUY) (h : l ≤ p) : (1 : Int32) = v2 w_SELL l p w_BUY w_SELL := by
  unfold v2
  rw [if_neg hn, if_neg (by rw [lcW, lc_lt]; exact Int64.not_lt.mpr h)]
theorem own_and (q : Int64) : (0 : Int64) ≤ (q &&& (9223372036854775807 : Int64)) ∧ (q &&& (9223372036854775807 : Int64)) ≤ (9223372036854775807 : Int64) := by
  have e := Jvm.Kit.i64_mask q 9223372036854775807 (k := 63) (by decide) (by decide)
  have a : (0 : Int64).toInt = 0 := by decide
  have b : (9223372036854775807 : Int64).toInt = 9223372036854775807 := by decide
  rw [Int64.le_iff_toInt_le, Int64.le_iff_toInt_le, a, b, e]
  omega

theorem pn_0 : plainName "com/example/orderwarden/orderwarden/SideLoosestLimitPinLaw" = true := by first | (simp [plainName, overriddenIn]; done) | decide +kernel
theorem pd_0_24 : parseMethodDescriptor "()J" = some ⟨[], some .long⟩ := by decide +kernel
theorem pd_0_42 : parseMethodDescriptor "(JJ)Z" = some ⟨[.long, .long], some .boolean⟩ := by decide +kernel
theorem pd_0_54 : parseMethodDescriptor "(JJ)Z" = some ⟨[.long, .long], some .boolean⟩ := by decide +kernel
theorem pd_0_65 : parseMethodDescriptor "(JJ)Z" = some ⟨[.long, .long], some .boolean⟩ := by decide +kernel
theorem ef_0 (m : MethodId) (p0 : Int32) (q1 : Int64) : entryFrame m #[(.int p0), (.long q1)] maxLocals = mkF m 0 #[.val (.int p0), .val (.long q1), .second, .unset, .unset, .unset, .unset, .unset] [] := by first | (simp [entryFrame, mkF, argsToLocals, Value.category, maxLocals]; done) | rfl
set_option maxRecDepth 65536 in
set_option maxHeartbeats 40000000 in
theorem rm0 (l : Launch) (Z : State) (ar0 : Array Value) (hw : ∀ d ∈ tables_1, d.before ar0 Z = true) (ws : List Jvm.Cond) (p0 : Int32) (q1 : Int64) (w_BUY : Addr) (w_SELL : Addr) (h0 : Heap) (n0 : Nat) (Z0 : n0 ≤ h0.size) (F : Fx Z h0 w_BUY w_SELL)   :
    MetFree l x (head1 ((Jvm.Cond.code x code maxLocals ret) :: ws) room_1) (fun a U => a = #[(.int p0), (.long q1)] ∧ Z.Warmed39 U.vm ∧ U.heap = h0) (fun _ _ _ _ _ => True) (fun _ U o U' => ∃ v L, o = .returned v ∧ Qp (some (.int (1 : Int32))) h0 n0 v U'.heap L ∧ FrameEnd U o U' L room_1.cells room_1.slots) := by
  obtain ⟨S_BUY, E_BUY, S_SELL, E_SELL, F_ordinal_SELL, F_ordinal_BUY⟩ := id F
  refine MetFree.of_bodySF (plainFor_of_name pn_0) hisR ?_
  intro p e s m args below meth c s₁ Bd hml0 hP hK
  obtain ⟨rfl, hZ, hh⟩ := hP
  have hx := Bd.exec
  have hby := Bd.bytes
  have hml : c.maxLocals = 8 := hml0
  have hown : s.vm.findClass "com/example/orderwarden/orderwarden/SideLoosestLimitPinLaw" = some m.cls := findClass_of_methodNamed Bd.named
  have X0 : Stand p l e room_1 s m #[(.int p0), (.long q1)] below meth c s₁ [] 0 0 := Stand.of_body Bd
  have e0 : s₁.heap = h0 := by rw [← hh, Bd.state]; rfl
  have N0 := Fr.nil n0
  have pre0 : ∀ t, Steps p.tables e below (s₁.setTop (mkF m 0 #[.val (.int p0), .val (.long q1), .second, .unset, .unset, .unset, .unset, .unset] [])) t → Steps p.tables e below (s₁.setTop (entryFrame m #[(.int p0), (.long q1)] maxLocals)) t := fun t k => castTop (ef_0 m p0 q1) k
  have ne_BUY_SELL : w_BUY ≠ w_SELL := own_fld_ne F_ordinal_BUY F_ordinal_SELL (by decide)
  have ne_SELL_BUY := Ne.symm ne_BUY_SELL
  have pre1 : ∀ t, Steps p.tables e below (s₁.setTop (mkF m 3 #[.val (.int p0), .val (.long q1), .second, .unset, .unset, .unset, .unset, .unset] [(.int (p0 &&& (1 : Int32)))])) t → Steps p.tables e below (s₁.setTop (entryFrame m #[(.int p0), (.long q1)] maxLocals)) t := by
    intro t k
    refine pre0 _ ?_
    show Steps p.tables e below (s₁.setTop (mkF m 0 #[.val (.int p0), .val (.long q1), .second, .unset, .unset, .unset, .unset, .unset] [])) _
    refine XS.iloadN X0.here hx rfl (hb hby at_0) rfl ?_
    show Steps p.tables e below (s₁.setTop (mkF m 1 #[.val (.int p0), .val (.long q1), .second, .unset, .unset, .unset, .unset, .unset] [(.int p0)])) _
    refine XS.iconst X0.here hx rfl (hb hby at_1) ?_
    show Steps p.tables e below (s₁.setTop (mkF m 2 #[.val (.int p0), .val (.long q1), .second, .unset, .unset, .unset, .unset, .unset] [(.int (1 : Int32)), (.int p0)])) _
    refine XS.iand X0.here hx rfl (hb hby at_2) rfl ?_
    exact k
  by_cases hc2 : (p0 &&& (1 : Int32)) = (0 : Int32)
  ·
    obtain ⟨T3, X3, e3, st3⟩ := getS2 X0 hx hZ hown (host := "") (Or.inl (hw _ (List.mem_of_getElem? (i := 0) rfl))) Via.refl e0 S_BUY (g := (mkF m 6 #[.val (.int p0), .val (.long q1), .second, .unset, .unset, .unset, .unset, .unset] [])) rfl (hb hby at_6)
    have hr4 : (9223372036854775807 : Int64) = v1 w_BUY w_BUY w_SELL := by unfold v1; rw [if_pos rfl]
    obtain ⟨cq4, kq4, q4a, q4b, q4c⟩ := isOf hZ e3 (show Exa Z h0 w_BUY "com/example/orderwarden/orderwarden/Side" from E_BUY)
    obtain ⟨_, _, ⟨T4, L4, k4, n4⟩, -, X4, ⟨Lc4, hQ4, l4, y4, z4⟩, st4⟩ := X3.virtualBack hx (y := (⟨"com/example/orderwarden/orderwarden/Side", "loosestLimit", "()J"⟩ : MethodName)) (z := (⟨"com/example/orderwarden/orderwarden/Side", "loosestLimit", "()J"⟩ : MethodName)) hown (mvT hZ (hw _ (List.mem_of_getElem? (i := 4) rfl))) (mvT hZ (hw _ (List.mem_of_getElem? (i := 5) rfl))) (notFace_of_selects (args := #[]) (mvT hZ (hw _ (List.mem_of_getElem? (i := 7) rfl)))) (mvT hZ (hw _ (List.mem_of_getElem? (i := 7) rfl))) (mvT hZ (hw _ (List.mem_of_getElem? (i := 6) rfl))) (by decide) (backOf (W := 0) (rm1 l Z ar0 hw [] w_BUY w_BUY w_SELL h0 n0 Z0 F  (9223372036854775807 : Int64) hr4) hZ (hw _ (List.mem_of_getElem? (i := 8) rfl)) (hw _ (List.mem_of_getElem? (i := 1) rfl)) (by decide) (by decide)) q4a q4c (g := (mkF m 24 #[.val (.int p0), .val (.long q1), .second, .val (.ref w_BUY), .val (.long (q1 &&& (9223372036854775807 : Int64))), .second, .unset, .unset] [(.ref w_BUY)])) rfl (by rw [hml]; rfl) (Steps.refl _) (argsL := []) (rest := []) (lenOf pd_0_24 rfl) rfl (by show 2 * 0 + _ ≤ _; exact Nat.le_of_eq rfl) (hb hby at_24) (fun _ _ => ⟨rfl, e3, (by decide : 0 + 0 ≤ _), (by decide : 0 + 0 ≤ _)⟩)
    dsimp only [Pt.U, Pt.locs, Pt.cells, Pt.slots] at X4 l4 y4 z4 st4 hQ4
    subst l4 y4 z4
    obtain ⟨rfl, N4q, e4⟩ := hQ4
    have N4 := Fr.app N0 N4q
    have hk5 : ¬ ((lcmpW (9223372036854775807 : Int64) (0 : Int64)) < (0 : Int32)) := by decide
    have hr6 : (1 : Int32) = v2 w_BUY (9223372036854775807 : Int64) (0 : Int64) w_BUY w_SELL := own_buy (by decide)
    obtain ⟨cq6, kq6, q6a, q6b, q6c⟩ := isOf hZ e4 (show Exa Z h0 w_BUY "com/example/orderwarden/orderwarden/Side" from E_BUY)
    obtain ⟨_, _, ⟨T6, L6, k6, n6⟩, -, X6, ⟨Lc6, hQ6, l6, y6, z6⟩, st6⟩ := X4.virtualBack hx (y := (⟨"com/example/orderwarden/orderwarden/Side", "accepts", "(JJ)Z"⟩ : MethodName)) (z := (⟨"com/example/orderwarden/orderwarden/Side", "accepts", "(JJ)Z"⟩ : MethodName)) hown (mvT hZ (hw _ (List.mem_of_getElem? (i := 11) rfl))) (mvT hZ (hw _ (List.mem_of_getElem? (i := 12) rfl))) (notFace_of_selects (args := #[]) (mvT hZ (hw _ (List.mem_of_getElem? (i := 14) rfl)))) (mvT hZ (hw _ (List.mem_of_getElem? (i := 14) rfl))) (mvT hZ (hw _ (List.mem_of_getElem? (i := 13) rfl))) (by decide) (backOf (W := 0) (rm2 l Z ar0 hw [] w_BUY (9223372036854775807 : Int64) (0 : Int64) w_BUY w_SELL h0 n0 Z0 F  (1 : Int32) hr6) hZ (hw _ (List.mem_of_getElem? (i := 15) rfl)) (hw _ (List.mem_of_getElem? (i := 1) rfl)) (by decide) (by decide)) q6a q6c (g := (mkF m 42 #[.val (.int p0), .val (.long q1), .second, .val (.ref w_BUY), .val (.long (q1 &&& (9223372036854775807 : Int64))), .second, .val (.long (9223372036854775807 : Int64)), .second] [(.long (0 : Int64)), (.long (9223372036854775807 : Int64)), (.ref w_BUY)])) rfl (by rw [hml]; rfl) (Steps.refl _) (argsL := [(.long (9223372036854775807 : Int64)), (.long (0 : Int64))]) (rest := []) (lenOf pd_0_42 rfl) rfl (by show 2 * 0 + _ ≤ _; exact Nat.le_of_eq rfl) (hb hby at_42) (fun _ _ => ⟨rfl, e4, (by decide : 0 + 0 ≤ _), (by decide : 0 + 0 ≤ _)⟩)
    dsimp only [Pt.U, Pt.locs, Pt.cells, Pt.slots] at X6 l6 y6 z6 st6 hQ6
    subst l6 y6 z6
    obtain ⟨rfl, N6q, e6⟩ := hQ6
    have N6 := Fr.app N4 N6q
    have hr7 : (1 : Int32) = v2 w_BUY (9223372036854775807 : Int64) (9223372036854775807 : Int64) w_BUY w_SELL := own_buy (by decide)
    obtain ⟨cq7, kq7, q7a, q7b, q7c⟩ := isOf hZ e6 (show Exa Z h0 w_BUY "com/example/orderwarden/orderwarden/Side" from E_BUY)
    obtain ⟨_, _, ⟨T7, L7, k7, n7⟩, -, X7, ⟨Lc7, hQ7, l7, y7, z7⟩, st7⟩ := X6.virtualBack hx (y := (⟨"com/example/orderwarden/orderwarden/Side", "accepts", "(JJ)Z"⟩ : MethodName)) (z := (⟨"com/example/orderwarden/orderwarden/Side", "accepts", "(JJ)Z"⟩ : MethodName)) hown (mvT hZ (hw _ (List.mem_of_getElem? (i := 11) rfl))) (mvT hZ (hw _ (List.mem_of_getElem? (i := 12) rfl))) (notFace_of_selects (args := #[]) (mvT hZ (hw _ (List.mem_of_getElem? (i := 14) rfl)))) (mvT hZ (hw _ (List.mem_of_getElem? (i := 14) rfl))) (mvT hZ (hw _ (List.mem_of_getElem? (i := 13) rfl))) (by decide) (backOf (W := 0) (rm2 l Z ar0 hw [] w_BUY (9223372036854775807 : Int64) (9223372036854775807 : Int64) w_BUY w_SELL h0 n0 Z0 F  (1 : Int32) hr7) hZ (hw _ (List.mem_of_getElem? (i := 15) rfl)) (hw _ (List.mem_of_getElem? (i := 1) rfl)) (by decide) (by decide)) q7a q7c (g := (mkF m 54 #[.val (.int p0), .val (.long q1), .second, .val (.ref w_BUY), .val (.long (q1 &&& (9223372036854775807 : Int64))), .second, .val (.long (9223372036854775807 : Int64)), .second] [(.long (9223372036854775807 : Int64)), (.long (9223372036854775807 : Int64)), (.ref w_BUY)])) rfl (by rw [hml]; rfl) (Steps.refl _) (argsL := [(.long (9223372036854775807 : Int64)), (.long (9223372036854775807 : Int64))]) (rest := []) (lenOf pd_0_54 rfl) rfl (by show 2 * 0 + _ ≤ _; exact Nat.le_of_eq rfl) (hb hby at_54) (fun _ _ => ⟨rfl, e6, (by decide : 0 + 0 ≤ _), (by decide : 0 + 0 ≤ _)⟩)
    dsimp only [Pt.U, Pt.locs, Pt.cells, Pt.slots] at X7 l7 y7 z7 st7 hQ7
    subst l7 y7 z7
    obtain ⟨rfl, N7q, e7⟩ := hQ7
    have N7 := Fr.app N6 N7q
    have hr8 : (1 : Int32) = v2 w_BUY (9223372036854775807 : Int64) (q1 &&& (9223372036854775807 : Int64)) w_BUY w_SELL := own_buy (own_and _).2
    obtain ⟨cq8, kq8, q8a, q8b, q8c⟩ := isOf hZ e7 (show Exa Z h0 w_BUY "com/example/orderwarden/orderwarden/Side" from E_BUY)
    obtain ⟨_, _, ⟨T8, L8, k8, n8⟩, -, X8, ⟨Lc8, hQ8, l8, y8, z8⟩, st8⟩ := X7.virtualBack hx (y := (⟨"com/example/orderwarden/orderwarden/Side", "accepts", "(JJ)Z"⟩ : MethodName)) (z := (⟨"com/example/orderwarden/orderwarden/Side", "accepts", "(JJ)Z"⟩ : MethodName)) hown (mvT hZ (hw _ (List.mem_of_getElem? (i := 11) rfl))) (mvT hZ (hw _ (List.mem_of_getElem? (i := 12) rfl))) (notFace_of_selects (args := #[]) (mvT hZ (hw _ (List.mem_of_getElem? (i := 14) rfl)))) (mvT hZ (hw _ (List.mem_of_getElem? (i := 14) rfl))) (mvT hZ (hw _ (List.mem_of_getElem? (i := 13) rfl))) (by decide) (backOf (W := 0) (rm2 l Z ar0 hw [] w_BUY (9223372036854775807 : Int64) (q1 &&& (9223372036854775807 : Int64)) w_BUY w_SELL h0 n0 Z0 F  (1 : Int32) hr8) hZ (hw _ (List.mem_of_getElem? (i := 15) rfl)) (hw _ (List.mem_of_getElem? (i := 1) rfl)) (by decide) (by decide)) q8a q8c (g := (mkF m 65 #[.val (.int p0), .val (.long q1), .second, .val (.ref w_BUY), .val (.long (q1 &&& (9223372036854775807 : Int64))), .second, .val (.long (9223372036854775807 : Int64)), .second] [(.long (q1 &&& (9223372036854775807 : Int64))), (.long (9223372036854775807 : Int64)), (.ref w_BUY)])) rfl (by rw [hml]; rfl) (Steps.refl _) (argsL := [(.long (9223372036854775807 : Int64)), (.long (q1 &&& (9223372036854775807 : Int64)))]) (rest := []) (lenOf pd_0_65 rfl) rfl (by show 2 * 0 + _ ≤ _; exact Nat.le_of_eq rfl) (hb hby at_65) (fun _ _ => ⟨rfl, e7, (by decide : 0 + 0 ≤ _), (by decide : 0 + 0 ≤ _)⟩)
    dsimp only [Pt.U, Pt.locs, Pt.cells, Pt.slots] at X8 l8 y8 z8 st8 hQ8
    subst l8 y8 z8
    obtain ⟨rfl, N8q, e8⟩ := hQ8
    have N8 := Fr.app N7 N8q
    obtain ⟨fs, hr, hrun, hended, hW, hsame⟩ := X8.leave (v := some (.int (1 : Int32))) (fun h => by rw [Bd.returns] at h; cases h)
    refine ⟨_, _, pre1 _ ?_, hrun, hended, _, _, rfl, ?_, ⟨_, rfl⟩, hW, hsame.mono (by decide) (by decide)⟩
    · show Steps p.tables e below (s₁.setTop (mkF m 3 #[.val (.int p0), .val (.long q1), .second, .unset, .unset, .unset, .unset, .unset] [(.int (p0 &&& (1 : Int32)))])) _
      refine XS.ifNo X0.here hx rfl (hb hby at_3) rfl ((if0 _ _).trans (teq hc2).2) ?_
      show Steps p.tables e below (s₁.setTop (mkF m 6 #[.val (.int p0), .val (.long q1), .second, .unset, .unset, .unset, .unset, .unset] [])) _
      refine st3 _ ?_
      show Steps p.tables e below (T3.setTop (mkF m 9 #[.val (.int p0), .val (.long q1), .second, .unset, .unset, .unset, .unset, .unset] [(.ref w_BUY)])) _
      refine XS.goto X3.here hx rfl (pc0 := 9) (pc' := 15) rfl (hb hby at_9) (by decide) (by decide) ?_
      show Steps p.tables e below (T3.setTop (mkF m 15 #[.val (.int p0), .val (.long q1), .second, .unset, .unset, .unset, .unset, .unset] [(.ref w_BUY)])) _
      refine XS.astoreN X3.here hx rfl (hb hby at_15) rfl rfl (l' := #[.val (.int p0), .val (.long q1), .second, .val (.ref w_BUY), .unset, .unset, .unset, .unset]) rfl ?_
      show Steps p.tables e below (T3.setTop (mkF m 16 #[.val (.int p0), .val (.long q1), .second, .val (.ref w_BUY), .unset, .unset, .unset, .unset] [])) _
      refine XS.lloadN X3.here hx rfl (hb hby at_16) rfl ?_
      show Steps p.tables e below (T3.setTop (mkF m 17 #[.val (.int p0), .val (.long q1), .second, .val (.ref w_BUY), .unset, .unset, .unset, .unset] [(.long q1)])) _
      refine X3.ldc2Long hx hown (mvT hZ (hw _ (List.mem_of_getElem? (i := 3) rfl))) (g := (mkF m 17 #[.val (.int p0), .val (.long q1), .second, .val (.ref w_BUY), .unset, .unset, .unset, .unset] [(.long q1)])) rfl (hb hby at_17) _ ?_
      show Steps p.tables e below (T3.setTop (mkF m 20 #[.val (.int p0), .val (.long q1), .second, .val (.ref w_BUY), .unset, .unset, .unset, .unset] [(.long (9223372036854775807 : Int64)), (.long q1)])) _
      refine XS.land X3.here hx rfl (hb hby at_20) rfl ?_
      show Steps p.tables e below (T3.setTop (mkF m 21 #[.val (.int p0), .val (.long q1), .second, .val (.ref w_BUY), .unset, .unset, .unset, .unset] [(.long (q1 &&& (9223372036854775807 : Int64)))])) _
      refine XS.lstore X3.here hx rfl (hb hby at_21) rfl (l' := #[.val (.int p0), .val (.long q1), .second, .val (.ref w_BUY), .val (.long (q1 &&& (9223372036854775807 : Int64))), .second, .unset, .unset]) rfl ?_
      show Steps p.tables e below (T3.setTop (mkF m 23 #[.val (.int p0), .val (.long q1), .second, .val (.ref w_BUY), .val (.long (q1 &&& (9223372036854775807 : Int64))), .second, .unset, .unset] [])) _
      refine XS.aloadN X3.here hx rfl (hb hby at_23) rfl rfl ?_
      show Steps p.tables e below (T3.setTop (mkF m 24 #[.val (.int p0), .val (.long q1), .second, .val (.ref w_BUY), .val (.long (q1 &&& (9223372036854775807 : Int64))), .second, .unset, .unset] [(.ref w_BUY)])) _
      refine st4.trans ?_
      show Steps p.tables e below (T4.setTop (mkF m 27 #[.val (.int p0), .val (.long q1), .second, .val (.ref w_BUY), .val (.long (q1 &&& (9223372036854775807 : Int64))), .second, .unset, .unset] [(.long (9223372036854775807 : Int64))])) _
      refine XS.lstore X4.here hx rfl (hb hby at_27) rfl (l' := #[.val (.int p0), .val (.long q1), .second, .val (.ref w_BUY), .val (.long (q1 &&& (9223372036854775807 : Int64))), .second, .val (.long (9223372036854775807 : Int64)), .second]) rfl ?_
      show Steps p.tables e below (T4.setTop (mkF m 29 #[.val (.int p0), .val (.long q1), .second, .val (.ref w_BUY), .val (.long (q1 &&& (9223372036854775807 : Int64))), .second, .val (.long (9223372036854775807 : Int64)), .second] [])) _
      refine XS.lload X4.here hx rfl (hb hby at_29) rfl ?_
      show Steps p.tables e below (T4.setTop (mkF m 31 #[.val (.int p0), .val (.long q1), .second, .val (.ref w_BUY), .val (.long (q1 &&& (9223372036854775807 : Int64))), .second, .val (.long (9223372036854775807 : Int64)), .second] [(.long (9223372036854775807 : Int64))])) _
      refine XS.lconst X4.here hx rfl (hb hby at_31) ?_
      show Steps p.tables e below (T4.setTop (mkF m 32 #[.val (.int p0), .val (.long q1), .second, .val (.ref w_BUY), .val (.long (q1 &&& (9223372036854775807 : Int64))), .second, .val (.long (9223372036854775807 : Int64)), .second] [(.long (0 : Int64)), (.long (9223372036854775807 : Int64))])) _
      refine XS.lcmp X4.here hx rfl (hb hby at_32) rfl ?_
      show Steps p.tables e below (T4.setTop (mkF m 33 #[.val (.int p0), .val (.long q1), .second, .val (.ref w_BUY), .val (.long (q1 &&& (9223372036854775807 : Int64))), .second, .val (.long (9223372036854775807 : Int64)), .second] [(.int (lcmpW (9223372036854775807 : Int64) (0 : Int64)))])) _
      refine XS.ifYes X4.here hx rfl (pc0 := 33) (pc' := 38) rfl (hb hby at_33) rfl ((if0 _ _).trans (flt hk5).2.1) (by decide) (by decide) ?_
      show Steps p.tables e below (T4.setTop (mkF m 38 #[.val (.int p0), .val (.long q1), .second, .val (.ref w_BUY), .val (.long (q1 &&& (9223372036854775807 : Int64))), .second, .val (.long (9223372036854775807 : Int64)), .second] [])) _
      refine XS.aloadN X4.here hx rfl (hb hby at_38) rfl rfl ?_
      show Steps p.tables e below (T4.setTop (mkF m 39 #[.val (.int p0), .val (.long q1), .second, .val (.ref w_BUY), .val (.long (q1 &&& (9223372036854775807 : Int64))), .second, .val (.long (9223372036854775807 : Int64)), .second] [(.ref w_BUY)])) _
      refine XS.lload X4.here hx rfl (hb hby at_39) rfl ?_
      show Steps p.tables e below (T4.setTop (mkF m 41 #[.val (.int p0), .val (.long q1), .second, .val (.ref w_BUY), .val (.long (q1 &&& (9223372036854775807 : Int64))), .second, .val (.long (9223372036854775807 : Int64)), .second] [(.long (9223372036854775807 : Int64)), (.ref w_BUY)])) _
      refine XS.lconst X4.here hx rfl (hb hby at_41) ?_
      show Steps p.tables e below (T4.setTop (mkF m 42 #[.val (.int p0), .val (.long q1), .second, .val (.ref w_BUY), .val (.long (q1 &&& (9223372036854775807 : Int64))), .second, .val (.long (9223372036854775807 : Int64)), .second] [(.long (0 : Int64)), (.long (9223372036854775807 : Int64)), (.ref w_BUY)])) _
      refine st6.trans ?_
      show Steps p.tables e below (T6.setTop (mkF m 45 #[.val (.int p0), .val (.long q1), .second, .val (.ref w_BUY), .val (.long (q1 &&& (9223372036854775807 : Int64))), .second, .val (.long (9223372036854775807 : Int64)), .second] [(.int (1 : Int32))])) _
      refine XS.ifNo X6.here hx rfl (hb hby at_45) rfl ((if0 _ _).trans (feq (by decide : ¬ ((1 : Int32) = (0 : Int32)))).1) ?_
      show Steps p.tables e below (T6.setTop (mkF m 48 #[.val (.int p0), .val (.long q1), .second, .val (.ref w_BUY), .val (.long (q1 &&& (9223372036854775807 : Int64))), .second, .val (.long (9223372036854775807 : Int64)), .second] [])) _
      refine XS.aloadN X6.here hx rfl (hb hby at_48) rfl rfl ?_
      show Steps p.tables e below (T6.setTop (mkF m 49 #[.val (.int p0), .val (.long q1), .second, .val (.ref w_BUY), .val (.long (q1 &&& (9223372036854775807 : Int64))), .second, .val (.long (9223372036854775807 : Int64)), .second] [(.ref w_BUY)])) _
      refine XS.lload X6.here hx rfl (hb hby at_49) rfl ?_
      show Steps p.tables e below (T6.setTop (mkF m 51 #[.val (.int p0), .val (.long q1), .second, .val (.ref w_BUY), .val (.long (q1 &&& (9223372036854775807 : Int64))), .second, .val (.long (9223372036854775807 : Int64)), .second] [(.long (9223372036854775807 : Int64)), (.ref w_BUY)])) _
      refine X6.ldc2Long hx hown (mvT hZ (hw _ (List.mem_of_getElem? (i := 3) rfl))) (g := (mkF m 51 #[.val (.int p0), .val (.long q1), .second, .val (.ref w_BUY), .val (.long (q1 &&& (9223372036854775807 : Int64))), .second, .val (.long (9223372036854775807 : Int64)), .second] [(.long (9223372036854775807 : Int64)), (.ref w_BUY)])) rfl (hb hby at_51) _ ?_
      show Steps p.tables e below (T6.setTop (mkF m 54 #[.val (.int p0), .val (.long q1), .second, .val (.ref w_BUY), .val (.long (q1 &&& (9223372036854775807 : Int64))), .second, .val (.long (9223372036854775807 : Int64)), .second] [(.long (9223372036854775807 : Int64)), (.long (9223372036854775807 : Int64)), (.ref w_BUY)])) _
      refine st7.trans ?_
      show Steps p.tables e below (T7.setTop (mkF m 57 #[.val (.int p0), .val (.long q1), .second, .val (.ref w_BUY), .val (.long (q1 &&& (9223372036854775807 : Int64))), .second, .val (.long (9223372036854775807 : Int64)), .second] [(.int (1 : Int32))])) _
      refine XS.ifNo X7.here hx rfl (hb hby at_57) rfl ((if0 _ _).trans (feq (by decide : ¬ ((1 : Int32) = (0 : Int32)))).1) ?_
      show Steps p.tables e below (T7.setTop (mkF m 60 #[.val (.int p0), .val (.long q1), .second, .val (.ref w_BUY), .val (.long (q1 &&& (9223372036854775807 : Int64))), .second, .val (.long (9223372036854775807 : Int64)), .second] [])) _
      refine XS.aloadN X7.here hx rfl (hb hby at_60) rfl rfl ?_
      show Steps p.tables e below (T7.setTop (mkF m 61 #[.val (.int p0), .val (.long q1), .second, .val (.ref w_BUY), .val (.long (q1 &&& (9223372036854775807 : Int64))), .second, .val (.long (9223372036854775807 : Int64)), .second] [(.ref w_BUY)])) _
      refine XS.lload X7.here hx rfl (hb hby at_61) rfl ?_
      show Steps p.tables e below (T7.setTop (mkF m 63 #[.val (.int p0), .val (.long q1), .second, .val (.ref w_BUY), .val (.long (q1 &&& (9223372036854775807 : Int64))), .second, .val (.long (9223372036854775807 : Int64)), .second] [(.long (9223372036854775807 : Int64)), (.ref w_BUY)])) _
      refine XS.lload X7.here hx rfl (hb hby at_63) rfl ?_
      show Steps p.tables e below (T7.setTop (mkF m 65 #[.val (.int p0), .val (.long q1), .second, .val (.ref w_BUY), .val (.long (q1 &&& (9223372036854775807 : Int64))), .second, .val (.long (9223372036854775807 : Int64)), .second] [(.long (q1 &&& (9223372036854775807 : Int64))), (.long (9223372036854775807 : Int64)), (.ref w_BUY)])) _
      refine st8.trans ?_
      show Steps p.tables e below (T8.setTop (mkF m 68 #[.val (.int p0), .val (.long q1), .second, .val (.ref w_BUY), .val (.long (q1 &&& (9223372036854775807 : Int64))), .second, .val (.long (9223372036854775807 : Int64)), .second] [(.int (1 : Int32))])) _
      refine XS.ifNo X8.here hx rfl (hb hby at_68) rfl ((if0 _ _).trans (feq (by decide : ¬ ((1 : Int32) = (0 : Int32)))).1) ?_
      show Steps p.tables e below (T8.setTop (mkF m 71 #[.val (.int p0), .val (.long q1), .second, .val (.ref w_BUY), .val (.long (q1 &&& (9223372036854775807 : Int64))), .second, .val (.long (9223372036854775807 : Int64)), .second] [])) _
      refine XS.iconst X8.here hx rfl (hb hby at_71) ?_
      show Steps p.tables e below (T8.setTop (mkF m 72 #[.val (.int p0), .val (.long q1), .second, .val (.ref w_BUY), .val (.long (q1 &&& (9223372036854775807 : Int64))), .second, .val (.long (9223372036854775807 : Int64)), .second] [(.int (1 : Int32))])) _
      refine XS.goto X8.here hx rfl (pc0 := 72) (pc' := 76) rfl (hb hby at_72) (by decide) (by decide) ?_
      show Steps p.tables e below (T8.setTop (mkF m 76 #[.val (.int p0), .val (.long q1), .second, .val (.ref w_BUY), .val (.long (q1 &&& (9223372036854775807 : Int64))), .second, .val (.long (9223372036854775807 : Int64)), .second] [(.int (1 : Int32))])) _
      exact retN X8 hx (t := .boolean) Bd.returns (by simp) (hb hby at_76) hr
    · show Qp (some (.int (1 : Int32))) h0 n0 _ T8.heap _
      rw [e8]
      exact ⟨rfl, N8, rfl⟩
  ·
    obtain ⟨T9, X9, e9, st9⟩ := getS2 X0 hx hZ hown (host := "") (Or.inl (hw _ (List.mem_of_getElem? (i := 16) rfl))) Via.refl e0 S_SELL (g := (mkF m 12 #[.val (.int p0), .val (.long q1), .second, .unset, .unset, .unset, .unset, .unset] [])) rfl (hb hby at_12)
    have hr10 : (0 : Int64) = v1 w_SELL w_BUY w_SELL := by unfold v1; rw [if_neg ne_SELL_BUY]
    obtain ⟨cq10, kq10, q10a, q10b, q10c⟩ := isOf hZ e9 (show Exa Z h0 w_SELL "com/example/orderwarden/orderwarden/Side" from E_SELL)
    obtain ⟨_, _, ⟨T10, L10, k10, n10⟩, -, X10, ⟨Lc10, hQ10, l10, y10, z10⟩, st10⟩ := X9.virtualBack hx (y := (⟨"com/example/orderwarden/orderwarden/Side", "loosestLimit", "()J"⟩ : MethodName)) (z := (⟨"com/example/orderwarden/orderwarden/Side", "loosestLimit", "()J"⟩ : MethodName)) hown (mvT hZ (hw _ (List.mem_of_getElem? (i := 4) rfl))) (mvT hZ (hw _ (List.mem_of_getElem? (i := 5) rfl))) (notFace_of_selects (args := #[]) (mvT hZ (hw _ (List.mem_of_getElem? (i := 7) rfl)))) (mvT hZ (hw _ (List.mem_of_getElem? (i := 7) rfl))) (mvT hZ (hw _ (List.mem_of_getElem? (i := 6) rfl))) (by decide) (backOf (W := 0) (rm1 l Z ar0 hw [] w_SELL w_BUY w_SELL h0 n0 Z0 F  (0 : Int64) hr10) hZ (hw _ (List.mem_of_getElem? (i := 8) rfl)) (hw _ (List.mem_of_getElem? (i := 1) rfl)) (by decide) (by decide)) q10a q10c (g := (mkF m 24 #[.val (.int p0), .val (.long q1), .second, .val (.ref w_SELL), .val (.long (q1 &&& (9223372036854775807 : Int64))), .second, .unset, .unset] [(.ref w_SELL)])) rfl (by rw [hml]; rfl) (Steps.refl _) (argsL := []) (rest := []) (lenOf pd_0_24 rfl) rfl (by show 2 * 0 + _ ≤ _; exact Nat.le_of_eq rfl) (hb hby at_24) (fun _ _ => ⟨rfl, e9, (by decide : 0 + 0 ≤ _), (by decide : 0 + 0 ≤ _)⟩)
    dsimp only [Pt.U, Pt.locs, Pt.cells, Pt.slots] at X10 l10 y10 z10 st10 hQ10
    subst l10 y10 z10
    obtain ⟨rfl, N10q, e10⟩ := hQ10
    have N10 := Fr.app N0 N10q
    have hk11 : ¬ ((lcmpW (0 : Int64) (0 : Int64)) < (0 : Int32)) := by decide
    have hr12 : (1 : Int32) = v2 w_SELL (0 : Int64) (0 : Int64) w_BUY w_SELL := own_sell ne_SELL_BUY (by decide)
    obtain ⟨cq12, kq12, q12a, q12b, q12c⟩ := isOf hZ e10 (show Exa Z h0 w_SELL "com/example/orderwarden/orderwarden/Side" from E_SELL)
    obtain ⟨_, _, ⟨T12, L12, k12, n12⟩, -, X12, ⟨Lc12, hQ12, l12, y12, z12⟩, st12⟩ := X10.virtualBack hx (y := (⟨"com/example/orderwarden/orderwarden/Side", "accepts", "(JJ)Z"⟩ : MethodName)) (z := (⟨"com/example/orderwarden/orderwarden/Side", "accepts", "(JJ)Z"⟩ : MethodName)) hown (mvT hZ (hw _ (List.mem_of_getElem? (i := 11) rfl))) (mvT hZ (hw _ (List.mem_of_getElem? (i := 12) rfl))) (notFace_of_selects (args := #[]) (mvT hZ (hw _ (List.mem_of_getElem? (i := 14) rfl)))) (mvT hZ (hw _ (List.mem_of_getElem? (i := 14) rfl))) (mvT hZ (hw _ (List.mem_of_getElem? (i := 13) rfl))) (by decide) (backOf (W := 0) (rm2 l Z ar0 hw [] w_SELL (0 : Int64) (0 : Int64) w_BUY w_SELL h0 n0 Z0 F  (1 : Int32) hr12) hZ (hw _ (List.mem_of_getElem? (i := 15) rfl)) (hw _ (List.mem_of_getElem? (i := 1) rfl)) (by decide) (by decide)) q12a q12c (g := (mkF m 42 #[.val (.int p0), .val (.long q1), .second, .val (.ref w_SELL), .val (.long (q1 &&& (9223372036854775807 : Int64))), .second, .val (.long (0 : Int64)), .second] [(.long (0 : Int64)), (.long (0 : Int64)), (.ref w_SELL)])) rfl (by rw [hml]; rfl) (Steps.refl _) (argsL := [(.long (0 : Int64)), (.long (0 : Int64))]) (rest := []) (lenOf pd_0_42 rfl) rfl (by show 2 * 0 + _ ≤ _; exact Nat.le_of_eq rfl) (hb hby at_42) (fun _ _ => ⟨rfl, e10, (by decide : 0 + 0 ≤ _), (by decide : 0 + 0 ≤ _)⟩)
    dsimp only [Pt.U, Pt.locs, Pt.cells, Pt.slots] at X12 l12 y12 z12 st12 hQ12
    subst l12 y12 z12
    obtain ⟨rfl, N12q, e12⟩ := hQ12
    have N12 := Fr.app N10 N12q
    have hr13 : (1 : Int32) = v2 w_SELL (0 : Int64) (9223372036854775807 : Int64) w_BUY w_SELL := own_sell ne_SELL_BUY (by decide)
    obtain ⟨cq13, kq13, q13a, q13b, q13c⟩ := isOf hZ e12 (show Exa Z h0 w_SELL "com/example/orderwarden/orderwarden/Side" from E_SELL)
    obtain ⟨_, _, ⟨T13, L13, k13, n13⟩, -, X13, ⟨Lc13, hQ13, l13, y13, z13⟩, st13⟩ := X12.virtualBack hx (y := (⟨"com/example/orderwarden/orderwarden/Side", "accepts", "(JJ)Z"⟩ : MethodName)) (z := (⟨"com/example/orderwarden/orderwarden/Side", "accepts", "(JJ)Z"⟩ : MethodName)) hown (mvT hZ (hw _ (List.mem_of_getElem? (i := 11) rfl))) (mvT hZ (hw _ (List.mem_of_getElem? (i := 12) rfl))) (notFace_of_selects (args := #[]) (mvT hZ (hw _ (List.mem_of_getElem? (i := 14) rfl)))) (mvT hZ (hw _ (List.mem_of_getElem? (i := 14) rfl))) (mvT hZ (hw _ (List.mem_of_getElem? (i := 13) rfl))) (by decide) (backOf (W := 0) (rm2 l Z ar0 hw [] w_SELL (0 : Int64) (9223372036854775807 : Int64) w_BUY w_SELL h0 n0 Z0 F  (1 : Int32) hr13) hZ (hw _ (List.mem_of_getElem? (i := 15) rfl)) (hw _ (List.mem_of_getElem? (i := 1) rfl)) (by decide) (by decide)) q13a q13c (g := (mkF m 54 #[.val (.int p0), .val (.long q1), .second, .val (.ref w_SELL), .val (.long (q1 &&& (9223372036854775807 : Int64))), .second, .val (.long (0 : Int64)), .second] [(.long (9223372036854775807 : Int64)), (.long (0 : Int64)), (.ref w_SELL)])) rfl (by rw [hml]; rfl) (Steps.refl _) (argsL := [(.long (0 : Int64)), (.long (9223372036854775807 : Int64))]) (rest := []) (lenOf pd_0_54 rfl) rfl (by show 2 * 0 + _ ≤ _; exact Nat.le_of_eq rfl) (hb hby at_54) (fun _ _ => ⟨rfl, e12, (by decide : 0 + 0 ≤ _), (by decide : 0 + 0 ≤ _)⟩)
    dsimp only [Pt.U, Pt.locs, Pt.cells, Pt.slots] at X13 l13 y13 z13 st13 hQ13
    subst l13 y13 z13
    obtain ⟨rfl, N13q, e13⟩ := hQ13
    have N13 := Fr.app N12 N13q
    have hr14 : (1 : Int32) = v2 w_SELL (0 : Int64) (q1 &&& (9223372036854775807 : Int64)) w_BUY w_SELL := own_sell ne_SELL_BUY (own_and _).1
    obtain ⟨cq14, kq14, q14a, q14b, q14c⟩ := isOf hZ e13 (show Exa Z h0 w_SELL "com/example/orderwarden/orderwarden/Side" from E_SELL)
    obtain ⟨_, _, ⟨T14, L14, k14, n14⟩, -, X14, ⟨Lc14, hQ14, l14, y14, z14⟩, st14⟩ := X13.virtualBack hx (y := (⟨"com/example/orderwarden/orderwarden/Side", "accepts", "(JJ)Z"⟩ : MethodName)) (z := (⟨"com/example/orderwarden/orderwarden/Side", "accepts", "(JJ)Z"⟩ : MethodName)) hown (mvT hZ (hw _ (List.mem_of_getElem? (i := 11) rfl))) (mvT hZ (hw _ (List.mem_of_getElem? (i := 12) rfl))) (notFace_of_selects (args := #[]) (mvT hZ (hw _ (List.mem_of_getElem? (i := 14) rfl)))) (mvT hZ (hw _ (List.mem_of_getElem? (i := 14) rfl))) (mvT hZ (hw _ (List.mem_of_getElem? (i := 13) rfl))) (by decide) (backOf (W := 0) (rm2 l Z ar0 hw [] w_SELL (0 : Int64) (q1 &&& (9223372036854775807 : Int64)) w_BUY w_SELL h0 n0 Z0 F  (1 : Int32) hr14) hZ (hw _ (List.mem_of_getElem? (i := 15) rfl)) (hw _ (List.mem_of_getElem? (i := 1) rfl)) (by decide) (by decide)) q14a q14c (g := (mkF m 65 #[.val (.int p0), .val (.long q1), .second, .val (.ref w_SELL), .val (.long (q1 &&& (9223372036854775807 : Int64))), .second, .val (.long (0 : Int64)), .second] [(.long (q1 &&& (9223372036854775807 : Int64))), (.long (0 : Int64)), (.ref w_SELL)])) rfl (by rw [hml]; rfl) (Steps.refl _) (argsL := [(.long (0 : Int64)), (.long (q1 &&& (9223372036854775807 : Int64)))]) (rest := []) (lenOf pd_0_65 rfl) rfl (by show 2 * 0 + _ ≤ _; exact Nat.le_of_eq rfl) (hb hby at_65) (fun _ _ => ⟨rfl, e13, (by decide : 0 + 0 ≤ _), (by decide : 0 + 0 ≤ _)⟩)
    dsimp only [Pt.U, Pt.locs, Pt.cells, Pt.slots] at X14 l14 y14 z14 st14 hQ14
    subst l14 y14 z14
    obtain ⟨rfl, N14q, e14⟩ := hQ14
    have N14 := Fr.app N13 N14q
    obtain ⟨fs, hr, hrun, hended, hW, hsame⟩ := X14.leave (v := some (.int (1 : Int32))) (fun h => by rw [Bd.returns] at h; cases h)
    refine ⟨_, _, pre1 _ ?_, hrun, hended, _, _, rfl, ?_, ⟨_, rfl⟩, hW, hsame.mono (by decide) (by decide)⟩
    · show Steps p.tables e below (s₁.setTop (mkF m 3 #[.val (.int p0), .val (.long q1), .second, .unset, .unset, .unset, .unset, .unset] [(.int (p0 &&& (1 : Int32)))])) _
      refine XS.ifYes X0.here hx rfl (pc0 := 3) (pc' := 12) rfl (hb hby at_3) rfl ((if0 _ _).trans (feq hc2).2) (by decide) (by decide) ?_
      show Steps p.tables e below (s₁.setTop (mkF m 12 #[.val (.int p0), .val (.long q1), .second, .unset, .unset, .unset, .unset, .unset] [])) _
      refine st9 _ ?_
      show Steps p.tables e below (T9.setTop (mkF m 15 #[.val (.int p0), .val (.long q1), .second, .unset, .unset, .unset, .unset, .unset] [(.ref w_SELL)])) _
      refine XS.astoreN X9.here hx rfl (hb hby at_15) rfl rfl (l' := #[.val (.int p0), .val (.long q1), .second, .val (.ref w_SELL), .unset, .unset, .unset, .unset]) rfl ?_
      show Steps p.tables e below (T9.setTop (mkF m 16 #[.val (.int p0), .val (.long q1), .second, .val (.ref w_SELL), .unset, .unset, .unset, .unset] [])) _
      refine XS.lloadN X9.here hx rfl (hb hby at_16) rfl ?_
      show Steps p.tables e below (T9.setTop (mkF m 17 #[.val (.int p0), .val (.long q1), .second, .val (.ref w_SELL), .unset, .unset, .unset, .unset] [(.long q1)])) _
      refine X9.ldc2Long hx hown (mvT hZ (hw _ (List.mem_of_getElem? (i := 3) rfl))) (g := (mkF m 17 #[.val (.int p0), .val (.long q1), .second, .val (.ref w_SELL), .unset, .unset, .unset, .unset] [(.long q1)])) rfl (hb hby at_17) _ ?_
      show Steps p.tables e below (T9.setTop (mkF m 20 #[.val (.int p0), .val (.long q1), .second, .val (.ref w_SELL), .unset, .unset, .unset, .unset] [(.long (9223372036854775807 : Int64)), (.long q1)])) _
      refine XS.land X9.here hx rfl (hb hby at_20) rfl ?_
      show Steps p.tables e below (T9.setTop (mkF m 21 #[.val (.int p0), .val (.long q1), .second, .val (.ref w_SELL), .unset, .unset, .unset, .unset] [(.long (q1 &&& (9223372036854775807 : Int64)))])) _
      refine XS.lstore X9.here hx rfl (hb hby at_21) rfl (l' := #[.val (.int p0), .val (.long q1), .second, .val (.ref w_SELL), .val (.long (q1 &&& (9223372036854775807 : Int64))), .second, .unset, .unset]) rfl ?_
      show Steps p.tables e below (T9.setTop (mkF m 23 #[.val (.int p0), .val (.long q1), .second, .val (.ref w_SELL), .val (.long (q1 &&& (9223372036854775807 : Int64))), .second, .unset, .unset] [])) _
      refine XS.aloadN X9.here hx rfl (hb hby at_23) rfl rfl ?_
      show Steps p.tables e below (T9.setTop (mkF m 24 #[.val (.int p0), .val (.long q1), .second, .val (.ref w_SELL), .val (.long (q1 &&& (9223372036854775807 : Int64))), .second, .unset, .unset] [(.ref w_SELL)])) _
      refine st10.trans ?_
      show Steps p.tables e below (T10.setTop (mkF m 27 #[.val (.int p0), .val (.long q1), .second, .val (.ref w_SELL), .val (.long (q1 &&& (9223372036854775807 : Int64))), .second, .unset, .unset] [(.long (0 : Int64))])) _
      refine XS.lstore X10.here hx rfl (hb hby at_27) rfl (l' := #[.val (.int p0), .val (.long q1), .second, .val (.ref w_SELL), .val (.long (q1 &&& (9223372036854775807 : Int64))), .second, .val (.long (0 : Int64)), .second]) rfl ?_
      show Steps p.tables e below (T10.setTop (mkF m 29 #[.val (.int p0), .val (.long q1), .second, .val (.ref w_SELL), .val (.long (q1 &&& (9223372036854775807 : Int64))), .second, .val (.long (0 : Int64)), .second] [])) _
      refine XS.lload X10.here hx rfl (hb hby at_29) rfl ?_
      show Steps p.tables e below (T10.setTop (mkF m 31 #[.val (.int p0), .val (.long q1), .second, .val (.ref w_SELL), .val (.long (q1 &&& (9223372036854775807 : Int64))), .second, .val (.long (0 : Int64)), .second] [(.long (0 : Int64))])) _
      refine XS.lconst X10.here hx rfl (hb hby at_31) ?_
      show Steps p.tables e below (T10.setTop (mkF m 32 #[.val (.int p0), .val (.long q1), .second, .val (.ref w_SELL), .val (.long (q1 &&& (9223372036854775807 : Int64))), .second, .val (.long (0 : Int64)), .second] [(.long (0 : Int64)), (.long (0 : Int64))])) _
      refine XS.lcmp X10.here hx rfl (hb hby at_32) rfl ?_
      show Steps p.tables e below (T10.setTop (mkF m 33 #[.val (.int p0), .val (.long q1), .second, .val (.ref w_SELL), .val (.long (q1 &&& (9223372036854775807 : Int64))), .second, .val (.long (0 : Int64)), .second] [(.int (lcmpW (0 : Int64) (0 : Int64)))])) _
      refine XS.ifYes X10.here hx rfl (pc0 := 33) (pc' := 38) rfl (hb hby at_33) rfl ((if0 _ _).trans (flt hk11).2.1) (by decide) (by decide) ?_
      show Steps p.tables e below (T10.setTop (mkF m 38 #[.val (.int p0), .val (.long q1), .second, .val (.ref w_SELL), .val (.long (q1 &&& (9223372036854775807 : Int64))), .second, .val (.long (0 : Int64)), .second] [])) _
      refine XS.aloadN X10.here hx rfl (hb hby at_38) rfl rfl ?_
      show Steps p.tables e below (T10.setTop (mkF m 39 #[.val (.int p0), .val (.long q1), .second, .val (.ref w_SELL), .val (.long (q1 &&& (9223372036854775807 : Int64))), .second, .val (.long (0 : Int64)), .second] [(.ref w_SELL)])) _
      refine XS.lload X10.here hx rfl (hb hby at_39) rfl ?_
      show Steps p.tables e below (T10.setTop (mkF m 41 #[.val (.int p0), .val (.long q1), .second, .val (.ref w_SELL), .val (.long (q1 &&& (9223372036854775807 : Int64))), .second, .val (.long (0 : Int64)), .second] [(.long (0 : Int64)), (.ref w_SELL)])) _
      refine XS.lconst X10.here hx rfl (hb hby at_41) ?_
      show Steps p.tables e below (T10.setTop (mkF m 42 #[.val (.int p0), .val (.long q1), .second, .val (.ref w_SELL), .val (.long (q1 &&& (9223372036854775807 : Int64))), .second, .val (.long (0 : Int64)), .second] [(.long (0 : Int64)), (.long (0 : Int64)), (.ref w_SELL)])) _
      refine st12.trans ?_
      show Steps p.tables e below (T12.setTop (mkF m 45 #[.val (.int p0), .val (.long q1), .second, .val (.ref w_SELL), .val (.long (q1 &&& (9223372036854775807 : Int64))), .second, .val (.long (0 : Int64)), .second] [(.int (1 : Int32))])) _
      refine XS.ifNo X12.here hx rfl (hb hby at_45) rfl ((if0 _ _).trans (feq (by decide : ¬ ((1 : Int32) = (0 : Int32)))).1) ?_
      show Steps p.tables e below (T12.setTop (mkF m 48 #[.val (.int p0), .val (.long q1), .second, .val (.ref w_SELL), .val (.long (q1 &&& (9223372036854775807 : Int64))), .second, .val (.long (0 : Int64)), .second] [])) _
      refine XS.aloadN X12.here hx rfl (hb hby at_48) rfl rfl ?_
      show Steps p.tables e below (T12.setTop (mkF m 49 #[.val (.int p0), .val (.long q1), .second, .val (.ref w_SELL), .val (.long (q1 &&& (9223372036854775807 : Int64))), .second, .val (.long (0 : Int64)), .second] [(.ref w_SELL)])) _
      refine XS.lload X12.here hx rfl (hb hby at_49) rfl ?_
      show Steps p.tables e below (T12.setTop (mkF m 51 #[.val (.int p0), .val (.long q1), .second, .val (.ref w_SELL), .val (.long (q1 &&& (9223372036854775807 : Int64))), .second, .val (.long (0 : Int64)), .second] [(.long (0 : Int64)), (.ref w_SELL)])) _
      refine X12.ldc2Long hx hown (mvT hZ (hw _ (List.mem_of_getElem? (i := 3) rfl))) (g := (mkF m 51 #[.val (.int p0), .val (.long q1), .second, .val (.ref w_SELL), .val (.long (q1 &&& (9223372036854775807 : Int64))), .second, .val (.long (0 : Int64)), .second] [(.long (0 : Int64)), (.ref w_SELL)])) rfl (hb hby at_51) _ ?_
      show Steps p.tables e below (T12.setTop (mkF m 54 #[.val (.int p0), .val (.long q1), .second, .val (.ref w_SELL), .val (.long (q1 &&& (9223372036854775807 : Int64))), .second, .val (.long (0 : Int64)), .second] [(.long (9223372036854775807 : Int64)), (.long (0 : Int64)), (.ref w_SELL)])) _
      refine st13.trans ?_
      show Steps p.tables e below (T13.setTop (mkF m 57 #[.val (.int p0), .val (.long q1), .second, .val (.ref w_SELL), .val (.long (q1 &&& (9223372036854775807 : Int64))), .second, .val (.long (0 : Int64)), .second] [(.int (1 : Int32))])) _
      refine XS.ifNo X13.here hx rfl (hb hby at_57) rfl ((if0 _ _).trans (feq (by decide : ¬ ((1 : Int32) = (0 : Int32)))).1) ?_
      show Steps p.tables e below (T13.setTop (mkF m 60 #[.val (.int p0), .val (.long q1), .second, .val (.ref w_SELL), .val (.long (q1 &&& (9223372036854775807 : Int64))), .second, .val (.long (0 : Int64)), .second] [])) _
      refine XS.aloadN X13.here hx rfl (hb hby at_60) rfl rfl ?_
      show Steps p.tables e below (T13.setTop (mkF m 61 #[.val (.int p0), .val (.long q1), .second, .val (.ref w_SELL), .val (.long (q1 &&& (9223372036854775807 : Int64))), .second, .val (.long (0 : Int64)), .second] [(.ref w_SELL)])) _
      refine XS.lload X13.here hx rfl (hb hby at_61) rfl ?_
      show Steps p.tables e below (T13.setTop (mkF m 63 #[.val (.int p0), .val (.long q1), .second, .val (.ref w_SELL), .val (.long (q1 &&& (9223372036854775807 : Int64))), .second, .val (.long (0 : Int64)), .second] [(.long (0 : Int64)), (.ref w_SELL)])) _
      refine XS.lload X13.here hx rfl (hb hby at_63) rfl ?_
      show Steps p.tables e below (T13.setTop (mkF m 65 #[.val (.int p0), .val (.long q1), .second, .val (.ref w_SELL), .val (.long (q1 &&& (9223372036854775807 : Int64))), .second, .val (.long (0 : Int64)), .second] [(.long (q1 &&& (9223372036854775807 : Int64))), (.long (0 : Int64)), (.ref w_SELL)])) _
      refine st14.trans ?_
      show Steps p.tables e below (T14.setTop (mkF m 68 #[.val (.int p0), .val (.long q1), .second, .val (.ref w_SELL), .val (.long (q1 &&& (9223372036854775807 : Int64))), .second, .val (.long (0 : Int64)), .second] [(.int (1 : Int32))])) _
      refine XS.ifNo X14.here hx rfl (hb hby at_68) rfl ((if0 _ _).trans (feq (by decide : ¬ ((1 : Int32) = (0 : Int32)))).1) ?_
      show Steps p.tables e below (T14.setTop (mkF m 71 #[.val (.int p0), .val (.long q1), .second, .val (.ref w_SELL), .val (.long (q1 &&& (9223372036854775807 : Int64))), .second, .val (.long (0 : Int64)), .second] [])) _
      refine XS.iconst X14.here hx rfl (hb hby at_71) ?_
      show Steps p.tables e below (T14.setTop (mkF m 72 #[.val (.int p0), .val (.long q1), .second, .val (.ref w_SELL), .val (.long (q1 &&& (9223372036854775807 : Int64))), .second, .val (.long (0 : Int64)), .second] [(.int (1 : Int32))])) _
      refine XS.goto X14.here hx rfl (pc0 := 72) (pc' := 76) rfl (hb hby at_72) (by decide) (by decide) ?_
      show Steps p.tables e below (T14.setTop (mkF m 76 #[.val (.int p0), .val (.long q1), .second, .val (.ref w_SELL), .val (.long (q1 &&& (9223372036854775807 : Int64))), .second, .val (.long (0 : Int64)), .second] [(.int (1 : Int32))])) _
      exact retN X14 hx (t := .boolean) Bd.returns (by simp) (hb hby at_76) hr
    · show Qp (some (.int (1 : Int32))) h0 n0 _ T14.heap _
      rw [e14]
      exact ⟨rfl, N14, rfl⟩

set_option maxRecDepth 65536 in
set_option maxHeartbeats 40000000 in
theorem comes_1 {Post : Tables → Env → Array Value → State → Outcome → State → Prop} (hpost : ∀ tb e args s v u, (limb_1_1.after args s (.returned v) u = true ∧ limb_1_2.after args s (.returned v) u = true ∧ True) → FrameEnd s (.returned v) u (Jvm.fieldLocs frame_1_writes args s ++ Jvm.arrayLocs frame_1_arrays args s ++ Jvm.staticLocs frame_1_statics s) 0 0 → Post tb e args s (.returned v) u) :
    ArmFor flags0 classFile x code maxLocals ret World_1 tables_1 room_1 Calls_1 rest_1 Pre_1 Post := by
  intro l hfl _ _ p e ha hc hk s m args below hf hA hF happ hP
  obtain ⟨hcalls, hrest, hpre⟩ := hP
  obtain ⟨-, -, -, hnamed, -, -, -, hat⟩ := (Spec.applies_iff hf).mp happ
  obtain ⟨hg, hn⟩ := and_e (Cond.before_iff.mp (show (Jvm.Cond.and given_1 narrow_1).before args s = true from hpre))
  obtain ⟨g0, hg⟩ := and_e hg
  obtain ⟨w0, w1, rfl⟩ : ∃ w0 w1 : Value, args = #[w0, w1] := by
    have hs : args.size = 2 := by simpa [Cond.value, given_1] using g0
    obtain ⟨L⟩ := args
    match L, hs with
    | [w0, w1], _ => exact ⟨w0, w1, rfl⟩
  have hw := fun d (hd : d ∈ tables_1) => atoms_spec (ws := Jvm.Cond.code x code maxLocals ret :: tables_1) hat d (List.mem_cons_of_mem _ hd)
  obtain ⟨g1, hg⟩ := and_e hg
  obtain ⟨i0, ei0⟩ := is_v g1
  obtain rfl : w0 = (.int i0) := Option.some.inj ei0
  obtain ⟨i1, ei1⟩ := isL_v hg
  obtain rfl : w1 = (.long i1) := Option.some.inj ei1
  obtain ⟨c0, hn⟩ := and_e hn
  obtain ⟨c1, hn⟩ := and_e hn
  obtain ⟨c2, hn⟩ := and_e hn
  have c3 := hn
  obtain ⟨w_BUY, ev_BUY⟩ := exa_v c0
  have S_BUY := Sta.start ev_BUY (Or.inr ⟨(hw _ (List.mem_of_getElem? (i := 1) rfl)), (hw _ (List.mem_of_getElem? (i := 2) rfl))⟩)
  have E_BUY := Exa.start ev_BUY c0
  obtain ⟨w_SELL, ev_SELL⟩ := exa_v c1
  have S_SELL := Sta.start ev_SELL (Or.inr ⟨(hw _ (List.mem_of_getElem? (i := 1) rfl)), (hw _ (List.mem_of_getElem? (i := 17) rfl))⟩)
  have E_SELL := Exa.start ev_SELL c1
  have F_ordinal_SELL := own_fld ev_SELL c2
  have F_ordinal_BUY := own_fld ev_BUY c3
  have F : Fx s s.heap w_BUY w_SELL := ⟨S_BUY, E_BUY, S_SELL, E_SELL, F_ordinal_SELL, F_ordinal_BUY⟩

  obtain ⟨n, o, h1, h2, h3, _, L, rfl, ⟨rfl, N, -⟩, hq⟩ := rm0 l s _ hw tables_1 i0 i1 w_BUY w_SELL s.heap s.heap.size (Nat.le_refl _) F  p e ha hc hk s m _ below hf ((Spec.applies_iff_loose hf).mp happ).1 ⟨rfl, State.Warmed39.refl s, rfl⟩ trivial
  refine ⟨n, _, h1, h2, h3, hpost _ _ _ _ _ _ ⟨Cond.after_iff.mpr rfl, Cond.after_iff.mpr (eq_i res_at (Term.int_eval (1)) rfl), trivial⟩ ⟨hq.1, hq.2.1, (hq.2.2.sift fun y hy => Or.inr (N y hy)).mono (by decide) (by decide)⟩⟩
theorem main_1_1 : Claimed_1_1 := comes_1 fun _ _ _ _ _ _ h hF => ⟨h.1, hF⟩
theorem main_1_2 : Claimed_1_2 := comes_1 fun _ _ _ _ _ _ h hF => ⟨h.2.1, hF⟩
end Jvm.Pilot.@@N@@
namespace Jvm.Pilot.@@N@@
open Jvm Jvm.ClassFile Sem Op Lib Jvm.Free Jvm.Stand Jvm.Pilot.@@N@@.Jvm.D
/-! MADE BY PROGRAM (witnessworld.py) out of the Statement's table words and the real class files: 12 classes; the members and pool entries that the words name. The judged class is class 1, her method 1. -/
namespace start1
open Jvm.ClassFile
def u (s : String) : CpInfo := .utf8 (stringToUtf16 s)
/-- a pool by its gaps: so many unusable entries, then the entry; so many at the end -/
def gap : Nat → List CpInfo → List CpInfo
  | 0, r => r
  | n + 1, r => .unusable :: gap n r
def poolList (es : List (Nat × CpInfo)) (last : Nat) : List CpInfo := es.foldr (fun e r => gap e.1 (e.2 :: r)) (gap last [])
def pool (es : List (Nat × CpInfo)) (last : Nat) : Array CpInfo := ⟨poolList es last⟩
def fileOf (pool : Array CpInfo) (this : Nat) (attrs : Array Attribute := #[]) (ms : Array MethodInfo := #[]) (fl : Nat := 33) (sup : Nat := 0) (ifs : Array Nat := #[]) (fds : Array FieldInfo := #[]) : ClassFile where
  minorVersion := 0
  majorVersion := 65
  constantPool := pool
  accessFlags := fl
  thisClass := this
  superClass := sup
  interfaces := ifs
  fields := fds
  methods := ms
  attributes := attrs
def plain (name : String) (sup : Option ClassId) : Class where
  name := name
  kind := .ordinary
  loader := none
  accessFlags := 33
  super := sup
  interfaces := #[]
  cf := none
  fields := #[]
  methods := #[]
  instanceTypes := #[]
  staticTypes := #[]
  resolved := #[]
  callSites := []
  init := .initialized
  statics := none
  mirror := none

def pool0 : Array CpInfo := pool [(5, u "<init>"), (0, u "()V"), (1, .class_ 10), (1, u "java/lang/Object")] 113

def k0m0 : Method := { name := "<init>", desc := "()V", sig := { parameters := [], returnType := none }, accessFlags := 1, code := none }
/-- java/lang/Object -/
def k0 : Class := { plain "java/lang/Object" none with
  accessFlags := 33
  interfaces := #[]
  cf := some (fileOf pool0 8 #[] #[{ accessFlags := 1, nameIndex := 5, descriptorIndex := 6, attributes := #[] }] 33 0 #[] #[])
  fields := #[]
  methods := #[k0m0]
  instanceTypes := #[]
  staticTypes := #[]
  resolved := Array.replicate 124 none
  statics := none }

def pool1 : Array CpInfo := pool [(2, .class_ 4), (1, u "java/lang/Object"), (0, u "<init>"), (0, u "()V"), (0, .fieldref 8 9), (0, .class_ 10), (0, .nameAndType 11 12), (0, u "com/example/orderwarden/orderwarden/Side"), (0, u "BUY"), (0, u "Lcom/example/orderwarden/orderwarden/Side;"), (0, .fieldref 8 14), (0, .nameAndType 15 12), (0, u "SELL"), (2, .long 9223372036854775807), (1, .methodref 8 21), (0, .nameAndType 22 23), (0, u "loosestLimit"), (0, u "()J"), (0, .methodref 8 25), (0, .nameAndType 26 27), (0, u "accepts"), (0, u "(JJ)Z"), (0, .class_ 29), (0, u "com/example/orderwarden/orderwarden/SideLoosestLimitPinLaw"), (2, u "law"), (0, u "(IJ)Z")] 3

def k1m0 : Method := { name := "<init>", desc := "()V", sig := { parameters := [], returnType := none }, accessFlags := 1, code := none }
def k1c1 : Code := { maxStack := 5, maxLocals := 8, code := code, exceptionTable := #[], attributes := #[] }
def k1m1 : Method := { name := "law", desc := "(IJ)Z", sig := { parameters := [.int, .long], returnType := some .boolean }, accessFlags := 9, code := some k1c1 }
/-- com/example/orderwarden/orderwarden/SideLoosestLimitPinLaw -/
def k1 : Class := { plain "com/example/orderwarden/orderwarden/SideLoosestLimitPinLaw" (some 0) with
  accessFlags := 49
  interfaces := #[]
  cf := some (fileOf pool1 28 #[] #[{ accessFlags := 1, nameIndex := 5, descriptorIndex := 6, attributes := #[] }, { accessFlags := 9, nameIndex := 32, descriptorIndex := 33, attributes := #[] }] 49 2 #[] #[])
  fields := #[]
  methods := #[k1m0, k1m1]
  instanceTypes := #[]
  staticTypes := #[]
  resolved := Array.replicate 37 none
  statics := none }

def pool2 : Array CpInfo := pool [(1, .class_ 2), (0, u "java/lang/constant/Constable"), (0, .class_ 4), (0, u "java/lang/Object")] 6

/-- java/lang/constant/Constable -/
def k2 : Class := { plain "java/lang/constant/Constable" (some 0) with
  accessFlags := 1537
  interfaces := #[]
  cf := some (fileOf pool2 1 #[] #[] 1537 3 #[] #[])
  fields := #[]
  methods := #[]
  instanceTypes := #[]
  staticTypes := #[]
  resolved := Array.replicate 11 none
  statics := none }

def pool3 : Array CpInfo := pool [(1, .class_ 2), (0, u "java/lang/Comparable"), (0, .class_ 4), (0, u "java/lang/Object")] 7

/-- java/lang/Comparable -/
def k3 : Class := { plain "java/lang/Comparable" (some 0) with
  accessFlags := 1537
  interfaces := #[]
  cf := some (fileOf pool3 1 #[] #[] 1537 3 #[] #[])
  fields := #[]
  methods := #[]
  instanceTypes := #[]
  staticTypes := #[]
  resolved := Array.replicate 12 none
  statics := none }

def pool4 : Array CpInfo := pool [(1, .class_ 2), (0, u "java/io/Serializable"), (0, .class_ 4), (0, u "java/lang/Object")] 2

/-- java/io/Serializable -/
def k4 : Class := { plain "java/io/Serializable" (some 0) with
  accessFlags := 1537
  interfaces := #[]
  cf := some (fileOf pool4 1 #[] #[] 1537 3 #[] #[])
  fields := #[]
  methods := #[]
  instanceTypes := #[]
  staticTypes := #[]
  resolved := Array.replicate 7 none
  statics := none }

def pool5 : Array CpInfo := pool [(2, .class_ 4), (1, u "java/lang/Enum"), (0, u "name"), (0, u "Ljava/lang/String;"), (2, u "ordinal"), (0, u "I"), (1, .class_ 14), (1, u "java/lang/Object"), (4, u "hash"), (86, .class_ 108), (1, u "java/lang/Enum$EnumDesc"), (2, .class_ 112), (0, u "java/lang/constant/Constable"), (0, .class_ 114), (0, u "java/lang/Comparable"), (0, .class_ 116), (0, u "java/io/Serializable")] 87

/-- java/lang/Enum -/
def k5 : Class := { plain "java/lang/Enum" (some 0) with
  accessFlags := 1057
  interfaces := #[2, 3, 4]
  cf := some (fileOf pool5 2 #[.nestMembers #[106]] #[] 1057 12 #[111, 113, 115] #[{ accessFlags := 18, nameIndex := 5, descriptorIndex := 6, attributes := #[] }, { accessFlags := 18, nameIndex := 9, descriptorIndex := 10, attributes := #[] }, { accessFlags := 2, nameIndex := 19, descriptorIndex := 10, attributes := #[] }])
  fields := #[{ name := "name", type := (.object "java/lang/String"), accessFlags := 18, slot := 0, constantValue := 0 }, { name := "ordinal", type := .int, accessFlags := 18, slot := 1, constantValue := 0 }, { name := "hash", type := .int, accessFlags := 2, slot := 2, constantValue := 0 }]
  methods := #[]
  instanceTypes := #[(.object "java/lang/String"), .int, .int]
  staticTypes := #[]
  resolved := Array.replicate 204 none
  statics := none }

def pool6 : Array CpInfo := pool [(1, .class_ 2), (0, u "com/example/orderwarden/orderwarden/Side"), (0, .fieldref 1 4), (0, .nameAndType 5 6), (0, u "BUY"), (0, u "Lcom/example/orderwarden/orderwarden/Side;"), (2, u "SELL"), (2, u "$VALUES"), (0, u "[Lcom/example/orderwarden/orderwarden/Side;"), (6, .class_ 22), (1, u "java/lang/Enum"), (8, .long 9223372036854775807), (28, u "loosestLimit"), (0, u "()J"), (0, u "accepts"), (0, u "(JJ)Z")] 6

def k6c0 : Code := { maxStack := 2, maxLocals := 1, code := prog_47_method_5_code, exceptionTable := #[], attributes := #[] }
def k6m0 : Method := { name := "loosestLimit", desc := "()J", sig := { parameters := [], returnType := some .long }, accessFlags := 1, code := some k6c0 }
def k6c1 : Code := { maxStack := 4, maxLocals := 5, code := prog_47_method_6_code, exceptionTable := #[], attributes := #[] }
def k6m1 : Method := { name := "accepts", desc := "(JJ)Z", sig := { parameters := [.long, .long], returnType := some .boolean }, accessFlags := 1, code := some k6c1 }
/-- com/example/orderwarden/orderwarden/Side -/
def k6 : Class := { plain "com/example/orderwarden/orderwarden/Side" (some 5) with
  accessFlags := 16433
  interfaces := #[]
  cf := some (fileOf pool6 1 #[] #[{ accessFlags := 1, nameIndex := 60, descriptorIndex := 61, attributes := #[] }, { accessFlags := 1, nameIndex := 62, descriptorIndex := 63, attributes := #[] }] 16433 20 #[] #[{ accessFlags := 16409, nameIndex := 5, descriptorIndex := 6, attributes := #[] }, { accessFlags := 16409, nameIndex := 9, descriptorIndex := 6, attributes := #[] }, { accessFlags := 4122, nameIndex := 12, descriptorIndex := 13, attributes := #[] }])
  fields := #[{ name := "BUY", type := (.object "com/example/orderwarden/orderwarden/Side"), accessFlags := 16409, slot := 0, constantValue := 0 }, { name := "SELL", type := (.object "com/example/orderwarden/orderwarden/Side"), accessFlags := 16409, slot := 1, constantValue := 0 }, { name := "$VALUES", type := (.array (.object "com/example/orderwarden/orderwarden/Side")), accessFlags := 4122, slot := 2, constantValue := 0 }]
  methods := #[k6m0, k6m1]
  instanceTypes := #[(.object "java/lang/String"), .int, .int]
  staticTypes := #[(.object "com/example/orderwarden/orderwarden/Side"), (.object "com/example/orderwarden/orderwarden/Side"), (.array (.object "com/example/orderwarden/orderwarden/Side"))]
  resolved := Array.replicate 70 none
  statics := some 0 }

def pool7 : Array CpInfo := pool [(1, u "java/lang/Cloneable"), (0, .class_ 1), (0, u "java/lang/Object"), (0, .class_ 3)] 3

/-- java/lang/Cloneable -/
def k7 : Class := { plain "java/lang/Cloneable" (some 0) with
  accessFlags := 1537
  interfaces := #[]
  cf := some (fileOf pool7 2 #[] #[] 1537 4 #[] #[])
  fields := #[]
  methods := #[]
  instanceTypes := #[]
  staticTypes := #[]
  resolved := Array.replicate 8 none
  statics := none }

/-- the primitive byte -/
def k8 : Class := { plain "byte" none with kind := .primitive 'B', accessFlags := 0x411 }
/-- [B -/
def k9 : Class := { plain "[B" (some 0) with kind := .array 8 .byte, interfaces := #[7, 4], accessFlags := 1041 }

/-- the primitive int -/
def k10 : Class := { plain "int" none with kind := .primitive 'I', accessFlags := 0x411 }
/-- [I -/
def k11 : Class := { plain "[I" (some 0) with kind := .array 10 .int, interfaces := #[7, 4], accessFlags := 1041 }

def heap : Heap := #[{ cls := 6, slots := #[.ref 1, .ref 2, .null], vm := .statics 6 },
  { cls := 6, slots := #[.null, .int 0, .int 0], vm := .none },
  { cls := 6, slots := #[.null, .int 1, .int 0], vm := .none }]
def classes : Array Class := #[k0, k1, k2, k3, k4, k5, k6, k7, k8, k9, k10, k11]
def interned : List (Array UInt16 × Addr) := []
def slotsUsed : Nat := 9
def theMethod : MethodId := ⟨1, 1⟩
def args0 : Array Value := #[.int 5, .long 7]
def aboutOver (below : List Frame) : State where
  vm := { classes := classes, interned := interned.toArray }
  heap := heap
  slotsUsed := slotsUsed
  threads := #[{ frames := .invoking theMethod args0 :: below }]
def below0 : List Frame := [.native { method := ⟨0, 0⟩, args := #[] }]
def about1 : State := aboutOver below0
def p0 : Program := .bare "" "" ""
def e0 : Env := launch0.env 0 0 0
theorem w_frames : about1.frames = Frame.invoking theMethod args0 :: below0 := rfl
set_option maxRecDepth 65536 in
theorem w_args : argsFit about1.vm theMethod args0 = true := by decide +kernel
set_option maxRecDepth 65536 in
theorem w_heap : heapFits about1 = true := by decide +kernel
set_option maxRecDepth 65536 in
theorem w_runnable : about1.curStatus? = some .runnable := by decide +kernel
set_option maxRecDepth 65536 in
theorem w_alone : about1.alone = true := by decide +kernel
set_option maxRecDepth 65536 in
theorem w_named : about1.methodNamed? x = some theMethod := by decide +kernel
set_option maxRecDepth 65536 in
theorem w_hears : about1.hears theMethod below0 = true := by decide +kernel
set_option maxRecDepth 65536 in
theorem w_ripe : about1.ripe theMethod args0 below0 = true := by decide +kernel
theorem w_running : about1.status = .running := rfl
set_option maxRecDepth 65536 in
theorem w_room : about1.hasRoom e0.platform room_1 = true :=
  launch0.hasRoom_least _ room_1 (by decide +kernel) (by decide +kernel) (by decide +kernel) (by decide +kernel) (by decide +kernel) (by decide +kernel)
theorem allAtoms_all (ts : List Jvm.Cond) (a : Array Jvm.Value) (st : Jvm.State) : (allAtoms ts).before a st = ts.all (fun c => c.before a st) := by
  induction ts with
  | nil => rfl
  | cons c t ih =>
    show (Jvm.Cond.and c (allAtoms t)).before a st = _
    rw [Jvm.Cond.before_and, ih, List.all_cons]
def words1 : List Jvm.Cond := Jvm.Cond.code x code maxLocals ret :: tables_1
/-- a 'code' word, met by the world's own term for the bytes: nothing is compared byte by byte -/
theorem code_word {y : MethodName} {bytes : ByteArray} {mx : Nat} {rt : Option FieldType} {a : Array Value} {s : State} {m : MethodId} {meth : Method} {c : Code} (h1 : s.methodNamed? y = some m) (h2 : s.vm.method? m = some meth) (h3 : meth.code = some c) (h4 : c.code = bytes)
    (h5 : (c.maxLocals == mx && c.exceptionTable.isEmpty && decide (c.maxStack ≤ mostOperands) && decide (meth.sig.returnType = rt) && !meth.locks && decide (parseMethodDescriptor y.desc = some meth.sig)) = true) : (Jvm.Cond.code y bytes mx rt).before a s = true := by
  simp only [Bool.and_eq_true, beq_iff_eq, Bool.not_eq_true', decide_eq_true_eq] at h5
  obtain ⟨⟨⟨⟨⟨g1, g2⟩, g3⟩, g4⟩, g5⟩, g6⟩ := h5
  simp [Cond.before, Cond.holds, Cond.value, h1, h2, h3, h4, g1, g2, g3, g4, g5, g6]
def isCode : Jvm.Cond → Bool
  | .code _ _ _ _ => true
  | _ => false
theorem all_split {L : List Jvm.Cond} {P : Jvm.Cond → Bool} (h1 : L.all (fun c => isCode c || P c) = true) (h2 : ∀ c ∈ L.filter isCode, P c = true) : L.all P = true := by
  refine List.all_eq_true.mpr fun c hc => ?_
  have h := List.all_eq_true.mp h1 c hc
  rcases Bool.eq_false_or_eq_true (isCode c) with hi | hi
  · exact h2 c (List.mem_filter.mpr ⟨hc, hi⟩)
  · simpa [hi] using h
set_option maxRecDepth 65536 in
theorem w_c0 : (Jvm.Cond.code x code maxLocals ret).before args0 about1 = true := code_word (m := ⟨1, 1⟩) (meth := k1m1) (c := k1c1) (by decide +kernel) rfl rfl rfl (by decide +kernel)
set_option maxRecDepth 65536 in
theorem w_c1 : (Jvm.Cond.code ({ cls := "com/example/orderwarden/orderwarden/Side", name := "loosestLimit", desc := "()J" } : Jvm.MethodName) prog_47_method_5_code (1 : Nat) (Option.some Jvm.ClassFile.FieldType.long)).before args0 about1 = true := code_word (m := ⟨6, 0⟩) (meth := k6m0) (c := k6c0) (by decide +kernel) rfl rfl rfl (by decide +kernel)
set_option maxRecDepth 65536 in
theorem w_c2 : (Jvm.Cond.code ({ cls := "com/example/orderwarden/orderwarden/Side", name := "accepts", desc := "(JJ)Z" } : Jvm.MethodName) prog_47_method_6_code (5 : Nat) (Option.some Jvm.ClassFile.FieldType.boolean)).before args0 about1 = true := code_word (m := ⟨6, 1⟩) (meth := k6m1) (c := k6c1) (by decide +kernel) rfl rfl rfl (by decide +kernel)
def codes1 : List Jvm.Cond := [Jvm.Cond.code x code maxLocals ret, Jvm.Cond.code ({ cls := "com/example/orderwarden/orderwarden/Side", name := "loosestLimit", desc := "()J" } : Jvm.MethodName) prog_47_method_5_code (1 : Nat) (Option.some Jvm.ClassFile.FieldType.long), Jvm.Cond.code ({ cls := "com/example/orderwarden/orderwarden/Side", name := "accepts", desc := "(JJ)Z" } : Jvm.MethodName) prog_47_method_6_code (5 : Nat) (Option.some Jvm.ClassFile.FieldType.boolean)]
set_option maxRecDepth 65536 in
theorem codes_eq : words1.filter isCode = codes1 := rfl
theorem w_codes : ∀ c ∈ words1.filter isCode, c.before args0 about1 = true := by
  rw [codes_eq]
  intro c hc
  simp only [codes1, List.mem_cons, List.not_mem_nil, or_false] at hc
  rcases hc with rfl | rfl | rfl
  · exact w_c0
  · exact w_c1
  · exact w_c2
set_option maxRecDepth 65536 in
theorem w_t1 : words1.all (fun c => isCode c || c.before args0 about1) = true := by decide +kernel
theorem w_tables : (allAtoms (Jvm.Cond.code x code maxLocals ret :: tables_1)).before args0 about1 = true := by
  rw [allAtoms_all]
  show words1.all (fun c => c.before args0 about1) = true
  refine all_split ?_ w_codes
  rw [w_t1]
set_option maxRecDepth 65536 in
theorem w_case : (Jvm.Cond.and given_1 narrow_1).before args0 about1 = true := by decide +kernel
theorem w_applies : (headSpec (Jvm.Cond.code x code maxLocals ret :: tables_1) room_1).applies x e0.platform about1 = true :=
  (Spec.applies_iff w_frames).mpr ⟨w_running, w_runnable, w_alone, w_named, w_hears, w_ripe, w_room, w_tables⟩
theorem atStart : AtStart classFile x code maxLocals ret World_1 tables_1 room_1 Calls_1 rest_1 Pre_1 launch0 p0 e0 about1 theMethod args0 below0 :=
  ⟨lists_1, trivial, launch0.admits_env _ _ _, launch0.least_env, fairChoices_fair.cas, fairChoices_fair.clock, w_frames, w_args, w_heap, w_applies, trivial, trivial, w_case⟩
end start1
theorem witness_1 : WitnessClaimed_1 := ⟨start1.p0, start1.e0, start1.about1, start1.theMethod, start1.args0, start1.below0, start1.atStart⟩
end Jvm.Pilot.@@N@@
