import JvmDerived
import JvmDerived.Pilot.@@N@@Statement
import JvmDerived.Pilot.@@N@@Code
set_option linter.unusedVariables false
set_option linter.unusedSimpArgs false
@@BLOCK:NumsL.lean.txt@@
namespace Jvm.RoadKit
open Sem ClassFile Op Lib Jvm.Stand Jvm.Free Jvm.LawKit
section New
variable {p : Program} {l : Launch} {e : Env} {R : Room} {s : State} {m : MethodId} {args : Array Value} {below : List Frame} {meth : Method} {c : Code} {T : State} {locs : List Loc} {cells slots : Nat}
theorem retI (X : Stand p l e R s m args below meth c T locs cells slots) (hx : p.tables.exec = Jvm.exec) {pc : Nat} {Ls : Array Slot} {z : Int32} {rest : List Value} (hret : meth.sig.returnType = some .int) (hd : decode c.code pc = .ok (.ireturn, 1)) {fs : List Frame}
    (hl : ∀ (f : JFrame) (acts : List Action), f.method = m → f.locked = none → f.entered = [] → (doReturn e (T.setTop f) acts (some (.int z))).1 = T.setFrames fs) : Steps p.tables e below (T.setTop (mkF m pc Ls (.int z :: rest))) (T.setFrames fs) := by
  have hm' : T.vm.method? m = some meth := X.method'
  have hn : narrow .int (.int z) = .int z := rfl
  show Steps p.tables e below (T.setTop { method := m, pc := pc, locals := Ls, stack := _ :: rest, locked := none }) _
  jvm_step X.here [X.here.top, hx, hd, hm', hret, hn]
  first | (intro acts; rw [hl _ acts rfl rfl rfl]) | rw [hl _ _ rfl rfl rfl]
  exact Steps.refl _
end New
end Jvm.RoadKit
namespace Jvm.Pilot.@@N@@
open Jvm Jvm.ClassFile Sem Op Lib Jvm.Free Jvm.Stand Jvm.LawKit Jvm.RoadKit Bundle Jvm.Pilot.@@N@@.Jvm.D
/-- what a body that writes nothing leaves -/
def Qp (r : Option Value) (h0 : Heap) (n0 : Nat) (v : Option Value) (h : Heap) (L : List Loc) : Prop := v = r ∧ Fr n0 L ∧ h = h0
theorem own_fld {args : Array Value} {s : State} {t : Term} {C n d : String} {x : Addr} {k : Int32} (ht : t.eval args s none [] s = some (.ref x)) (h : (Cond.eq (.field t C n d) (.int k)).value args s none s [] = some true) : Fld s s.heap x C n d (.int k) := by
  obtain ⟨u, v, a1, a2, k1, -⟩ := cmp_v (Or.inl h)
  have a3 : (Term.int k).eval args s none [] s = some (.int k) := rfl
  cases a3.symm.trans a2
  have a4 : u = .int k := by
    cases u <;> simp [Cond.value, a1, a3] at h ⊢
    exact h
  subst a4
  rw [fld_at ht] at a1
  exact Fld.start a1
theorem own_fld_inj {Z : State} {h : Heap} {a : Addr} {C n d : String} {v w : Value} (F : Fld Z h a C n d v) (G : Fld Z h a C n d w) : v = w := by
  obtain ⟨c1, cf1, k1, i1, f1, h1, h2, -, -, -, -, h7⟩ := F
  obtain ⟨c2, cf2, k2, i2, f2, g1, g2, -, -, -, -, g7⟩ := G
  cases h1.symm.trans g1
  cases h2.symm.trans g2
  exact Option.some.inj (h7.symm.trans g7)
theorem own_fld_ne {Z : State} {h : Heap} {a b : Addr} {C n d : String} {v w : Int32} (F : Fld Z h a C n d (.int v)) (G : Fld Z h b C n d (.int w)) (hn : ¬ v = w) : a ≠ b := fun q => by
  subst q
  exact hn (Value.int.inj (own_fld_inj F G))
theorem nar_ref (t : FieldType) (w : Value) (h : w.isRef = true) : narrow t w = w := by
  rcases ref_cases h with rfl | ⟨a, rfl⟩ <;> cases t <;> rfl
theorem own_cat {v : Value} (h : v.isRef = true) : v.category = 1 := by
  rcases ref_cases h with rfl | ⟨a, rfl⟩ <;> rfl
theorem own_ite_ref {c : Prop} [Decidable c] {a b : Value} (ha : a.isRef = true) (hb : b.isRef = true) : (if c then a else b).isRef = true := by
  split <;> assumption

def Fx (Z : State) (h : Heap) (w_SAME : Addr) (w_SAME_LOCALS_1_STACK_ITEM : Addr) (w_CHOP : Addr) (w_FULL_FRAME : Addr) (w_SAME_LOCALS_1_STACK_ITEM_EXTENDED : Addr) (w_APPEND : Addr) (w_SAME_FRAME_EXTENDED : Addr) : Prop := (Sta Z h "com/example/cafelens/cafelens/StackMapFrame$Kind" "SAME" "Lcom/example/cafelens/cafelens/StackMapFrame$Kind;" (.ref w_SAME)) ∧ (Exa Z h w_SAME "com/example/cafelens/cafelens/StackMapFrame$Kind") ∧ (Sta Z h "com/example/cafelens/cafelens/StackMapFrame$Kind" "SAME_LOCALS_1_STACK_ITEM" "Lcom/example/cafelens/cafelens/StackMapFrame$Kind;" (.ref w_SAME_LOCALS_1_STACK_ITEM)) ∧ (Exa Z h w_SAME_LOCALS_1_STACK_ITEM "com/example/cafelens/cafelens/StackMapFrame$Kind") ∧ (Sta Z h "com/example/cafelens/cafelens/StackMapFrame$Kind" "CHOP" "Lcom/example/cafelens/cafelens/StackMapFrame$Kind;" (.ref w_CHOP)) ∧ (Exa Z h w_CHOP "com/example/cafelens/cafelens/StackMapFrame$Kind") ∧ (Sta Z h "com/example/cafelens/cafelens/StackMapFrame$Kind" "FULL_FRAME" "Lcom/example/cafelens/cafelens/StackMapFrame$Kind;" (.ref w_FULL_FRAME)) ∧ (Exa Z h w_FULL_FRAME "com/example/cafelens/cafelens/StackMapFrame$Kind") ∧ (Sta Z h "com/example/cafelens/cafelens/StackMapFrame$Kind" "SAME_LOCALS_1_STACK_ITEM_EXTENDED" "Lcom/example/cafelens/cafelens/StackMapFrame$Kind;" (.ref w_SAME_LOCALS_1_STACK_ITEM_EXTENDED)) ∧ (Exa Z h w_SAME_LOCALS_1_STACK_ITEM_EXTENDED "com/example/cafelens/cafelens/StackMapFrame$Kind") ∧ (Sta Z h "com/example/cafelens/cafelens/StackMapFrame$Kind" "APPEND" "Lcom/example/cafelens/cafelens/StackMapFrame$Kind;" (.ref w_APPEND)) ∧ (Exa Z h w_APPEND "com/example/cafelens/cafelens/StackMapFrame$Kind") ∧ (Sta Z h "com/example/cafelens/cafelens/StackMapFrame$Kind" "SAME_FRAME_EXTENDED" "Lcom/example/cafelens/cafelens/StackMapFrame$Kind;" (.ref w_SAME_FRAME_EXTENDED)) ∧ (Exa Z h w_SAME_FRAME_EXTENDED "com/example/cafelens/cafelens/StackMapFrame$Kind")


theorem d1_0 : decode prog_97_method_4_code 0 = .ok (.iload_n 0, 1) := by decide +kernel
theorem d1_1 : decode prog_97_method_4_code 1 = .ok (.bipush 64, 2) := by decide +kernel
theorem d1_3 : decode prog_97_method_4_code 3 = .ok (.if_icmp .ge 7, 3) := by decide +kernel
theorem d1_6 : decode prog_97_method_4_code 6 = .ok (.getstatic 5, 3) := by decide +kernel
theorem d1_9 : decode prog_97_method_4_code 9 = .ok (.areturn, 1) := by decide +kernel
theorem d1_10 : decode prog_97_method_4_code 10 = .ok (.iload_n 0, 1) := by decide +kernel
theorem d1_11 : decode prog_97_method_4_code 11 = .ok (.sipush 128, 3) := by decide +kernel
theorem d1_14 : decode prog_97_method_4_code 14 = .ok (.if_icmp .ge 7, 3) := by decide +kernel
theorem d1_17 : decode prog_97_method_4_code 17 = .ok (.getstatic 9, 3) := by decide +kernel
theorem d1_20 : decode prog_97_method_4_code 20 = .ok (.areturn, 1) := by decide +kernel
theorem d1_21 : decode prog_97_method_4_code 21 = .ok (.iload_n 0, 1) := by decide +kernel
theorem d1_22 : decode prog_97_method_4_code 22 = .ok (.sipush 247, 3) := by decide +kernel
theorem d1_25 : decode prog_97_method_4_code 25 = .ok (.if_icmp .ge 5, 3) := by decide +kernel
theorem d1_28 : decode prog_97_method_4_code 28 = .ok (.aconst_null, 1) := by decide +kernel
theorem d1_29 : decode prog_97_method_4_code 29 = .ok (.areturn, 1) := by decide +kernel
theorem d1_30 : decode prog_97_method_4_code 30 = .ok (.iload_n 0, 1) := by decide +kernel
theorem d1_31 : decode prog_97_method_4_code 31 = .ok (.sipush 247, 3) := by decide +kernel
theorem d1_34 : decode prog_97_method_4_code 34 = .ok (.if_icmp .ne 7, 3) := by decide +kernel
theorem d1_37 : decode prog_97_method_4_code 37 = .ok (.getstatic 12, 3) := by decide +kernel
theorem d1_40 : decode prog_97_method_4_code 40 = .ok (.areturn, 1) := by decide +kernel
theorem d1_41 : decode prog_97_method_4_code 41 = .ok (.iload_n 0, 1) := by decide +kernel
theorem d1_42 : decode prog_97_method_4_code 42 = .ok (.sipush 251, 3) := by decide +kernel
theorem d1_45 : decode prog_97_method_4_code 45 = .ok (.if_icmp .ge 7, 3) := by decide +kernel
theorem d1_48 : decode prog_97_method_4_code 48 = .ok (.getstatic 15, 3) := by decide +kernel
theorem d1_51 : decode prog_97_method_4_code 51 = .ok (.areturn, 1) := by decide +kernel
theorem d1_52 : decode prog_97_method_4_code 52 = .ok (.iload_n 0, 1) := by decide +kernel
theorem d1_53 : decode prog_97_method_4_code 53 = .ok (.sipush 251, 3) := by decide +kernel
theorem d1_56 : decode prog_97_method_4_code 56 = .ok (.if_icmp .ne 7, 3) := by decide +kernel
theorem d1_59 : decode prog_97_method_4_code 59 = .ok (.getstatic 18, 3) := by decide +kernel
theorem d1_62 : decode prog_97_method_4_code 62 = .ok (.areturn, 1) := by decide +kernel
theorem d1_63 : decode prog_97_method_4_code 63 = .ok (.iload_n 0, 1) := by decide +kernel
theorem d1_64 : decode prog_97_method_4_code 64 = .ok (.sipush 255, 3) := by decide +kernel
theorem d1_67 : decode prog_97_method_4_code 67 = .ok (.if_icmp .ge 9, 3) := by decide +kernel
theorem d1_70 : decode prog_97_method_4_code 70 = .ok (.getstatic 21, 3) := by decide +kernel
theorem d1_73 : decode prog_97_method_4_code 73 = .ok (.goto 6, 3) := by decide +kernel
theorem d1_76 : decode prog_97_method_4_code 76 = .ok (.getstatic 24, 3) := by decide +kernel
theorem d1_79 : decode prog_97_method_4_code 79 = .ok (.areturn, 1) := by decide +kernel
theorem pn_1 : plainName "com/example/cafelens/cafelens/StackMapFrame$Kind" = true := by first | (simp [plainName, overriddenIn]; done) | decide +kernel
theorem ef_1 (m : MethodId) (p0 : Int32) : entryFrame m #[(.int p0)] 1 = mkF m 0 #[.val (.int p0)] [] := by first | (simp [entryFrame, mkF, argsToLocals, Value.category]; done) | rfl
def v1 (p0 : Int32) (w_SAME : Addr) (w_SAME_LOCALS_1_STACK_ITEM : Addr) (w_CHOP : Addr) (w_FULL_FRAME : Addr) (w_SAME_LOCALS_1_STACK_ITEM_EXTENDED : Addr) (w_APPEND : Addr) (w_SAME_FRAME_EXTENDED : Addr)  : Value := if p0 < (64 : Int32) then ((.ref w_SAME) : Value) else if p0 < (128 : Int32) then ((.ref w_SAME_LOCALS_1_STACK_ITEM) : Value) else if p0 < (247 : Int32) then (.null : Value) else if p0 = (247 : Int32) then ((.ref w_SAME_LOCALS_1_STACK_ITEM_EXTENDED) : Value) else if p0 < (251 : Int32) then ((.ref w_CHOP) : Value) else if p0 = (251 : Int32) then ((.ref w_SAME_FRAME_EXTENDED) : Value) else if p0 < (255 : Int32) then ((.ref w_APPEND) : Value) else ((.ref w_FULL_FRAME) : Value)
theorem v1_ref (p0 : Int32) (w_SAME : Addr) (w_SAME_LOCALS_1_STACK_ITEM : Addr) (w_CHOP : Addr) (w_FULL_FRAME : Addr) (w_SAME_LOCALS_1_STACK_ITEM_EXTENDED : Addr) (w_APPEND : Addr) (w_SAME_FRAME_EXTENDED : Addr) : (v1 p0 w_SAME w_SAME_LOCALS_1_STACK_ITEM w_CHOP w_FULL_FRAME w_SAME_LOCALS_1_STACK_ITEM_EXTENDED w_APPEND w_SAME_FRAME_EXTENDED).isRef = true := own_ite_ref rfl (own_ite_ref rfl (own_ite_ref rfl (own_ite_ref rfl (own_ite_ref rfl (own_ite_ref rfl (own_ite_ref rfl (rfl)))))))
set_option maxRecDepth 65536 in
set_option maxHeartbeats 40000000 in
theorem rm1 (l : Launch) (Z : State) (ar0 : Array Value) (hw : ∀ d ∈ tables_1, d.before ar0 Z = true) (ws : List Jvm.Cond) (p0 : Int32) (w_SAME : Addr) (w_SAME_LOCALS_1_STACK_ITEM : Addr) (w_CHOP : Addr) (w_FULL_FRAME : Addr) (w_SAME_LOCALS_1_STACK_ITEM_EXTENDED : Addr) (w_APPEND : Addr) (w_SAME_FRAME_EXTENDED : Addr) (h0 : Heap) (n0 : Nat) (Z0 : n0 ≤ h0.size) (F : Fx Z h0 w_SAME w_SAME_LOCALS_1_STACK_ITEM w_CHOP w_FULL_FRAME w_SAME_LOCALS_1_STACK_ITEM_EXTENDED w_APPEND w_SAME_FRAME_EXTENDED)  (r : Value) (hre : r = v1 p0 w_SAME w_SAME_LOCALS_1_STACK_ITEM w_CHOP w_FULL_FRAME w_SAME_LOCALS_1_STACK_ITEM_EXTENDED w_APPEND w_SAME_FRAME_EXTENDED) :
    MetFree l (⟨"com/example/cafelens/cafelens/StackMapFrame$Kind", "of", "(I)Lcom/example/cafelens/cafelens/StackMapFrame$Kind;"⟩ : MethodName) (head1 ((Jvm.Cond.code (⟨"com/example/cafelens/cafelens/StackMapFrame$Kind", "of", "(I)Lcom/example/cafelens/cafelens/StackMapFrame$Kind;"⟩ : MethodName) prog_97_method_4_code 1 (some (.object "com/example/cafelens/cafelens/StackMapFrame$Kind"))) :: ws) ({ frames := 0, cells := 0, slots := 0, locals := 0 } : Room)) (fun a U => a = #[(.int p0)] ∧ Z.Warmed39 U.vm ∧ U.heap = h0) (fun _ _ _ _ _ => True) (fun _ U o U' => ∃ v L, o = .returned v ∧ Qp (some r) h0 n0 v U'.heap L ∧ FrameEnd U o U' L ({ frames := 0, cells := 0, slots := 0, locals := 0 } : Room).cells ({ frames := 0, cells := 0, slots := 0, locals := 0 } : Room).slots) := by
  obtain ⟨S_SAME, E_SAME, S_SAME_LOCALS_1_STACK_ITEM, E_SAME_LOCALS_1_STACK_ITEM, S_CHOP, E_CHOP, S_FULL_FRAME, E_FULL_FRAME, S_SAME_LOCALS_1_STACK_ITEM_EXTENDED, E_SAME_LOCALS_1_STACK_ITEM_EXTENDED, S_APPEND, E_APPEND, S_SAME_FRAME_EXTENDED, E_SAME_FRAME_EXTENDED⟩ := id F
  refine MetFree.of_bodySF (plainFor_of_name pn_1) hisR ?_
  intro p e s m args below meth c s₁ Bd hml0 hP hK
  obtain ⟨rfl, hZ, hh⟩ := hP
  have hx := Bd.exec
  have hby := Bd.bytes
  have hml : c.maxLocals = 1 := hml0
  have hown : s.vm.findClass "com/example/cafelens/cafelens/StackMapFrame$Kind" = some m.cls := findClass_of_methodNamed Bd.named
  have X0 : Stand p l e ({ frames := 0, cells := 0, slots := 0, locals := 0 } : Room) s m #[(.int p0)] below meth c s₁ [] 0 0 := Stand.of_body Bd
  have e0 : s₁.heap = h0 := by rw [← hh, Bd.state]; rfl
  have N0 := Fr.nil n0
  have pre0 : ∀ t, Steps p.tables e below (s₁.setTop (mkF m 0 #[.val (.int p0)] [])) t → Steps p.tables e below (s₁.setTop (entryFrame m #[(.int p0)] 1)) t := fun t k => castTop (ef_1 m p0) k
  have pre1 : ∀ t, Steps p.tables e below (s₁.setTop (mkF m 3 #[.val (.int p0)] [(.int (64 : Int32)), (.int p0)])) t → Steps p.tables e below (s₁.setTop (entryFrame m #[(.int p0)] 1)) t := by
    intro t k
    refine pre0 _ ?_
    show Steps p.tables e below (s₁.setTop (mkF m 0 #[.val (.int p0)] [])) _
    refine XS.iloadN X0.here hx rfl (hb hby d1_0) rfl ?_
    show Steps p.tables e below (s₁.setTop (mkF m 1 #[.val (.int p0)] [(.int p0)])) _
    refine XS.bipush X0.here hx rfl (hb hby d1_1) ?_
    exact k
  by_cases hc2 : p0 < (64 : Int32)
  ·
    obtain ⟨T3, X3, e3, st3⟩ := getS2 X0 hx hZ hown (host := "") (Or.inl (hw _ (List.mem_of_getElem? (i := 4) rfl))) Via.refl e0 S_SAME (g := (mkF m 6 #[.val (.int p0)] [])) rfl (hb hby d1_6)
    have hv : (some r : Option Value) = some (.ref w_SAME) := by rw [hre]; unfold v1; rw [if_pos hc2]
    rw [hv]
    obtain ⟨fs, hr, hrun, hended, hW, hsame⟩ := X3.leave (v := some (.ref w_SAME)) (fun h => by rw [Bd.returns] at h; cases h)
    refine ⟨_, _, pre1 _ ?_, hrun, hended, _, _, rfl, ?_, ⟨_, rfl⟩, hW, hsame.mono (by decide) (by decide)⟩
    · show Steps p.tables e below (s₁.setTop (mkF m 3 #[.val (.int p0)] [(.int (64 : Int32)), (.int p0)])) _
      refine XS.icmpNo X0.here hx rfl (hb hby d1_3) rfl (tlt hc2).2.1 ?_
      show Steps p.tables e below (s₁.setTop (mkF m 6 #[.val (.int p0)] [])) _
      refine st3 _ ?_
      show Steps p.tables e below (T3.setTop (mkF m 9 #[.val (.int p0)] [(.ref w_SAME)])) _
      exact retOut X3 hx Bd.returns rfl (Or.inr (Or.inr (Or.inr (Or.inr ⟨rfl, rfl, rfl⟩)))) (hb hby d1_9) hr
    · show Qp (some (.ref w_SAME)) h0 n0 _ T3.heap _
      rw [e3]
      exact ⟨rfl, N0, rfl⟩
  ·
    have pre4 : ∀ t, Steps p.tables e below (s₁.setTop (mkF m 14 #[.val (.int p0)] [(.int (128 : Int32)), (.int p0)])) t → Steps p.tables e below (s₁.setTop (entryFrame m #[(.int p0)] 1)) t := by
      intro t k
      refine pre1 _ ?_
      show Steps p.tables e below (s₁.setTop (mkF m 3 #[.val (.int p0)] [(.int (64 : Int32)), (.int p0)])) _
      refine XS.icmpYes X0.here hx rfl (pc0 := 3) (pc' := 10) rfl (hb hby d1_3) rfl (flt hc2).2.1 (by decide) (by decide) ?_
      show Steps p.tables e below (s₁.setTop (mkF m 10 #[.val (.int p0)] [])) _
      refine XS.iloadN X0.here hx rfl (hb hby d1_10) rfl ?_
      show Steps p.tables e below (s₁.setTop (mkF m 11 #[.val (.int p0)] [(.int p0)])) _
      refine XS.sipush X0.here hx rfl (hb hby d1_11) ?_
      exact k
    by_cases hc5 : p0 < (128 : Int32)
    ·
      obtain ⟨T6, X6, e6, st6⟩ := getS2 X0 hx hZ hown (host := "") (Or.inl (hw _ (List.mem_of_getElem? (i := 11) rfl))) Via.refl e0 S_SAME_LOCALS_1_STACK_ITEM (g := (mkF m 17 #[.val (.int p0)] [])) rfl (hb hby d1_17)
      have hv : (some r : Option Value) = some (.ref w_SAME_LOCALS_1_STACK_ITEM) := by rw [hre]; unfold v1; rw [if_neg hc2, if_pos hc5]
      rw [hv]
      obtain ⟨fs, hr, hrun, hended, hW, hsame⟩ := X6.leave (v := some (.ref w_SAME_LOCALS_1_STACK_ITEM)) (fun h => by rw [Bd.returns] at h; cases h)
      refine ⟨_, _, pre4 _ ?_, hrun, hended, _, _, rfl, ?_, ⟨_, rfl⟩, hW, hsame.mono (by decide) (by decide)⟩
      · show Steps p.tables e below (s₁.setTop (mkF m 14 #[.val (.int p0)] [(.int (128 : Int32)), (.int p0)])) _
        refine XS.icmpNo X0.here hx rfl (hb hby d1_14) rfl (tlt hc5).2.1 ?_
        show Steps p.tables e below (s₁.setTop (mkF m 17 #[.val (.int p0)] [])) _
        refine st6 _ ?_
        show Steps p.tables e below (T6.setTop (mkF m 20 #[.val (.int p0)] [(.ref w_SAME_LOCALS_1_STACK_ITEM)])) _
        exact retOut X6 hx Bd.returns rfl (Or.inr (Or.inr (Or.inr (Or.inr ⟨rfl, rfl, rfl⟩)))) (hb hby d1_20) hr
      · show Qp (some (.ref w_SAME_LOCALS_1_STACK_ITEM)) h0 n0 _ T6.heap _
        rw [e6]
        exact ⟨rfl, N0, rfl⟩
    ·
      have pre7 : ∀ t, Steps p.tables e below (s₁.setTop (mkF m 25 #[.val (.int p0)] [(.int (247 : Int32)), (.int p0)])) t → Steps p.tables e below (s₁.setTop (entryFrame m #[(.int p0)] 1)) t := by
        intro t k
        refine pre4 _ ?_
        show Steps p.tables e below (s₁.setTop (mkF m 14 #[.val (.int p0)] [(.int (128 : Int32)), (.int p0)])) _
        refine XS.icmpYes X0.here hx rfl (pc0 := 14) (pc' := 21) rfl (hb hby d1_14) rfl (flt hc5).2.1 (by decide) (by decide) ?_
        show Steps p.tables e below (s₁.setTop (mkF m 21 #[.val (.int p0)] [])) _
        refine XS.iloadN X0.here hx rfl (hb hby d1_21) rfl ?_
        show Steps p.tables e below (s₁.setTop (mkF m 22 #[.val (.int p0)] [(.int p0)])) _
        refine XS.sipush X0.here hx rfl (hb hby d1_22) ?_
        exact k
      by_cases hc8 : p0 < (247 : Int32)
      ·
        have hv : (some r : Option Value) = some .null := by rw [hre]; unfold v1; rw [if_neg hc2, if_neg hc5, if_pos hc8]
        rw [hv]
        obtain ⟨fs, hr, hrun, hended, hW, hsame⟩ := X0.leave (v := some .null) (fun h => by rw [Bd.returns] at h; cases h)
        refine ⟨_, _, pre7 _ ?_, hrun, hended, _, _, rfl, ?_, ⟨_, rfl⟩, hW, hsame.mono (by decide) (by decide)⟩
        · show Steps p.tables e below (s₁.setTop (mkF m 25 #[.val (.int p0)] [(.int (247 : Int32)), (.int p0)])) _
          refine XS.icmpNo X0.here hx rfl (hb hby d1_25) rfl (tlt hc8).2.1 ?_
          show Steps p.tables e below (s₁.setTop (mkF m 28 #[.val (.int p0)] [])) _
          refine XS.aconstNull X0.here hx rfl (hb hby d1_28) ?_
          show Steps p.tables e below (s₁.setTop (mkF m 29 #[.val (.int p0)] [.null])) _
          exact retOut X0 hx Bd.returns rfl (Or.inr (Or.inr (Or.inr (Or.inr ⟨rfl, rfl, rfl⟩)))) (hb hby d1_29) hr
        · show Qp (some .null) h0 n0 _ s₁.heap _
          rw [e0]
          exact ⟨rfl, N0, rfl⟩
      ·
        have pre9 : ∀ t, Steps p.tables e below (s₁.setTop (mkF m 34 #[.val (.int p0)] [(.int (247 : Int32)), (.int p0)])) t → Steps p.tables e below (s₁.setTop (entryFrame m #[(.int p0)] 1)) t := by
          intro t k
          refine pre7 _ ?_
          show Steps p.tables e below (s₁.setTop (mkF m 25 #[.val (.int p0)] [(.int (247 : Int32)), (.int p0)])) _
          refine XS.icmpYes X0.here hx rfl (pc0 := 25) (pc' := 30) rfl (hb hby d1_25) rfl (flt hc8).2.1 (by decide) (by decide) ?_
          show Steps p.tables e below (s₁.setTop (mkF m 30 #[.val (.int p0)] [])) _
          refine XS.iloadN X0.here hx rfl (hb hby d1_30) rfl ?_
          show Steps p.tables e below (s₁.setTop (mkF m 31 #[.val (.int p0)] [(.int p0)])) _
          refine XS.sipush X0.here hx rfl (hb hby d1_31) ?_
          exact k
        by_cases hc10 : p0 = (247 : Int32)
        ·
          obtain ⟨T11, X11, e11, st11⟩ := getS2 X0 hx hZ hown (host := "") (Or.inl (hw _ (List.mem_of_getElem? (i := 20) rfl))) Via.refl e0 S_SAME_LOCALS_1_STACK_ITEM_EXTENDED (g := (mkF m 37 #[.val (.int p0)] [])) rfl (hb hby d1_37)
          have hv : (some r : Option Value) = some (.ref w_SAME_LOCALS_1_STACK_ITEM_EXTENDED) := by rw [hre]; unfold v1; rw [if_neg hc2, if_neg hc5, if_neg hc8, if_pos hc10]
          rw [hv]
          obtain ⟨fs, hr, hrun, hended, hW, hsame⟩ := X11.leave (v := some (.ref w_SAME_LOCALS_1_STACK_ITEM_EXTENDED)) (fun h => by rw [Bd.returns] at h; cases h)
          refine ⟨_, _, pre9 _ ?_, hrun, hended, _, _, rfl, ?_, ⟨_, rfl⟩, hW, hsame.mono (by decide) (by decide)⟩
          · show Steps p.tables e below (s₁.setTop (mkF m 34 #[.val (.int p0)] [(.int (247 : Int32)), (.int p0)])) _
            refine XS.icmpNo X0.here hx rfl (hb hby d1_34) rfl (teq hc10).2 ?_
            show Steps p.tables e below (s₁.setTop (mkF m 37 #[.val (.int p0)] [])) _
            refine st11 _ ?_
            show Steps p.tables e below (T11.setTop (mkF m 40 #[.val (.int p0)] [(.ref w_SAME_LOCALS_1_STACK_ITEM_EXTENDED)])) _
            exact retOut X11 hx Bd.returns rfl (Or.inr (Or.inr (Or.inr (Or.inr ⟨rfl, rfl, rfl⟩)))) (hb hby d1_40) hr
          · show Qp (some (.ref w_SAME_LOCALS_1_STACK_ITEM_EXTENDED)) h0 n0 _ T11.heap _
            rw [e11]
            exact ⟨rfl, N0, rfl⟩
        ·
          have pre12 : ∀ t, Steps p.tables e below (s₁.setTop (mkF m 45 #[.val (.int p0)] [(.int (251 : Int32)), (.int p0)])) t → Steps p.tables e below (s₁.setTop (entryFrame m #[(.int p0)] 1)) t := by
            intro t k
            refine pre9 _ ?_
            show Steps p.tables e below (s₁.setTop (mkF m 34 #[.val (.int p0)] [(.int (247 : Int32)), (.int p0)])) _
            refine XS.icmpYes X0.here hx rfl (pc0 := 34) (pc' := 41) rfl (hb hby d1_34) rfl (feq hc10).2 (by decide) (by decide) ?_
            show Steps p.tables e below (s₁.setTop (mkF m 41 #[.val (.int p0)] [])) _
            refine XS.iloadN X0.here hx rfl (hb hby d1_41) rfl ?_
            show Steps p.tables e below (s₁.setTop (mkF m 42 #[.val (.int p0)] [(.int p0)])) _
            refine XS.sipush X0.here hx rfl (hb hby d1_42) ?_
            exact k
          by_cases hc13 : p0 < (251 : Int32)
          ·
            obtain ⟨T14, X14, e14, st14⟩ := getS2 X0 hx hZ hown (host := "") (Or.inl (hw _ (List.mem_of_getElem? (i := 14) rfl))) Via.refl e0 S_CHOP (g := (mkF m 48 #[.val (.int p0)] [])) rfl (hb hby d1_48)
            have hv : (some r : Option Value) = some (.ref w_CHOP) := by rw [hre]; unfold v1; rw [if_neg hc2, if_neg hc5, if_neg hc8, if_neg hc10, if_pos hc13]
            rw [hv]
            obtain ⟨fs, hr, hrun, hended, hW, hsame⟩ := X14.leave (v := some (.ref w_CHOP)) (fun h => by rw [Bd.returns] at h; cases h)
            refine ⟨_, _, pre12 _ ?_, hrun, hended, _, _, rfl, ?_, ⟨_, rfl⟩, hW, hsame.mono (by decide) (by decide)⟩
            · show Steps p.tables e below (s₁.setTop (mkF m 45 #[.val (.int p0)] [(.int (251 : Int32)), (.int p0)])) _
              refine XS.icmpNo X0.here hx rfl (hb hby d1_45) rfl (tlt hc13).2.1 ?_
              show Steps p.tables e below (s₁.setTop (mkF m 48 #[.val (.int p0)] [])) _
              refine st14 _ ?_
              show Steps p.tables e below (T14.setTop (mkF m 51 #[.val (.int p0)] [(.ref w_CHOP)])) _
              exact retOut X14 hx Bd.returns rfl (Or.inr (Or.inr (Or.inr (Or.inr ⟨rfl, rfl, rfl⟩)))) (hb hby d1_51) hr
            · show Qp (some (.ref w_CHOP)) h0 n0 _ T14.heap _
              rw [e14]
              exact ⟨rfl, N0, rfl⟩
          ·
            have pre15 : ∀ t, Steps p.tables e below (s₁.setTop (mkF m 56 #[.val (.int p0)] [(.int (251 : Int32)), (.int p0)])) t → Steps p.tables e below (s₁.setTop (entryFrame m #[(.int p0)] 1)) t := by
              intro t k
              refine pre12 _ ?_
              show Steps p.tables e below (s₁.setTop (mkF m 45 #[.val (.int p0)] [(.int (251 : Int32)), (.int p0)])) _
              refine XS.icmpYes X0.here hx rfl (pc0 := 45) (pc' := 52) rfl (hb hby d1_45) rfl (flt hc13).2.1 (by decide) (by decide) ?_
              show Steps p.tables e below (s₁.setTop (mkF m 52 #[.val (.int p0)] [])) _
              refine XS.iloadN X0.here hx rfl (hb hby d1_52) rfl ?_
              show Steps p.tables e below (s₁.setTop (mkF m 53 #[.val (.int p0)] [(.int p0)])) _
              refine XS.sipush X0.here hx rfl (hb hby d1_53) ?_
              exact k
            by_cases hc16 : p0 = (251 : Int32)
            ·
              obtain ⟨T17, X17, e17, st17⟩ := getS2 X0 hx hZ hown (host := "") (Or.inl (hw _ (List.mem_of_getElem? (i := 26) rfl))) Via.refl e0 S_SAME_FRAME_EXTENDED (g := (mkF m 59 #[.val (.int p0)] [])) rfl (hb hby d1_59)
              have hv : (some r : Option Value) = some (.ref w_SAME_FRAME_EXTENDED) := by rw [hre]; unfold v1; rw [if_neg hc2, if_neg hc5, if_neg hc8, if_neg hc10, if_neg hc13, if_pos hc16]
              rw [hv]
              obtain ⟨fs, hr, hrun, hended, hW, hsame⟩ := X17.leave (v := some (.ref w_SAME_FRAME_EXTENDED)) (fun h => by rw [Bd.returns] at h; cases h)
              refine ⟨_, _, pre15 _ ?_, hrun, hended, _, _, rfl, ?_, ⟨_, rfl⟩, hW, hsame.mono (by decide) (by decide)⟩
              · show Steps p.tables e below (s₁.setTop (mkF m 56 #[.val (.int p0)] [(.int (251 : Int32)), (.int p0)])) _
                refine XS.icmpNo X0.here hx rfl (hb hby d1_56) rfl (teq hc16).2 ?_
                show Steps p.tables e below (s₁.setTop (mkF m 59 #[.val (.int p0)] [])) _
                refine st17 _ ?_
                show Steps p.tables e below (T17.setTop (mkF m 62 #[.val (.int p0)] [(.ref w_SAME_FRAME_EXTENDED)])) _
                exact retOut X17 hx Bd.returns rfl (Or.inr (Or.inr (Or.inr (Or.inr ⟨rfl, rfl, rfl⟩)))) (hb hby d1_62) hr
              · show Qp (some (.ref w_SAME_FRAME_EXTENDED)) h0 n0 _ T17.heap _
                rw [e17]
                exact ⟨rfl, N0, rfl⟩
            ·
              have pre18 : ∀ t, Steps p.tables e below (s₁.setTop (mkF m 67 #[.val (.int p0)] [(.int (255 : Int32)), (.int p0)])) t → Steps p.tables e below (s₁.setTop (entryFrame m #[(.int p0)] 1)) t := by
                intro t k
                refine pre15 _ ?_
                show Steps p.tables e below (s₁.setTop (mkF m 56 #[.val (.int p0)] [(.int (251 : Int32)), (.int p0)])) _
                refine XS.icmpYes X0.here hx rfl (pc0 := 56) (pc' := 63) rfl (hb hby d1_56) rfl (feq hc16).2 (by decide) (by decide) ?_
                show Steps p.tables e below (s₁.setTop (mkF m 63 #[.val (.int p0)] [])) _
                refine XS.iloadN X0.here hx rfl (hb hby d1_63) rfl ?_
                show Steps p.tables e below (s₁.setTop (mkF m 64 #[.val (.int p0)] [(.int p0)])) _
                refine XS.sipush X0.here hx rfl (hb hby d1_64) ?_
                exact k
              by_cases hc19 : p0 < (255 : Int32)
              ·
                obtain ⟨T20, X20, e20, st20⟩ := getS2 X0 hx hZ hown (host := "") (Or.inl (hw _ (List.mem_of_getElem? (i := 23) rfl))) Via.refl e0 S_APPEND (g := (mkF m 70 #[.val (.int p0)] [])) rfl (hb hby d1_70)
                have hv : (some r : Option Value) = some (.ref w_APPEND) := by rw [hre]; unfold v1; rw [if_neg hc2, if_neg hc5, if_neg hc8, if_neg hc10, if_neg hc13, if_neg hc16, if_pos hc19]
                rw [hv]
                obtain ⟨fs, hr, hrun, hended, hW, hsame⟩ := X20.leave (v := some (.ref w_APPEND)) (fun h => by rw [Bd.returns] at h; cases h)
                refine ⟨_, _, pre18 _ ?_, hrun, hended, _, _, rfl, ?_, ⟨_, rfl⟩, hW, hsame.mono (by decide) (by decide)⟩
                · show Steps p.tables e below (s₁.setTop (mkF m 67 #[.val (.int p0)] [(.int (255 : Int32)), (.int p0)])) _
                  refine XS.icmpNo X0.here hx rfl (hb hby d1_67) rfl (tlt hc19).2.1 ?_
                  show Steps p.tables e below (s₁.setTop (mkF m 70 #[.val (.int p0)] [])) _
                  refine st20 _ ?_
                  show Steps p.tables e below (T20.setTop (mkF m 73 #[.val (.int p0)] [(.ref w_APPEND)])) _
                  refine XS.goto X20.here hx rfl (pc0 := 73) (pc' := 79) rfl (hb hby d1_73) (by decide) (by decide) ?_
                  show Steps p.tables e below (T20.setTop (mkF m 79 #[.val (.int p0)] [(.ref w_APPEND)])) _
                  exact retOut X20 hx Bd.returns rfl (Or.inr (Or.inr (Or.inr (Or.inr ⟨rfl, rfl, rfl⟩)))) (hb hby d1_79) hr
                · show Qp (some (.ref w_APPEND)) h0 n0 _ T20.heap _
                  rw [e20]
                  exact ⟨rfl, N0, rfl⟩
              ·
                obtain ⟨T21, X21, e21, st21⟩ := getS2 X0 hx hZ hown (host := "") (Or.inl (hw _ (List.mem_of_getElem? (i := 17) rfl))) Via.refl e0 S_FULL_FRAME (g := (mkF m 76 #[.val (.int p0)] [])) rfl (hb hby d1_76)
                have hv : (some r : Option Value) = some (.ref w_FULL_FRAME) := by rw [hre]; unfold v1; rw [if_neg hc2, if_neg hc5, if_neg hc8, if_neg hc10, if_neg hc13, if_neg hc16, if_neg hc19]
                rw [hv]
                obtain ⟨fs, hr, hrun, hended, hW, hsame⟩ := X21.leave (v := some (.ref w_FULL_FRAME)) (fun h => by rw [Bd.returns] at h; cases h)
                refine ⟨_, _, pre18 _ ?_, hrun, hended, _, _, rfl, ?_, ⟨_, rfl⟩, hW, hsame.mono (by decide) (by decide)⟩
                · show Steps p.tables e below (s₁.setTop (mkF m 67 #[.val (.int p0)] [(.int (255 : Int32)), (.int p0)])) _
                  refine XS.icmpYes X0.here hx rfl (pc0 := 67) (pc' := 76) rfl (hb hby d1_67) rfl (flt hc19).2.1 (by decide) (by decide) ?_
                  show Steps p.tables e below (s₁.setTop (mkF m 76 #[.val (.int p0)] [])) _
                  refine st21 _ ?_
                  show Steps p.tables e below (T21.setTop (mkF m 79 #[.val (.int p0)] [(.ref w_FULL_FRAME)])) _
                  exact retOut X21 hx Bd.returns rfl (Or.inr (Or.inr (Or.inr (Or.inr ⟨rfl, rfl, rfl⟩)))) (hb hby d1_79) hr
                · show Qp (some (.ref w_FULL_FRAME)) h0 n0 _ T21.heap _
                  rw [e21]
                  exact ⟨rfl, N0, rfl⟩

theorem d2_0 : decode method_2_code 0 = .ok (.iload_n 0, 1) := by decide +kernel
theorem d2_1 : decode method_2_code 1 = .ok (.bipush 6, 2) := by decide +kernel
theorem d2_3 : decode method_2_code 3 = .ok (.ishr, 1) := by decide +kernel
theorem d2_4 : decode method_2_code 4 = .ok (.istore_n 1, 1) := by decide +kernel
theorem d2_5 : decode method_2_code 5 = .ok (.iload_n 1, 1) := by decide +kernel
theorem d2_6 : decode method_2_code 6 = .ok (.ifCond .ne 7, 3) := by decide +kernel
theorem d2_9 : decode method_2_code 9 = .ok (.getstatic 7, 3) := by decide +kernel
theorem d2_12 : decode method_2_code 12 = .ok (.areturn, 1) := by decide +kernel
theorem d2_13 : decode method_2_code 13 = .ok (.iload_n 1, 1) := by decide +kernel
theorem d2_14 : decode method_2_code 14 = .ok (.iconst 1, 1) := by decide +kernel
theorem d2_15 : decode method_2_code 15 = .ok (.if_icmp .ne 7, 3) := by decide +kernel
theorem d2_18 : decode method_2_code 18 = .ok (.getstatic 13, 3) := by decide +kernel
theorem d2_21 : decode method_2_code 21 = .ok (.areturn, 1) := by decide +kernel
theorem d2_22 : decode method_2_code 22 = .ok (.iload_n 0, 1) := by decide +kernel
theorem d2_23 : decode method_2_code 23 = .ok (.sipush 247, 3) := by decide +kernel
theorem d2_26 : decode method_2_code 26 = .ok (.isub, 1) := by decide +kernel
theorem d2_27 : decode method_2_code 27 = .ok (.istore_n 2, 1) := by decide +kernel
theorem d2_28 : decode method_2_code 28 = .ok (.iload_n 2, 1) := by decide +kernel
theorem d2_29 : decode method_2_code 29 = .ok (.ifCond .ge 5, 3) := by decide +kernel
theorem d2_32 : decode method_2_code 32 = .ok (.aconst_null, 1) := by decide +kernel
theorem d2_33 : decode method_2_code 33 = .ok (.areturn, 1) := by decide +kernel
theorem d2_34 : decode method_2_code 34 = .ok (.iload_n 2, 1) := by decide +kernel
theorem d2_35 : decode method_2_code 35 = .ok (.ifCond .ne 7, 3) := by decide +kernel
theorem d2_38 : decode method_2_code 38 = .ok (.getstatic 16, 3) := by decide +kernel
theorem d2_41 : decode method_2_code 41 = .ok (.areturn, 1) := by decide +kernel
theorem d2_42 : decode method_2_code 42 = .ok (.iload_n 2, 1) := by decide +kernel
theorem d2_43 : decode method_2_code 43 = .ok (.iconst 1, 1) := by decide +kernel
theorem d2_44 : decode method_2_code 44 = .ok (.if_icmp .lt 12, 3) := by decide +kernel
theorem d2_47 : decode method_2_code 47 = .ok (.iload_n 2, 1) := by decide +kernel
theorem d2_48 : decode method_2_code 48 = .ok (.iconst 3, 1) := by decide +kernel
theorem d2_49 : decode method_2_code 49 = .ok (.if_icmp .gt 7, 3) := by decide +kernel
theorem d2_52 : decode method_2_code 52 = .ok (.getstatic 19, 3) := by decide +kernel
theorem d2_55 : decode method_2_code 55 = .ok (.areturn, 1) := by decide +kernel
theorem d2_56 : decode method_2_code 56 = .ok (.iload_n 2, 1) := by decide +kernel
theorem d2_57 : decode method_2_code 57 = .ok (.iconst 4, 1) := by decide +kernel
theorem d2_58 : decode method_2_code 58 = .ok (.if_icmp .ne 7, 3) := by decide +kernel
theorem d2_61 : decode method_2_code 61 = .ok (.getstatic 22, 3) := by decide +kernel
theorem d2_64 : decode method_2_code 64 = .ok (.areturn, 1) := by decide +kernel
theorem d2_65 : decode method_2_code 65 = .ok (.iload_n 2, 1) := by decide +kernel
theorem d2_66 : decode method_2_code 66 = .ok (.iconst 5, 1) := by decide +kernel
theorem d2_67 : decode method_2_code 67 = .ok (.if_icmp .lt 13, 3) := by decide +kernel
theorem d2_70 : decode method_2_code 70 = .ok (.iload_n 2, 1) := by decide +kernel
theorem d2_71 : decode method_2_code 71 = .ok (.bipush 7, 2) := by decide +kernel
theorem d2_73 : decode method_2_code 73 = .ok (.if_icmp .gt 7, 3) := by decide +kernel
theorem d2_76 : decode method_2_code 76 = .ok (.getstatic 25, 3) := by decide +kernel
theorem d2_79 : decode method_2_code 79 = .ok (.areturn, 1) := by decide +kernel
theorem d2_80 : decode method_2_code 80 = .ok (.getstatic 28, 3) := by decide +kernel
theorem d2_83 : decode method_2_code 83 = .ok (.areturn, 1) := by decide +kernel
theorem pn_2 : plainName "com/example/cafelens/cafelens/KindOfPinLaw" = true := by first | (simp [plainName, overriddenIn]; done) | decide +kernel
theorem ef_2 (m : MethodId) (p0 : Int32) : entryFrame m #[(.int p0)] 3 = mkF m 0 #[.val (.int p0), .unset, .unset] [] := by first | (simp [entryFrame, mkF, argsToLocals, Value.category]; done) | rfl
def v2 (p0 : Int32) (w_SAME : Addr) (w_SAME_LOCALS_1_STACK_ITEM : Addr) (w_CHOP : Addr) (w_FULL_FRAME : Addr) (w_SAME_LOCALS_1_STACK_ITEM_EXTENDED : Addr) (w_APPEND : Addr) (w_SAME_FRAME_EXTENDED : Addr)  : Value := if (p0 >>> ((6 : Int32) &&& 31)) = (0 : Int32) then ((.ref w_SAME) : Value) else if (p0 >>> ((6 : Int32) &&& 31)) = (1 : Int32) then ((.ref w_SAME_LOCALS_1_STACK_ITEM) : Value) else if (p0 - (247 : Int32)) < (0 : Int32) then (.null : Value) else if (p0 - (247 : Int32)) = (0 : Int32) then ((.ref w_SAME_LOCALS_1_STACK_ITEM_EXTENDED) : Value) else if (p0 - (247 : Int32)) < (1 : Int32) then if (p0 - (247 : Int32)) = (4 : Int32) then ((.ref w_SAME_FRAME_EXTENDED) : Value) else if (p0 - (247 : Int32)) < (5 : Int32) then ((.ref w_FULL_FRAME) : Value) else if (7 : Int32) < (p0 - (247 : Int32)) then ((.ref w_FULL_FRAME) : Value) else ((.ref w_APPEND) : Value) else if (3 : Int32) < (p0 - (247 : Int32)) then if (p0 - (247 : Int32)) = (4 : Int32) then ((.ref w_SAME_FRAME_EXTENDED) : Value) else if (p0 - (247 : Int32)) < (5 : Int32) then ((.ref w_FULL_FRAME) : Value) else if (7 : Int32) < (p0 - (247 : Int32)) then ((.ref w_FULL_FRAME) : Value) else ((.ref w_APPEND) : Value) else ((.ref w_CHOP) : Value)
theorem v2_ref (p0 : Int32) (w_SAME : Addr) (w_SAME_LOCALS_1_STACK_ITEM : Addr) (w_CHOP : Addr) (w_FULL_FRAME : Addr) (w_SAME_LOCALS_1_STACK_ITEM_EXTENDED : Addr) (w_APPEND : Addr) (w_SAME_FRAME_EXTENDED : Addr) : (v2 p0 w_SAME w_SAME_LOCALS_1_STACK_ITEM w_CHOP w_FULL_FRAME w_SAME_LOCALS_1_STACK_ITEM_EXTENDED w_APPEND w_SAME_FRAME_EXTENDED).isRef = true := own_ite_ref rfl (own_ite_ref rfl (own_ite_ref rfl (own_ite_ref rfl (own_ite_ref (own_ite_ref rfl (own_ite_ref rfl (own_ite_ref rfl (rfl)))) (own_ite_ref (own_ite_ref rfl (own_ite_ref rfl (own_ite_ref rfl (rfl)))) (rfl))))))
set_option maxRecDepth 65536 in
set_option maxHeartbeats 40000000 in
theorem rm2 (l : Launch) (Z : State) (ar0 : Array Value) (hw : ∀ d ∈ tables_1, d.before ar0 Z = true) (ws : List Jvm.Cond) (p0 : Int32) (w_SAME : Addr) (w_SAME_LOCALS_1_STACK_ITEM : Addr) (w_CHOP : Addr) (w_FULL_FRAME : Addr) (w_SAME_LOCALS_1_STACK_ITEM_EXTENDED : Addr) (w_APPEND : Addr) (w_SAME_FRAME_EXTENDED : Addr) (h0 : Heap) (n0 : Nat) (Z0 : n0 ≤ h0.size) (F : Fx Z h0 w_SAME w_SAME_LOCALS_1_STACK_ITEM w_CHOP w_FULL_FRAME w_SAME_LOCALS_1_STACK_ITEM_EXTENDED w_APPEND w_SAME_FRAME_EXTENDED)  (r : Value) (hre : r = v2 p0 w_SAME w_SAME_LOCALS_1_STACK_ITEM w_CHOP w_FULL_FRAME w_SAME_LOCALS_1_STACK_ITEM_EXTENDED w_APPEND w_SAME_FRAME_EXTENDED) :
    MetFree l (⟨"com/example/cafelens/cafelens/KindOfPinLaw", "expected", "(I)Lcom/example/cafelens/cafelens/StackMapFrame$Kind;"⟩ : MethodName) (head1 ((Jvm.Cond.code (⟨"com/example/cafelens/cafelens/KindOfPinLaw", "expected", "(I)Lcom/example/cafelens/cafelens/StackMapFrame$Kind;"⟩ : MethodName) method_2_code 3 (some (.object "com/example/cafelens/cafelens/StackMapFrame$Kind"))) :: ws) ({ frames := 0, cells := 0, slots := 0, locals := 0 } : Room)) (fun a U => a = #[(.int p0)] ∧ Z.Warmed39 U.vm ∧ U.heap = h0) (fun _ _ _ _ _ => True) (fun _ U o U' => ∃ v L, o = .returned v ∧ Qp (some r) h0 n0 v U'.heap L ∧ FrameEnd U o U' L ({ frames := 0, cells := 0, slots := 0, locals := 0 } : Room).cells ({ frames := 0, cells := 0, slots := 0, locals := 0 } : Room).slots) := by
  obtain ⟨S_SAME, E_SAME, S_SAME_LOCALS_1_STACK_ITEM, E_SAME_LOCALS_1_STACK_ITEM, S_CHOP, E_CHOP, S_FULL_FRAME, E_FULL_FRAME, S_SAME_LOCALS_1_STACK_ITEM_EXTENDED, E_SAME_LOCALS_1_STACK_ITEM_EXTENDED, S_APPEND, E_APPEND, S_SAME_FRAME_EXTENDED, E_SAME_FRAME_EXTENDED⟩ := id F
  refine MetFree.of_bodySF (plainFor_of_name pn_2) hisR ?_
  intro p e s m args below meth c s₁ Bd hml0 hP hK
  obtain ⟨rfl, hZ, hh⟩ := hP
  have hx := Bd.exec
  have hby := Bd.bytes
  have hml : c.maxLocals = 3 := hml0
  have hown : s.vm.findClass "com/example/cafelens/cafelens/KindOfPinLaw" = some m.cls := findClass_of_methodNamed Bd.named
  have X0 : Stand p l e ({ frames := 0, cells := 0, slots := 0, locals := 0 } : Room) s m #[(.int p0)] below meth c s₁ [] 0 0 := Stand.of_body Bd
  have e0 : s₁.heap = h0 := by rw [← hh, Bd.state]; rfl
  have N0 := Fr.nil n0
  have pre0 : ∀ t, Steps p.tables e below (s₁.setTop (mkF m 0 #[.val (.int p0), .unset, .unset] [])) t → Steps p.tables e below (s₁.setTop (entryFrame m #[(.int p0)] 3)) t := fun t k => castTop (ef_2 m p0) k
  have pre1 : ∀ t, Steps p.tables e below (s₁.setTop (mkF m 6 #[.val (.int p0), .val (.int (p0 >>> ((6 : Int32) &&& 31))), .unset] [(.int (p0 >>> ((6 : Int32) &&& 31)))])) t → Steps p.tables e below (s₁.setTop (entryFrame m #[(.int p0)] 3)) t := by
    intro t k
    refine pre0 _ ?_
    show Steps p.tables e below (s₁.setTop (mkF m 0 #[.val (.int p0), .unset, .unset] [])) _
    refine XS.iloadN X0.here hx rfl (hb hby d2_0) rfl ?_
    show Steps p.tables e below (s₁.setTop (mkF m 1 #[.val (.int p0), .unset, .unset] [(.int p0)])) _
    refine XS.bipush X0.here hx rfl (hb hby d2_1) ?_
    show Steps p.tables e below (s₁.setTop (mkF m 3 #[.val (.int p0), .unset, .unset] [(.int (6 : Int32)), (.int p0)])) _
    refine XS.ishr X0.here hx rfl (hb hby d2_3) rfl ?_
    show Steps p.tables e below (s₁.setTop (mkF m 4 #[.val (.int p0), .unset, .unset] [(.int (p0 >>> ((6 : Int32) &&& 31)))])) _
    refine XS.istoreN X0.here hx rfl (hb hby d2_4) rfl (l' := #[.val (.int p0), .val (.int (p0 >>> ((6 : Int32) &&& 31))), .unset]) rfl ?_
    show Steps p.tables e below (s₁.setTop (mkF m 5 #[.val (.int p0), .val (.int (p0 >>> ((6 : Int32) &&& 31))), .unset] [])) _
    refine XS.iloadN X0.here hx rfl (hb hby d2_5) rfl ?_
    exact k
  by_cases hc2 : (p0 >>> ((6 : Int32) &&& 31)) = (0 : Int32)
  ·
    obtain ⟨T3, X3, e3, st3⟩ := getS2 X0 hx hZ hown (host := "") (Or.inl (hw _ (List.mem_of_getElem? (i := 10) rfl))) Via.refl e0 S_SAME (g := (mkF m 9 #[.val (.int p0), .val (.int (p0 >>> ((6 : Int32) &&& 31))), .unset] [])) rfl (hb hby d2_9)
    have hv : (some r : Option Value) = some (.ref w_SAME) := by rw [hre]; unfold v2; rw [if_pos hc2]
    rw [hv]
    obtain ⟨fs, hr, hrun, hended, hW, hsame⟩ := X3.leave (v := some (.ref w_SAME)) (fun h => by rw [Bd.returns] at h; cases h)
    refine ⟨_, _, pre1 _ ?_, hrun, hended, _, _, rfl, ?_, ⟨_, rfl⟩, hW, hsame.mono (by decide) (by decide)⟩
    · show Steps p.tables e below (s₁.setTop (mkF m 6 #[.val (.int p0), .val (.int (p0 >>> ((6 : Int32) &&& 31))), .unset] [(.int (p0 >>> ((6 : Int32) &&& 31)))])) _
      refine XS.ifNo X0.here hx rfl (hb hby d2_6) rfl ((if0 _ _).trans (teq hc2).2) ?_
      show Steps p.tables e below (s₁.setTop (mkF m 9 #[.val (.int p0), .val (.int (p0 >>> ((6 : Int32) &&& 31))), .unset] [])) _
      refine st3 _ ?_
      show Steps p.tables e below (T3.setTop (mkF m 12 #[.val (.int p0), .val (.int (p0 >>> ((6 : Int32) &&& 31))), .unset] [(.ref w_SAME)])) _
      exact retOut X3 hx Bd.returns rfl (Or.inr (Or.inr (Or.inr (Or.inr ⟨rfl, rfl, rfl⟩)))) (hb hby d2_12) hr
    · show Qp (some (.ref w_SAME)) h0 n0 _ T3.heap _
      rw [e3]
      exact ⟨rfl, N0, rfl⟩
  ·
    have pre4 : ∀ t, Steps p.tables e below (s₁.setTop (mkF m 15 #[.val (.int p0), .val (.int (p0 >>> ((6 : Int32) &&& 31))), .unset] [(.int (1 : Int32)), (.int (p0 >>> ((6 : Int32) &&& 31)))])) t → Steps p.tables e below (s₁.setTop (entryFrame m #[(.int p0)] 3)) t := by
      intro t k
      refine pre1 _ ?_
      show Steps p.tables e below (s₁.setTop (mkF m 6 #[.val (.int p0), .val (.int (p0 >>> ((6 : Int32) &&& 31))), .unset] [(.int (p0 >>> ((6 : Int32) &&& 31)))])) _
      refine XS.ifYes X0.here hx rfl (pc0 := 6) (pc' := 13) rfl (hb hby d2_6) rfl ((if0 _ _).trans (feq hc2).2) (by decide) (by decide) ?_
      show Steps p.tables e below (s₁.setTop (mkF m 13 #[.val (.int p0), .val (.int (p0 >>> ((6 : Int32) &&& 31))), .unset] [])) _
      refine XS.iloadN X0.here hx rfl (hb hby d2_13) rfl ?_
      show Steps p.tables e below (s₁.setTop (mkF m 14 #[.val (.int p0), .val (.int (p0 >>> ((6 : Int32) &&& 31))), .unset] [(.int (p0 >>> ((6 : Int32) &&& 31)))])) _
      refine XS.iconst X0.here hx rfl (hb hby d2_14) ?_
      exact k
    by_cases hc5 : (p0 >>> ((6 : Int32) &&& 31)) = (1 : Int32)
    ·
      obtain ⟨T6, X6, e6, st6⟩ := getS2 X0 hx hZ hown (host := "") (Or.inl (hw _ (List.mem_of_getElem? (i := 13) rfl))) Via.refl e0 S_SAME_LOCALS_1_STACK_ITEM (g := (mkF m 18 #[.val (.int p0), .val (.int (p0 >>> ((6 : Int32) &&& 31))), .unset] [])) rfl (hb hby d2_18)
      have hv : (some r : Option Value) = some (.ref w_SAME_LOCALS_1_STACK_ITEM) := by rw [hre]; unfold v2; rw [if_neg hc2, if_pos hc5]
      rw [hv]
      obtain ⟨fs, hr, hrun, hended, hW, hsame⟩ := X6.leave (v := some (.ref w_SAME_LOCALS_1_STACK_ITEM)) (fun h => by rw [Bd.returns] at h; cases h)
      refine ⟨_, _, pre4 _ ?_, hrun, hended, _, _, rfl, ?_, ⟨_, rfl⟩, hW, hsame.mono (by decide) (by decide)⟩
      · show Steps p.tables e below (s₁.setTop (mkF m 15 #[.val (.int p0), .val (.int (p0 >>> ((6 : Int32) &&& 31))), .unset] [(.int (1 : Int32)), (.int (p0 >>> ((6 : Int32) &&& 31)))])) _
        refine XS.icmpNo X0.here hx rfl (hb hby d2_15) rfl (teq hc5).2 ?_
        show Steps p.tables e below (s₁.setTop (mkF m 18 #[.val (.int p0), .val (.int (p0 >>> ((6 : Int32) &&& 31))), .unset] [])) _
        refine st6 _ ?_
        show Steps p.tables e below (T6.setTop (mkF m 21 #[.val (.int p0), .val (.int (p0 >>> ((6 : Int32) &&& 31))), .unset] [(.ref w_SAME_LOCALS_1_STACK_ITEM)])) _
        exact retOut X6 hx Bd.returns rfl (Or.inr (Or.inr (Or.inr (Or.inr ⟨rfl, rfl, rfl⟩)))) (hb hby d2_21) hr
      · show Qp (some (.ref w_SAME_LOCALS_1_STACK_ITEM)) h0 n0 _ T6.heap _
        rw [e6]
        exact ⟨rfl, N0, rfl⟩
    ·
      have pre7 : ∀ t, Steps p.tables e below (s₁.setTop (mkF m 29 #[.val (.int p0), .val (.int (p0 >>> ((6 : Int32) &&& 31))), .val (.int (p0 - (247 : Int32)))] [(.int (p0 - (247 : Int32)))])) t → Steps p.tables e below (s₁.setTop (entryFrame m #[(.int p0)] 3)) t := by
        intro t k
        refine pre4 _ ?_
        show Steps p.tables e below (s₁.setTop (mkF m 15 #[.val (.int p0), .val (.int (p0 >>> ((6 : Int32) &&& 31))), .unset] [(.int (1 : Int32)), (.int (p0 >>> ((6 : Int32) &&& 31)))])) _
        refine XS.icmpYes X0.here hx rfl (pc0 := 15) (pc' := 22) rfl (hb hby d2_15) rfl (feq hc5).2 (by decide) (by decide) ?_
        show Steps p.tables e below (s₁.setTop (mkF m 22 #[.val (.int p0), .val (.int (p0 >>> ((6 : Int32) &&& 31))), .unset] [])) _
        refine XS.iloadN X0.here hx rfl (hb hby d2_22) rfl ?_
        show Steps p.tables e below (s₁.setTop (mkF m 23 #[.val (.int p0), .val (.int (p0 >>> ((6 : Int32) &&& 31))), .unset] [(.int p0)])) _
        refine XS.sipush X0.here hx rfl (hb hby d2_23) ?_
        show Steps p.tables e below (s₁.setTop (mkF m 26 #[.val (.int p0), .val (.int (p0 >>> ((6 : Int32) &&& 31))), .unset] [(.int (247 : Int32)), (.int p0)])) _
        refine XS.isub X0.here hx rfl (hb hby d2_26) rfl ?_
        show Steps p.tables e below (s₁.setTop (mkF m 27 #[.val (.int p0), .val (.int (p0 >>> ((6 : Int32) &&& 31))), .unset] [(.int (p0 - (247 : Int32)))])) _
        refine XS.istoreN X0.here hx rfl (hb hby d2_27) rfl (l' := #[.val (.int p0), .val (.int (p0 >>> ((6 : Int32) &&& 31))), .val (.int (p0 - (247 : Int32)))]) rfl ?_
        show Steps p.tables e below (s₁.setTop (mkF m 28 #[.val (.int p0), .val (.int (p0 >>> ((6 : Int32) &&& 31))), .val (.int (p0 - (247 : Int32)))] [])) _
        refine XS.iloadN X0.here hx rfl (hb hby d2_28) rfl ?_
        exact k
      by_cases hc8 : (p0 - (247 : Int32)) < (0 : Int32)
      ·
        have hv : (some r : Option Value) = some .null := by rw [hre]; unfold v2; rw [if_neg hc2, if_neg hc5, if_pos hc8]
        rw [hv]
        obtain ⟨fs, hr, hrun, hended, hW, hsame⟩ := X0.leave (v := some .null) (fun h => by rw [Bd.returns] at h; cases h)
        refine ⟨_, _, pre7 _ ?_, hrun, hended, _, _, rfl, ?_, ⟨_, rfl⟩, hW, hsame.mono (by decide) (by decide)⟩
        · show Steps p.tables e below (s₁.setTop (mkF m 29 #[.val (.int p0), .val (.int (p0 >>> ((6 : Int32) &&& 31))), .val (.int (p0 - (247 : Int32)))] [(.int (p0 - (247 : Int32)))])) _
          refine XS.ifNo X0.here hx rfl (hb hby d2_29) rfl ((if0 _ _).trans (tlt hc8).2.1) ?_
          show Steps p.tables e below (s₁.setTop (mkF m 32 #[.val (.int p0), .val (.int (p0 >>> ((6 : Int32) &&& 31))), .val (.int (p0 - (247 : Int32)))] [])) _
          refine XS.aconstNull X0.here hx rfl (hb hby d2_32) ?_
          show Steps p.tables e below (s₁.setTop (mkF m 33 #[.val (.int p0), .val (.int (p0 >>> ((6 : Int32) &&& 31))), .val (.int (p0 - (247 : Int32)))] [.null])) _
          exact retOut X0 hx Bd.returns rfl (Or.inr (Or.inr (Or.inr (Or.inr ⟨rfl, rfl, rfl⟩)))) (hb hby d2_33) hr
        · show Qp (some .null) h0 n0 _ s₁.heap _
          rw [e0]
          exact ⟨rfl, N0, rfl⟩
      ·
        have pre9 : ∀ t, Steps p.tables e below (s₁.setTop (mkF m 35 #[.val (.int p0), .val (.int (p0 >>> ((6 : Int32) &&& 31))), .val (.int (p0 - (247 : Int32)))] [(.int (p0 - (247 : Int32)))])) t → Steps p.tables e below (s₁.setTop (entryFrame m #[(.int p0)] 3)) t := by
          intro t k
          refine pre7 _ ?_
          show Steps p.tables e below (s₁.setTop (mkF m 29 #[.val (.int p0), .val (.int (p0 >>> ((6 : Int32) &&& 31))), .val (.int (p0 - (247 : Int32)))] [(.int (p0 - (247 : Int32)))])) _
          refine XS.ifYes X0.here hx rfl (pc0 := 29) (pc' := 34) rfl (hb hby d2_29) rfl ((if0 _ _).trans (flt hc8).2.1) (by decide) (by decide) ?_
          show Steps p.tables e below (s₁.setTop (mkF m 34 #[.val (.int p0), .val (.int (p0 >>> ((6 : Int32) &&& 31))), .val (.int (p0 - (247 : Int32)))] [])) _
          refine XS.iloadN X0.here hx rfl (hb hby d2_34) rfl ?_
          exact k
        by_cases hc10 : (p0 - (247 : Int32)) = (0 : Int32)
        ·
          obtain ⟨T11, X11, e11, st11⟩ := getS2 X0 hx hZ hown (host := "") (Or.inl (hw _ (List.mem_of_getElem? (i := 22) rfl))) Via.refl e0 S_SAME_LOCALS_1_STACK_ITEM_EXTENDED (g := (mkF m 38 #[.val (.int p0), .val (.int (p0 >>> ((6 : Int32) &&& 31))), .val (.int (p0 - (247 : Int32)))] [])) rfl (hb hby d2_38)
          have hv : (some r : Option Value) = some (.ref w_SAME_LOCALS_1_STACK_ITEM_EXTENDED) := by rw [hre]; unfold v2; rw [if_neg hc2, if_neg hc5, if_neg hc8, if_pos hc10]
          rw [hv]
          obtain ⟨fs, hr, hrun, hended, hW, hsame⟩ := X11.leave (v := some (.ref w_SAME_LOCALS_1_STACK_ITEM_EXTENDED)) (fun h => by rw [Bd.returns] at h; cases h)
          refine ⟨_, _, pre9 _ ?_, hrun, hended, _, _, rfl, ?_, ⟨_, rfl⟩, hW, hsame.mono (by decide) (by decide)⟩
          · show Steps p.tables e below (s₁.setTop (mkF m 35 #[.val (.int p0), .val (.int (p0 >>> ((6 : Int32) &&& 31))), .val (.int (p0 - (247 : Int32)))] [(.int (p0 - (247 : Int32)))])) _
            refine XS.ifNo X0.here hx rfl (hb hby d2_35) rfl ((if0 _ _).trans (teq hc10).2) ?_
            show Steps p.tables e below (s₁.setTop (mkF m 38 #[.val (.int p0), .val (.int (p0 >>> ((6 : Int32) &&& 31))), .val (.int (p0 - (247 : Int32)))] [])) _
            refine st11 _ ?_
            show Steps p.tables e below (T11.setTop (mkF m 41 #[.val (.int p0), .val (.int (p0 >>> ((6 : Int32) &&& 31))), .val (.int (p0 - (247 : Int32)))] [(.ref w_SAME_LOCALS_1_STACK_ITEM_EXTENDED)])) _
            exact retOut X11 hx Bd.returns rfl (Or.inr (Or.inr (Or.inr (Or.inr ⟨rfl, rfl, rfl⟩)))) (hb hby d2_41) hr
          · show Qp (some (.ref w_SAME_LOCALS_1_STACK_ITEM_EXTENDED)) h0 n0 _ T11.heap _
            rw [e11]
            exact ⟨rfl, N0, rfl⟩
        ·
          have pre12 : ∀ t, Steps p.tables e below (s₁.setTop (mkF m 44 #[.val (.int p0), .val (.int (p0 >>> ((6 : Int32) &&& 31))), .val (.int (p0 - (247 : Int32)))] [(.int (1 : Int32)), (.int (p0 - (247 : Int32)))])) t → Steps p.tables e below (s₁.setTop (entryFrame m #[(.int p0)] 3)) t := by
            intro t k
            refine pre9 _ ?_
            show Steps p.tables e below (s₁.setTop (mkF m 35 #[.val (.int p0), .val (.int (p0 >>> ((6 : Int32) &&& 31))), .val (.int (p0 - (247 : Int32)))] [(.int (p0 - (247 : Int32)))])) _
            refine XS.ifYes X0.here hx rfl (pc0 := 35) (pc' := 42) rfl (hb hby d2_35) rfl ((if0 _ _).trans (feq hc10).2) (by decide) (by decide) ?_
            show Steps p.tables e below (s₁.setTop (mkF m 42 #[.val (.int p0), .val (.int (p0 >>> ((6 : Int32) &&& 31))), .val (.int (p0 - (247 : Int32)))] [])) _
            refine XS.iloadN X0.here hx rfl (hb hby d2_42) rfl ?_
            show Steps p.tables e below (s₁.setTop (mkF m 43 #[.val (.int p0), .val (.int (p0 >>> ((6 : Int32) &&& 31))), .val (.int (p0 - (247 : Int32)))] [(.int (p0 - (247 : Int32)))])) _
            refine XS.iconst X0.here hx rfl (hb hby d2_43) ?_
            exact k
          by_cases hc13 : (p0 - (247 : Int32)) < (1 : Int32)
          ·
            have pre14 : ∀ t, Steps p.tables e below (s₁.setTop (mkF m 58 #[.val (.int p0), .val (.int (p0 >>> ((6 : Int32) &&& 31))), .val (.int (p0 - (247 : Int32)))] [(.int (4 : Int32)), (.int (p0 - (247 : Int32)))])) t → Steps p.tables e below (s₁.setTop (entryFrame m #[(.int p0)] 3)) t := by
              intro t k
              refine pre12 _ ?_
              show Steps p.tables e below (s₁.setTop (mkF m 44 #[.val (.int p0), .val (.int (p0 >>> ((6 : Int32) &&& 31))), .val (.int (p0 - (247 : Int32)))] [(.int (1 : Int32)), (.int (p0 - (247 : Int32)))])) _
              refine XS.icmpYes X0.here hx rfl (pc0 := 44) (pc' := 56) rfl (hb hby d2_44) rfl (tlt hc13).1 (by decide) (by decide) ?_
              show Steps p.tables e below (s₁.setTop (mkF m 56 #[.val (.int p0), .val (.int (p0 >>> ((6 : Int32) &&& 31))), .val (.int (p0 - (247 : Int32)))] [])) _
              refine XS.iloadN X0.here hx rfl (hb hby d2_56) rfl ?_
              show Steps p.tables e below (s₁.setTop (mkF m 57 #[.val (.int p0), .val (.int (p0 >>> ((6 : Int32) &&& 31))), .val (.int (p0 - (247 : Int32)))] [(.int (p0 - (247 : Int32)))])) _
              refine XS.iconst X0.here hx rfl (hb hby d2_57) ?_
              exact k
            by_cases hc15 : (p0 - (247 : Int32)) = (4 : Int32)
            ·
              obtain ⟨T16, X16, e16, st16⟩ := getS2 X0 hx hZ hown (host := "") (Or.inl (hw _ (List.mem_of_getElem? (i := 28) rfl))) Via.refl e0 S_SAME_FRAME_EXTENDED (g := (mkF m 61 #[.val (.int p0), .val (.int (p0 >>> ((6 : Int32) &&& 31))), .val (.int (p0 - (247 : Int32)))] [])) rfl (hb hby d2_61)
              have hv : (some r : Option Value) = some (.ref w_SAME_FRAME_EXTENDED) := by rw [hre]; unfold v2; rw [if_neg hc2, if_neg hc5, if_neg hc8, if_neg hc10, if_pos hc13, if_pos hc15]
              rw [hv]
              obtain ⟨fs, hr, hrun, hended, hW, hsame⟩ := X16.leave (v := some (.ref w_SAME_FRAME_EXTENDED)) (fun h => by rw [Bd.returns] at h; cases h)
              refine ⟨_, _, pre14 _ ?_, hrun, hended, _, _, rfl, ?_, ⟨_, rfl⟩, hW, hsame.mono (by decide) (by decide)⟩
              · show Steps p.tables e below (s₁.setTop (mkF m 58 #[.val (.int p0), .val (.int (p0 >>> ((6 : Int32) &&& 31))), .val (.int (p0 - (247 : Int32)))] [(.int (4 : Int32)), (.int (p0 - (247 : Int32)))])) _
                refine XS.icmpNo X0.here hx rfl (hb hby d2_58) rfl (teq hc15).2 ?_
                show Steps p.tables e below (s₁.setTop (mkF m 61 #[.val (.int p0), .val (.int (p0 >>> ((6 : Int32) &&& 31))), .val (.int (p0 - (247 : Int32)))] [])) _
                refine st16 _ ?_
                show Steps p.tables e below (T16.setTop (mkF m 64 #[.val (.int p0), .val (.int (p0 >>> ((6 : Int32) &&& 31))), .val (.int (p0 - (247 : Int32)))] [(.ref w_SAME_FRAME_EXTENDED)])) _
                exact retOut X16 hx Bd.returns rfl (Or.inr (Or.inr (Or.inr (Or.inr ⟨rfl, rfl, rfl⟩)))) (hb hby d2_64) hr
              · show Qp (some (.ref w_SAME_FRAME_EXTENDED)) h0 n0 _ T16.heap _
                rw [e16]
                exact ⟨rfl, N0, rfl⟩
            ·
              have pre17 : ∀ t, Steps p.tables e below (s₁.setTop (mkF m 67 #[.val (.int p0), .val (.int (p0 >>> ((6 : Int32) &&& 31))), .val (.int (p0 - (247 : Int32)))] [(.int (5 : Int32)), (.int (p0 - (247 : Int32)))])) t → Steps p.tables e below (s₁.setTop (entryFrame m #[(.int p0)] 3)) t := by
                intro t k
                refine pre14 _ ?_
                show Steps p.tables e below (s₁.setTop (mkF m 58 #[.val (.int p0), .val (.int (p0 >>> ((6 : Int32) &&& 31))), .val (.int (p0 - (247 : Int32)))] [(.int (4 : Int32)), (.int (p0 - (247 : Int32)))])) _
                refine XS.icmpYes X0.here hx rfl (pc0 := 58) (pc' := 65) rfl (hb hby d2_58) rfl (feq hc15).2 (by decide) (by decide) ?_
                show Steps p.tables e below (s₁.setTop (mkF m 65 #[.val (.int p0), .val (.int (p0 >>> ((6 : Int32) &&& 31))), .val (.int (p0 - (247 : Int32)))] [])) _
                refine XS.iloadN X0.here hx rfl (hb hby d2_65) rfl ?_
                show Steps p.tables e below (s₁.setTop (mkF m 66 #[.val (.int p0), .val (.int (p0 >>> ((6 : Int32) &&& 31))), .val (.int (p0 - (247 : Int32)))] [(.int (p0 - (247 : Int32)))])) _
                refine XS.iconst X0.here hx rfl (hb hby d2_66) ?_
                exact k
              by_cases hc18 : (p0 - (247 : Int32)) < (5 : Int32)
              ·
                obtain ⟨T19, X19, e19, st19⟩ := getS2 X0 hx hZ hown (host := "") (Or.inl (hw _ (List.mem_of_getElem? (i := 19) rfl))) Via.refl e0 S_FULL_FRAME (g := (mkF m 80 #[.val (.int p0), .val (.int (p0 >>> ((6 : Int32) &&& 31))), .val (.int (p0 - (247 : Int32)))] [])) rfl (hb hby d2_80)
                have hv : (some r : Option Value) = some (.ref w_FULL_FRAME) := by rw [hre]; unfold v2; rw [if_neg hc2, if_neg hc5, if_neg hc8, if_neg hc10, if_pos hc13, if_neg hc15, if_pos hc18]
                rw [hv]
                obtain ⟨fs, hr, hrun, hended, hW, hsame⟩ := X19.leave (v := some (.ref w_FULL_FRAME)) (fun h => by rw [Bd.returns] at h; cases h)
                refine ⟨_, _, pre17 _ ?_, hrun, hended, _, _, rfl, ?_, ⟨_, rfl⟩, hW, hsame.mono (by decide) (by decide)⟩
                · show Steps p.tables e below (s₁.setTop (mkF m 67 #[.val (.int p0), .val (.int (p0 >>> ((6 : Int32) &&& 31))), .val (.int (p0 - (247 : Int32)))] [(.int (5 : Int32)), (.int (p0 - (247 : Int32)))])) _
                  refine XS.icmpYes X0.here hx rfl (pc0 := 67) (pc' := 80) rfl (hb hby d2_67) rfl (tlt hc18).1 (by decide) (by decide) ?_
                  show Steps p.tables e below (s₁.setTop (mkF m 80 #[.val (.int p0), .val (.int (p0 >>> ((6 : Int32) &&& 31))), .val (.int (p0 - (247 : Int32)))] [])) _
                  refine st19 _ ?_
                  show Steps p.tables e below (T19.setTop (mkF m 83 #[.val (.int p0), .val (.int (p0 >>> ((6 : Int32) &&& 31))), .val (.int (p0 - (247 : Int32)))] [(.ref w_FULL_FRAME)])) _
                  exact retOut X19 hx Bd.returns rfl (Or.inr (Or.inr (Or.inr (Or.inr ⟨rfl, rfl, rfl⟩)))) (hb hby d2_83) hr
                · show Qp (some (.ref w_FULL_FRAME)) h0 n0 _ T19.heap _
                  rw [e19]
                  exact ⟨rfl, N0, rfl⟩
              ·
                have pre20 : ∀ t, Steps p.tables e below (s₁.setTop (mkF m 73 #[.val (.int p0), .val (.int (p0 >>> ((6 : Int32) &&& 31))), .val (.int (p0 - (247 : Int32)))] [(.int (7 : Int32)), (.int (p0 - (247 : Int32)))])) t → Steps p.tables e below (s₁.setTop (entryFrame m #[(.int p0)] 3)) t := by
                  intro t k
                  refine pre17 _ ?_
                  show Steps p.tables e below (s₁.setTop (mkF m 67 #[.val (.int p0), .val (.int (p0 >>> ((6 : Int32) &&& 31))), .val (.int (p0 - (247 : Int32)))] [(.int (5 : Int32)), (.int (p0 - (247 : Int32)))])) _
                  refine XS.icmpNo X0.here hx rfl (hb hby d2_67) rfl (flt hc18).1 ?_
                  show Steps p.tables e below (s₁.setTop (mkF m 70 #[.val (.int p0), .val (.int (p0 >>> ((6 : Int32) &&& 31))), .val (.int (p0 - (247 : Int32)))] [])) _
                  refine XS.iloadN X0.here hx rfl (hb hby d2_70) rfl ?_
                  show Steps p.tables e below (s₁.setTop (mkF m 71 #[.val (.int p0), .val (.int (p0 >>> ((6 : Int32) &&& 31))), .val (.int (p0 - (247 : Int32)))] [(.int (p0 - (247 : Int32)))])) _
                  refine XS.bipush X0.here hx rfl (hb hby d2_71) ?_
                  exact k
                by_cases hc21 : (7 : Int32) < (p0 - (247 : Int32))
                ·
                  obtain ⟨T22, X22, e22, st22⟩ := getS2 X0 hx hZ hown (host := "") (Or.inl (hw _ (List.mem_of_getElem? (i := 19) rfl))) Via.refl e0 S_FULL_FRAME (g := (mkF m 80 #[.val (.int p0), .val (.int (p0 >>> ((6 : Int32) &&& 31))), .val (.int (p0 - (247 : Int32)))] [])) rfl (hb hby d2_80)
                  have hv : (some r : Option Value) = some (.ref w_FULL_FRAME) := by rw [hre]; unfold v2; rw [if_neg hc2, if_neg hc5, if_neg hc8, if_neg hc10, if_pos hc13, if_neg hc15, if_neg hc18, if_pos hc21]
                  rw [hv]
                  obtain ⟨fs, hr, hrun, hended, hW, hsame⟩ := X22.leave (v := some (.ref w_FULL_FRAME)) (fun h => by rw [Bd.returns] at h; cases h)
                  refine ⟨_, _, pre20 _ ?_, hrun, hended, _, _, rfl, ?_, ⟨_, rfl⟩, hW, hsame.mono (by decide) (by decide)⟩
                  · show Steps p.tables e below (s₁.setTop (mkF m 73 #[.val (.int p0), .val (.int (p0 >>> ((6 : Int32) &&& 31))), .val (.int (p0 - (247 : Int32)))] [(.int (7 : Int32)), (.int (p0 - (247 : Int32)))])) _
                    refine XS.icmpYes X0.here hx rfl (pc0 := 73) (pc' := 80) rfl (hb hby d2_73) rfl (tlt hc21).2.2.1 (by decide) (by decide) ?_
                    show Steps p.tables e below (s₁.setTop (mkF m 80 #[.val (.int p0), .val (.int (p0 >>> ((6 : Int32) &&& 31))), .val (.int (p0 - (247 : Int32)))] [])) _
                    refine st22 _ ?_
                    show Steps p.tables e below (T22.setTop (mkF m 83 #[.val (.int p0), .val (.int (p0 >>> ((6 : Int32) &&& 31))), .val (.int (p0 - (247 : Int32)))] [(.ref w_FULL_FRAME)])) _
                    exact retOut X22 hx Bd.returns rfl (Or.inr (Or.inr (Or.inr (Or.inr ⟨rfl, rfl, rfl⟩)))) (hb hby d2_83) hr
                  · show Qp (some (.ref w_FULL_FRAME)) h0 n0 _ T22.heap _
                    rw [e22]
                    exact ⟨rfl, N0, rfl⟩
                ·
                  obtain ⟨T23, X23, e23, st23⟩ := getS2 X0 hx hZ hown (host := "") (Or.inl (hw _ (List.mem_of_getElem? (i := 25) rfl))) Via.refl e0 S_APPEND (g := (mkF m 76 #[.val (.int p0), .val (.int (p0 >>> ((6 : Int32) &&& 31))), .val (.int (p0 - (247 : Int32)))] [])) rfl (hb hby d2_76)
                  have hv : (some r : Option Value) = some (.ref w_APPEND) := by rw [hre]; unfold v2; rw [if_neg hc2, if_neg hc5, if_neg hc8, if_neg hc10, if_pos hc13, if_neg hc15, if_neg hc18, if_neg hc21]
                  rw [hv]
                  obtain ⟨fs, hr, hrun, hended, hW, hsame⟩ := X23.leave (v := some (.ref w_APPEND)) (fun h => by rw [Bd.returns] at h; cases h)
                  refine ⟨_, _, pre20 _ ?_, hrun, hended, _, _, rfl, ?_, ⟨_, rfl⟩, hW, hsame.mono (by decide) (by decide)⟩
                  · show Steps p.tables e below (s₁.setTop (mkF m 73 #[.val (.int p0), .val (.int (p0 >>> ((6 : Int32) &&& 31))), .val (.int (p0 - (247 : Int32)))] [(.int (7 : Int32)), (.int (p0 - (247 : Int32)))])) _
                    refine XS.icmpNo X0.here hx rfl (hb hby d2_73) rfl (flt hc21).2.2.1 ?_
                    show Steps p.tables e below (s₁.setTop (mkF m 76 #[.val (.int p0), .val (.int (p0 >>> ((6 : Int32) &&& 31))), .val (.int (p0 - (247 : Int32)))] [])) _
                    refine st23 _ ?_
                    show Steps p.tables e below (T23.setTop (mkF m 79 #[.val (.int p0), .val (.int (p0 >>> ((6 : Int32) &&& 31))), .val (.int (p0 - (247 : Int32)))] [(.ref w_APPEND)])) _
                    exact retOut X23 hx Bd.returns rfl (Or.inr (Or.inr (Or.inr (Or.inr ⟨rfl, rfl, rfl⟩)))) (hb hby d2_79) hr
                  · show Qp (some (.ref w_APPEND)) h0 n0 _ T23.heap _
                    rw [e23]
                    exact ⟨rfl, N0, rfl⟩
          ·
            have pre24 : ∀ t, Steps p.tables e below (s₁.setTop (mkF m 49 #[.val (.int p0), .val (.int (p0 >>> ((6 : Int32) &&& 31))), .val (.int (p0 - (247 : Int32)))] [(.int (3 : Int32)), (.int (p0 - (247 : Int32)))])) t → Steps p.tables e below (s₁.setTop (entryFrame m #[(.int p0)] 3)) t := by
              intro t k
              refine pre12 _ ?_
              show Steps p.tables e below (s₁.setTop (mkF m 44 #[.val (.int p0), .val (.int (p0 >>> ((6 : Int32) &&& 31))), .val (.int (p0 - (247 : Int32)))] [(.int (1 : Int32)), (.int (p0 - (247 : Int32)))])) _
              refine XS.icmpNo X0.here hx rfl (hb hby d2_44) rfl (flt hc13).1 ?_
              show Steps p.tables e below (s₁.setTop (mkF m 47 #[.val (.int p0), .val (.int (p0 >>> ((6 : Int32) &&& 31))), .val (.int (p0 - (247 : Int32)))] [])) _
              refine XS.iloadN X0.here hx rfl (hb hby d2_47) rfl ?_
              show Steps p.tables e below (s₁.setTop (mkF m 48 #[.val (.int p0), .val (.int (p0 >>> ((6 : Int32) &&& 31))), .val (.int (p0 - (247 : Int32)))] [(.int (p0 - (247 : Int32)))])) _
              refine XS.iconst X0.here hx rfl (hb hby d2_48) ?_
              exact k
            by_cases hc25 : (3 : Int32) < (p0 - (247 : Int32))
            ·
              have pre26 : ∀ t, Steps p.tables e below (s₁.setTop (mkF m 58 #[.val (.int p0), .val (.int (p0 >>> ((6 : Int32) &&& 31))), .val (.int (p0 - (247 : Int32)))] [(.int (4 : Int32)), (.int (p0 - (247 : Int32)))])) t → Steps p.tables e below (s₁.setTop (entryFrame m #[(.int p0)] 3)) t := by
                intro t k
                refine pre24 _ ?_
                show Steps p.tables e below (s₁.setTop (mkF m 49 #[.val (.int p0), .val (.int (p0 >>> ((6 : Int32) &&& 31))), .val (.int (p0 - (247 : Int32)))] [(.int (3 : Int32)), (.int (p0 - (247 : Int32)))])) _
                refine XS.icmpYes X0.here hx rfl (pc0 := 49) (pc' := 56) rfl (hb hby d2_49) rfl (tlt hc25).2.2.1 (by decide) (by decide) ?_
                show Steps p.tables e below (s₁.setTop (mkF m 56 #[.val (.int p0), .val (.int (p0 >>> ((6 : Int32) &&& 31))), .val (.int (p0 - (247 : Int32)))] [])) _
                refine XS.iloadN X0.here hx rfl (hb hby d2_56) rfl ?_
                show Steps p.tables e below (s₁.setTop (mkF m 57 #[.val (.int p0), .val (.int (p0 >>> ((6 : Int32) &&& 31))), .val (.int (p0 - (247 : Int32)))] [(.int (p0 - (247 : Int32)))])) _
                refine XS.iconst X0.here hx rfl (hb hby d2_57) ?_
                exact k
              by_cases hc27 : (p0 - (247 : Int32)) = (4 : Int32)
              ·
                obtain ⟨T28, X28, e28, st28⟩ := getS2 X0 hx hZ hown (host := "") (Or.inl (hw _ (List.mem_of_getElem? (i := 28) rfl))) Via.refl e0 S_SAME_FRAME_EXTENDED (g := (mkF m 61 #[.val (.int p0), .val (.int (p0 >>> ((6 : Int32) &&& 31))), .val (.int (p0 - (247 : Int32)))] [])) rfl (hb hby d2_61)
                have hv : (some r : Option Value) = some (.ref w_SAME_FRAME_EXTENDED) := by rw [hre]; unfold v2; rw [if_neg hc2, if_neg hc5, if_neg hc8, if_neg hc10, if_neg hc13, if_pos hc25, if_pos hc27]
                rw [hv]
                obtain ⟨fs, hr, hrun, hended, hW, hsame⟩ := X28.leave (v := some (.ref w_SAME_FRAME_EXTENDED)) (fun h => by rw [Bd.returns] at h; cases h)
                refine ⟨_, _, pre26 _ ?_, hrun, hended, _, _, rfl, ?_, ⟨_, rfl⟩, hW, hsame.mono (by decide) (by decide)⟩
                · show Steps p.tables e below (s₁.setTop (mkF m 58 #[.val (.int p0), .val (.int (p0 >>> ((6 : Int32) &&& 31))), .val (.int (p0 - (247 : Int32)))] [(.int (4 : Int32)), (.int (p0 - (247 : Int32)))])) _
                  refine XS.icmpNo X0.here hx rfl (hb hby d2_58) rfl (teq hc27).2 ?_
                  show Steps p.tables e below (s₁.setTop (mkF m 61 #[.val (.int p0), .val (.int (p0 >>> ((6 : Int32) &&& 31))), .val (.int (p0 - (247 : Int32)))] [])) _
                  refine st28 _ ?_
                  show Steps p.tables e below (T28.setTop (mkF m 64 #[.val (.int p0), .val (.int (p0 >>> ((6 : Int32) &&& 31))), .val (.int (p0 - (247 : Int32)))] [(.ref w_SAME_FRAME_EXTENDED)])) _
                  exact retOut X28 hx Bd.returns rfl (Or.inr (Or.inr (Or.inr (Or.inr ⟨rfl, rfl, rfl⟩)))) (hb hby d2_64) hr
                · show Qp (some (.ref w_SAME_FRAME_EXTENDED)) h0 n0 _ T28.heap _
                  rw [e28]
                  exact ⟨rfl, N0, rfl⟩
              ·
                have pre29 : ∀ t, Steps p.tables e below (s₁.setTop (mkF m 67 #[.val (.int p0), .val (.int (p0 >>> ((6 : Int32) &&& 31))), .val (.int (p0 - (247 : Int32)))] [(.int (5 : Int32)), (.int (p0 - (247 : Int32)))])) t → Steps p.tables e below (s₁.setTop (entryFrame m #[(.int p0)] 3)) t := by
                  intro t k
                  refine pre26 _ ?_
                  show Steps p.tables e below (s₁.setTop (mkF m 58 #[.val (.int p0), .val (.int (p0 >>> ((6 : Int32) &&& 31))), .val (.int (p0 - (247 : Int32)))] [(.int (4 : Int32)), (.int (p0 - (247 : Int32)))])) _
                  refine XS.icmpYes X0.here hx rfl (pc0 := 58) (pc' := 65) rfl (hb hby d2_58) rfl (feq hc27).2 (by decide) (by decide) ?_
                  show Steps p.tables e below (s₁.setTop (mkF m 65 #[.val (.int p0), .val (.int (p0 >>> ((6 : Int32) &&& 31))), .val (.int (p0 - (247 : Int32)))] [])) _
                  refine XS.iloadN X0.here hx rfl (hb hby d2_65) rfl ?_
                  show Steps p.tables e below (s₁.setTop (mkF m 66 #[.val (.int p0), .val (.int (p0 >>> ((6 : Int32) &&& 31))), .val (.int (p0 - (247 : Int32)))] [(.int (p0 - (247 : Int32)))])) _
                  refine XS.iconst X0.here hx rfl (hb hby d2_66) ?_
                  exact k
                by_cases hc30 : (p0 - (247 : Int32)) < (5 : Int32)
                ·
                  obtain ⟨T31, X31, e31, st31⟩ := getS2 X0 hx hZ hown (host := "") (Or.inl (hw _ (List.mem_of_getElem? (i := 19) rfl))) Via.refl e0 S_FULL_FRAME (g := (mkF m 80 #[.val (.int p0), .val (.int (p0 >>> ((6 : Int32) &&& 31))), .val (.int (p0 - (247 : Int32)))] [])) rfl (hb hby d2_80)
                  have hv : (some r : Option Value) = some (.ref w_FULL_FRAME) := by rw [hre]; unfold v2; rw [if_neg hc2, if_neg hc5, if_neg hc8, if_neg hc10, if_neg hc13, if_pos hc25, if_neg hc27, if_pos hc30]
                  rw [hv]
                  obtain ⟨fs, hr, hrun, hended, hW, hsame⟩ := X31.leave (v := some (.ref w_FULL_FRAME)) (fun h => by rw [Bd.returns] at h; cases h)
                  refine ⟨_, _, pre29 _ ?_, hrun, hended, _, _, rfl, ?_, ⟨_, rfl⟩, hW, hsame.mono (by decide) (by decide)⟩
                  · show Steps p.tables e below (s₁.setTop (mkF m 67 #[.val (.int p0), .val (.int (p0 >>> ((6 : Int32) &&& 31))), .val (.int (p0 - (247 : Int32)))] [(.int (5 : Int32)), (.int (p0 - (247 : Int32)))])) _
                    refine XS.icmpYes X0.here hx rfl (pc0 := 67) (pc' := 80) rfl (hb hby d2_67) rfl (tlt hc30).1 (by decide) (by decide) ?_
                    show Steps p.tables e below (s₁.setTop (mkF m 80 #[.val (.int p0), .val (.int (p0 >>> ((6 : Int32) &&& 31))), .val (.int (p0 - (247 : Int32)))] [])) _
                    refine st31 _ ?_
                    show Steps p.tables e below (T31.setTop (mkF m 83 #[.val (.int p0), .val (.int (p0 >>> ((6 : Int32) &&& 31))), .val (.int (p0 - (247 : Int32)))] [(.ref w_FULL_FRAME)])) _
                    exact retOut X31 hx Bd.returns rfl (Or.inr (Or.inr (Or.inr (Or.inr ⟨rfl, rfl, rfl⟩)))) (hb hby d2_83) hr
                  · show Qp (some (.ref w_FULL_FRAME)) h0 n0 _ T31.heap _
                    rw [e31]
                    exact ⟨rfl, N0, rfl⟩
                ·
                  have pre32 : ∀ t, Steps p.tables e below (s₁.setTop (mkF m 73 #[.val (.int p0), .val (.int (p0 >>> ((6 : Int32) &&& 31))), .val (.int (p0 - (247 : Int32)))] [(.int (7 : Int32)), (.int (p0 - (247 : Int32)))])) t → Steps p.tables e below (s₁.setTop (entryFrame m #[(.int p0)] 3)) t := by
                    intro t k
                    refine pre29 _ ?_
                    show Steps p.tables e below (s₁.setTop (mkF m 67 #[.val (.int p0), .val (.int (p0 >>> ((6 : Int32) &&& 31))), .val (.int (p0 - (247 : Int32)))] [(.int (5 : Int32)), (.int (p0 - (247 : Int32)))])) _
                    refine XS.icmpNo X0.here hx rfl (hb hby d2_67) rfl (flt hc30).1 ?_
                    show Steps p.tables e below (s₁.setTop (mkF m 70 #[.val (.int p0), .val (.int (p0 >>> ((6 : Int32) &&& 31))), .val (.int (p0 - (247 : Int32)))] [])) _
                    refine XS.iloadN X0.here hx rfl (hb hby d2_70) rfl ?_
                    show Steps p.tables e below (s₁.setTop (mkF m 71 #[.val (.int p0), .val (.int (p0 >>> ((6 : Int32) &&& 31))), .val (.int (p0 - (247 : Int32)))] [(.int (p0 - (247 : Int32)))])) _
                    refine XS.bipush X0.here hx rfl (hb hby d2_71) ?_
                    exact k
                  by_cases hc33 : (7 : Int32) < (p0 - (247 : Int32))
                  ·
                    obtain ⟨T34, X34, e34, st34⟩ := getS2 X0 hx hZ hown (host := "") (Or.inl (hw _ (List.mem_of_getElem? (i := 19) rfl))) Via.refl e0 S_FULL_FRAME (g := (mkF m 80 #[.val (.int p0), .val (.int (p0 >>> ((6 : Int32) &&& 31))), .val (.int (p0 - (247 : Int32)))] [])) rfl (hb hby d2_80)
                    have hv : (some r : Option Value) = some (.ref w_FULL_FRAME) := by rw [hre]; unfold v2; rw [if_neg hc2, if_neg hc5, if_neg hc8, if_neg hc10, if_neg hc13, if_pos hc25, if_neg hc27, if_neg hc30, if_pos hc33]
                    rw [hv]
                    obtain ⟨fs, hr, hrun, hended, hW, hsame⟩ := X34.leave (v := some (.ref w_FULL_FRAME)) (fun h => by rw [Bd.returns] at h; cases h)
                    refine ⟨_, _, pre32 _ ?_, hrun, hended, _, _, rfl, ?_, ⟨_, rfl⟩, hW, hsame.mono (by decide) (by decide)⟩
                    · show Steps p.tables e below (s₁.setTop (mkF m 73 #[.val (.int p0), .val (.int (p0 >>> ((6 : Int32) &&& 31))), .val (.int (p0 - (247 : Int32)))] [(.int (7 : Int32)), (.int (p0 - (247 : Int32)))])) _
                      refine XS.icmpYes X0.here hx rfl (pc0 := 73) (pc' := 80) rfl (hb hby d2_73) rfl (tlt hc33).2.2.1 (by decide) (by decide) ?_
                      show Steps p.tables e below (s₁.setTop (mkF m 80 #[.val (.int p0), .val (.int (p0 >>> ((6 : Int32) &&& 31))), .val (.int (p0 - (247 : Int32)))] [])) _
                      refine st34 _ ?_
                      show Steps p.tables e below (T34.setTop (mkF m 83 #[.val (.int p0), .val (.int (p0 >>> ((6 : Int32) &&& 31))), .val (.int (p0 - (247 : Int32)))] [(.ref w_FULL_FRAME)])) _
                      exact retOut X34 hx Bd.returns rfl (Or.inr (Or.inr (Or.inr (Or.inr ⟨rfl, rfl, rfl⟩)))) (hb hby d2_83) hr
                    · show Qp (some (.ref w_FULL_FRAME)) h0 n0 _ T34.heap _
                      rw [e34]
                      exact ⟨rfl, N0, rfl⟩
                  ·
                    obtain ⟨T35, X35, e35, st35⟩ := getS2 X0 hx hZ hown (host := "") (Or.inl (hw _ (List.mem_of_getElem? (i := 25) rfl))) Via.refl e0 S_APPEND (g := (mkF m 76 #[.val (.int p0), .val (.int (p0 >>> ((6 : Int32) &&& 31))), .val (.int (p0 - (247 : Int32)))] [])) rfl (hb hby d2_76)
                    have hv : (some r : Option Value) = some (.ref w_APPEND) := by rw [hre]; unfold v2; rw [if_neg hc2, if_neg hc5, if_neg hc8, if_neg hc10, if_neg hc13, if_pos hc25, if_neg hc27, if_neg hc30, if_neg hc33]
                    rw [hv]
                    obtain ⟨fs, hr, hrun, hended, hW, hsame⟩ := X35.leave (v := some (.ref w_APPEND)) (fun h => by rw [Bd.returns] at h; cases h)
                    refine ⟨_, _, pre32 _ ?_, hrun, hended, _, _, rfl, ?_, ⟨_, rfl⟩, hW, hsame.mono (by decide) (by decide)⟩
                    · show Steps p.tables e below (s₁.setTop (mkF m 73 #[.val (.int p0), .val (.int (p0 >>> ((6 : Int32) &&& 31))), .val (.int (p0 - (247 : Int32)))] [(.int (7 : Int32)), (.int (p0 - (247 : Int32)))])) _
                      refine XS.icmpNo X0.here hx rfl (hb hby d2_73) rfl (flt hc33).2.2.1 ?_
                      show Steps p.tables e below (s₁.setTop (mkF m 76 #[.val (.int p0), .val (.int (p0 >>> ((6 : Int32) &&& 31))), .val (.int (p0 - (247 : Int32)))] [])) _
                      refine st35 _ ?_
                      show Steps p.tables e below (T35.setTop (mkF m 79 #[.val (.int p0), .val (.int (p0 >>> ((6 : Int32) &&& 31))), .val (.int (p0 - (247 : Int32)))] [(.ref w_APPEND)])) _
                      exact retOut X35 hx Bd.returns rfl (Or.inr (Or.inr (Or.inr (Or.inr ⟨rfl, rfl, rfl⟩)))) (hb hby d2_79) hr
                    · show Qp (some (.ref w_APPEND)) h0 n0 _ T35.heap _
                      rw [e35]
                      exact ⟨rfl, N0, rfl⟩
            ·
              obtain ⟨T36, X36, e36, st36⟩ := getS2 X0 hx hZ hown (host := "") (Or.inl (hw _ (List.mem_of_getElem? (i := 16) rfl))) Via.refl e0 S_CHOP (g := (mkF m 52 #[.val (.int p0), .val (.int (p0 >>> ((6 : Int32) &&& 31))), .val (.int (p0 - (247 : Int32)))] [])) rfl (hb hby d2_52)
              have hv : (some r : Option Value) = some (.ref w_CHOP) := by rw [hre]; unfold v2; rw [if_neg hc2, if_neg hc5, if_neg hc8, if_neg hc10, if_neg hc13, if_neg hc25]
              rw [hv]
              obtain ⟨fs, hr, hrun, hended, hW, hsame⟩ := X36.leave (v := some (.ref w_CHOP)) (fun h => by rw [Bd.returns] at h; cases h)
              refine ⟨_, _, pre24 _ ?_, hrun, hended, _, _, rfl, ?_, ⟨_, rfl⟩, hW, hsame.mono (by decide) (by decide)⟩
              · show Steps p.tables e below (s₁.setTop (mkF m 49 #[.val (.int p0), .val (.int (p0 >>> ((6 : Int32) &&& 31))), .val (.int (p0 - (247 : Int32)))] [(.int (3 : Int32)), (.int (p0 - (247 : Int32)))])) _
                refine XS.icmpNo X0.here hx rfl (hb hby d2_49) rfl (flt hc25).2.2.1 ?_
                show Steps p.tables e below (s₁.setTop (mkF m 52 #[.val (.int p0), .val (.int (p0 >>> ((6 : Int32) &&& 31))), .val (.int (p0 - (247 : Int32)))] [])) _
                refine st36 _ ?_
                show Steps p.tables e below (T36.setTop (mkF m 55 #[.val (.int p0), .val (.int (p0 >>> ((6 : Int32) &&& 31))), .val (.int (p0 - (247 : Int32)))] [(.ref w_CHOP)])) _
                exact retOut X36 hx Bd.returns rfl (Or.inr (Or.inr (Or.inr (Or.inr ⟨rfl, rfl, rfl⟩)))) (hb hby d2_55) hr
              · show Qp (some (.ref w_CHOP)) h0 n0 _ T36.heap _
                rw [e36]
                exact ⟨rfl, N0, rfl⟩

set_option maxHeartbeats 40000000 in
theorem own_key (p0 : Int32) (w_SAME : Addr) (w_SAME_LOCALS_1_STACK_ITEM : Addr) (w_CHOP : Addr) (w_FULL_FRAME : Addr) (w_SAME_LOCALS_1_STACK_ITEM_EXTENDED : Addr) (w_APPEND : Addr) (w_SAME_FRAME_EXTENDED : Addr) : v1 (p0 &&& (255 : Int32)) w_SAME w_SAME_LOCALS_1_STACK_ITEM w_CHOP w_FULL_FRAME w_SAME_LOCALS_1_STACK_ITEM_EXTENDED w_APPEND w_SAME_FRAME_EXTENDED = v2 (p0 &&& (255 : Int32)) w_SAME w_SAME_LOCALS_1_STACK_ITEM w_CHOP w_FULL_FRAME w_SAME_LOCALS_1_STACK_ITEM_EXTENDED w_APPEND w_SAME_FRAME_EXTENDED := by
  have e : (p0 &&& (255 : Int32)).toInt = p0.toInt % 2 ^ 8 := Jvm.Kit.i32_mask p0 255 (k := 8) (by decide) (by decide)
  generalize (p0 &&& (255 : Int32)) = t at *
  have h1 : (t >>> ((6 : Int32) &&& 31)).toInt = t.toInt / 2 ^ 6 := Jvm.Kit.i32_shr t _ (k := 6) (by decide)
  have h2 : (t - (247 : Int32)).toInt = t.toInt - 247 := Jvm.Kit.i32_sub (p := t) (q := 247) (by simp only [show (247 : Int32).toInt = 247 from by decide]; omega) (by simp only [show (247 : Int32).toInt = 247 from by decide]; omega)
  unfold v1 v2
  generalize (t >>> ((6 : Int32) &&& 31)) = b at *
  generalize (t - (247 : Int32)) = d at *
  simp only [Int32.lt_iff_toInt_lt, ← Int32.toInt_inj, show (0 : Int32).toInt = 0 from by decide, show (1 : Int32).toInt = 1 from by decide, show (3 : Int32).toInt = 3 from by decide, show (4 : Int32).toInt = 4 from by decide, show (5 : Int32).toInt = 5 from by decide, show (7 : Int32).toInt = 7 from by decide, show (64 : Int32).toInt = 64 from by decide, show (128 : Int32).toInt = 128 from by decide, show (247 : Int32).toInt = 247 from by decide, show (251 : Int32).toInt = 251 from by decide, show (255 : Int32).toInt = 255 from by decide]
  repeat' split
  all_goals first | rfl | (exfalso; omega)

theorem pn_0 : plainName "com/example/cafelens/cafelens/KindOfPinLaw" = true := by first | (simp [plainName, overriddenIn]; done) | decide +kernel
theorem pd_0_13 : parseMethodDescriptor "(I)Lcom/example/cafelens/cafelens/StackMapFrame$Kind;" = some ⟨[.int], some (.object "com/example/cafelens/cafelens/StackMapFrame$Kind")⟩ := by decide +kernel
theorem pd_0_7 : parseMethodDescriptor "(I)Lcom/example/cafelens/cafelens/StackMapFrame$Kind;" = some ⟨[.int], some (.object "com/example/cafelens/cafelens/StackMapFrame$Kind")⟩ := by decide +kernel
theorem ef_0 (m : MethodId) (p0 : Int32) : entryFrame m #[(.int p0)] maxLocals = mkF m 0 #[.val (.int p0), .unset, .unset] [] := by first | (simp [entryFrame, mkF, argsToLocals, Value.category, maxLocals]; done) | rfl
set_option maxRecDepth 65536 in
set_option maxHeartbeats 40000000 in
theorem rm0 (l : Launch) (Z : State) (ar0 : Array Value) (hw : ∀ d ∈ tables_1, d.before ar0 Z = true) (ws : List Jvm.Cond) (p0 : Int32) (w_SAME : Addr) (w_SAME_LOCALS_1_STACK_ITEM : Addr) (w_CHOP : Addr) (w_FULL_FRAME : Addr) (w_SAME_LOCALS_1_STACK_ITEM_EXTENDED : Addr) (w_APPEND : Addr) (w_SAME_FRAME_EXTENDED : Addr) (h0 : Heap) (n0 : Nat) (Z0 : n0 ≤ h0.size) (F : Fx Z h0 w_SAME w_SAME_LOCALS_1_STACK_ITEM w_CHOP w_FULL_FRAME w_SAME_LOCALS_1_STACK_ITEM_EXTENDED w_APPEND w_SAME_FRAME_EXTENDED)   :
    MetFree l x (head1 ((Jvm.Cond.code x code maxLocals ret) :: ws) room_1) (fun a U => a = #[(.int p0)] ∧ Z.Warmed39 U.vm ∧ U.heap = h0) (fun _ _ _ _ _ => True) (fun _ U o U' => ∃ v L, o = .returned v ∧ Qp (some (.int (1 : Int32))) h0 n0 v U'.heap L ∧ FrameEnd U o U' L room_1.cells room_1.slots) := by
  obtain ⟨S_SAME, E_SAME, S_SAME_LOCALS_1_STACK_ITEM, E_SAME_LOCALS_1_STACK_ITEM, S_CHOP, E_CHOP, S_FULL_FRAME, E_FULL_FRAME, S_SAME_LOCALS_1_STACK_ITEM_EXTENDED, E_SAME_LOCALS_1_STACK_ITEM_EXTENDED, S_APPEND, E_APPEND, S_SAME_FRAME_EXTENDED, E_SAME_FRAME_EXTENDED⟩ := id F
  refine MetFree.of_bodySF (plainFor_of_name pn_0) hisR ?_
  intro p e s m args below meth c s₁ Bd hml0 hP hK
  obtain ⟨rfl, hZ, hh⟩ := hP
  have hx := Bd.exec
  have hby := Bd.bytes
  have hml : c.maxLocals = 3 := hml0
  have hown : s.vm.findClass "com/example/cafelens/cafelens/KindOfPinLaw" = some m.cls := findClass_of_methodNamed Bd.named
  have X0 : Stand p l e room_1 s m #[(.int p0)] below meth c s₁ [] 0 0 := Stand.of_body Bd
  have e0 : s₁.heap = h0 := by rw [← hh, Bd.state]; rfl
  have N0 := Fr.nil n0
  have pre0 : ∀ t, Steps p.tables e below (s₁.setTop (mkF m 0 #[.val (.int p0), .unset, .unset] [])) t → Steps p.tables e below (s₁.setTop (entryFrame m #[(.int p0)] maxLocals)) t := fun t k => castTop (ef_0 m p0) k
  obtain ⟨r1, hr1⟩ : ∃ z, z = v1 (p0 &&& (255 : Int32)) w_SAME w_SAME_LOCALS_1_STACK_ITEM w_CHOP w_FULL_FRAME w_SAME_LOCALS_1_STACK_ITEM_EXTENDED w_APPEND w_SAME_FRAME_EXTENDED := ⟨_, rfl⟩
  obtain ⟨_, _, ⟨T1, L1, k1, n1⟩, -, X1, ⟨Lc1, hQ1, l1, y1, z1⟩, st1⟩ := Jvm.LawKit.callS X0 hx (y := (⟨"com/example/cafelens/cafelens/StackMapFrame$Kind", "of", "(I)Lcom/example/cafelens/cafelens/StackMapFrame$Kind;"⟩ : MethodName)) hown (mvT hZ (hw _ (List.mem_of_getElem? (i := 0) rfl))) (mvT hZ (hw _ (List.mem_of_getElem? (i := 1) rfl))) (mvT hZ (hw _ (List.mem_of_getElem? (i := 2) rfl))) (mvT hZ (hw _ (List.mem_of_getElem? (i := 3) rfl))) (by decide) (backOf (W := 0) (rm1 l Z ar0 hw [] (p0 &&& (255 : Int32)) w_SAME w_SAME_LOCALS_1_STACK_ITEM w_CHOP w_FULL_FRAME w_SAME_LOCALS_1_STACK_ITEM_EXTENDED w_APPEND w_SAME_FRAME_EXTENDED h0 n0 Z0 F  r1 hr1) hZ (hw _ (List.mem_of_getElem? (i := 3) rfl)) (hw _ (List.mem_of_getElem? (i := 2) rfl)) (by decide) (by decide)) (g := (mkF m 7 #[.val (.int p0), .val (.int (p0 &&& (255 : Int32))), .unset] [(.int (p0 &&& (255 : Int32)))])) rfl (by rw [hml]; rfl) (argsL := [(.int (p0 &&& (255 : Int32)))]) (rest := []) (lenOf pd_0_7 rfl) rfl (by show 2 * 0 + _ ≤ _; exact Nat.le_of_eq rfl) (hb hby at_7) (fun _ _ => ⟨rfl, e0, (by decide : 0 + 0 ≤ _), (by decide : 0 + 0 ≤ _)⟩)
  dsimp only [Pt.U, Pt.locs, Pt.cells, Pt.slots] at X1 l1 y1 z1 st1 hQ1
  subst l1 y1 z1
  obtain ⟨rfl, N1q, e1⟩ := hQ1
  have N1 := Fr.app N0 N1q
  have ir1 : r1.isRef = true := by rw [hr1]; exact v1_ref _ _ _ _ _ _ _ _
  obtain ⟨r2, hr2⟩ : ∃ z, z = v2 (p0 &&& (255 : Int32)) w_SAME w_SAME_LOCALS_1_STACK_ITEM w_CHOP w_FULL_FRAME w_SAME_LOCALS_1_STACK_ITEM_EXTENDED w_APPEND w_SAME_FRAME_EXTENDED := ⟨_, rfl⟩
  obtain ⟨_, _, ⟨T2, L2, k2, n2⟩, -, X2, ⟨Lc2, hQ2, l2, y2, z2⟩, st2⟩ := Jvm.LawKit.callS X1 hx (y := (⟨"com/example/cafelens/cafelens/KindOfPinLaw", "expected", "(I)Lcom/example/cafelens/cafelens/StackMapFrame$Kind;"⟩ : MethodName)) hown (mvT hZ (hw _ (List.mem_of_getElem? (i := 6) rfl))) (mvT hZ (hw _ (List.mem_of_getElem? (i := 7) rfl))) (mvT hZ (hw _ (List.mem_of_getElem? (i := 8) rfl))) (mvT hZ (hw _ (List.mem_of_getElem? (i := 9) rfl))) (by decide) (backOf (W := 1) (rm2 l Z ar0 hw [] (p0 &&& (255 : Int32)) w_SAME w_SAME_LOCALS_1_STACK_ITEM w_CHOP w_FULL_FRAME w_SAME_LOCALS_1_STACK_ITEM_EXTENDED w_APPEND w_SAME_FRAME_EXTENDED h0 n0 Z0 F  r2 hr2) hZ (hw _ (List.mem_of_getElem? (i := 9) rfl)) (hw _ (List.mem_of_getElem? (i := 8) rfl)) (by decide) (by decide)) (g := (mkF m 13 #[.val (.int p0), .val (.int (p0 &&& (255 : Int32))), .val r1] [(.int (p0 &&& (255 : Int32))), r1])) rfl (by rw [hml]; rfl) (argsL := [(.int (p0 &&& (255 : Int32)))]) (rest := [r1]) (lenOf pd_0_13 rfl) rfl (by show 2 * 0 + (List.map (fun v => v.category) [r1]).sum ≤ _; simp only [List.map_cons, List.map_nil, own_cat ir1]; exact Nat.le_of_eq rfl) (hb hby at_13) (fun _ _ => ⟨rfl, e1, (by decide : 0 + 0 ≤ _), (by decide : 0 + 0 ≤ _)⟩)
  dsimp only [Pt.U, Pt.locs, Pt.cells, Pt.slots] at X2 l2 y2 z2 st2 hQ2
  subst l2 y2 z2
  obtain ⟨rfl, N2q, e2⟩ := hQ2
  have N2 := Fr.app N1 N2q
  have ir2 : r2.isRef = true := by rw [hr2]; exact v2_ref _ _ _ _ _ _ _ _
  have hk3 : r1 = r2 := by rw [hr1, hr2]; exact own_key p0 w_SAME w_SAME_LOCALS_1_STACK_ITEM w_CHOP w_FULL_FRAME w_SAME_LOCALS_1_STACK_ITEM_EXTENDED w_APPEND w_SAME_FRAME_EXTENDED
  obtain ⟨fs, hr, hrun, hended, hW, hsame⟩ := X2.leave (v := some (.int (1 : Int32))) (fun h => by rw [Bd.returns] at h; cases h)
  refine ⟨_, _, pre0 _ ?_, hrun, hended, _, _, rfl, ?_, ⟨_, rfl⟩, hW, hsame.mono (by decide) (by decide)⟩
  · show Steps p.tables e below (s₁.setTop (mkF m 0 #[.val (.int p0), .unset, .unset] [])) _
    refine XS.iloadN X0.here hx rfl (hb hby at_0) rfl ?_
    show Steps p.tables e below (s₁.setTop (mkF m 1 #[.val (.int p0), .unset, .unset] [(.int p0)])) _
    refine XS.sipush X0.here hx rfl (hb hby at_1) ?_
    show Steps p.tables e below (s₁.setTop (mkF m 4 #[.val (.int p0), .unset, .unset] [(.int (255 : Int32)), (.int p0)])) _
    refine XS.iand X0.here hx rfl (hb hby at_4) rfl ?_
    show Steps p.tables e below (s₁.setTop (mkF m 5 #[.val (.int p0), .unset, .unset] [(.int (p0 &&& (255 : Int32)))])) _
    refine XS.istoreN X0.here hx rfl (hb hby at_5) rfl (l' := #[.val (.int p0), .val (.int (p0 &&& (255 : Int32))), .unset]) rfl ?_
    show Steps p.tables e below (s₁.setTop (mkF m 6 #[.val (.int p0), .val (.int (p0 &&& (255 : Int32))), .unset] [])) _
    refine XS.iloadN X0.here hx rfl (hb hby at_6) rfl ?_
    show Steps p.tables e below (s₁.setTop (mkF m 7 #[.val (.int p0), .val (.int (p0 &&& (255 : Int32))), .unset] [(.int (p0 &&& (255 : Int32)))])) _
    refine st1 _ ?_
    show Steps p.tables e below (T1.setTop (mkF m 10 #[.val (.int p0), .val (.int (p0 &&& (255 : Int32))), .unset] [r1])) _
    refine XS.astoreN X1.here hx rfl (hb hby at_10) rfl ir1 (l' := #[.val (.int p0), .val (.int (p0 &&& (255 : Int32))), .val r1]) (by rcases ref_cases ir1 with q | ⟨_, q⟩ <;> rw [q] <;> rfl) ?_
    show Steps p.tables e below (T1.setTop (mkF m 11 #[.val (.int p0), .val (.int (p0 &&& (255 : Int32))), .val r1] [])) _
    refine XS.aloadN X1.here hx rfl (hb hby at_11) rfl ir1 ?_
    show Steps p.tables e below (T1.setTop (mkF m 12 #[.val (.int p0), .val (.int (p0 &&& (255 : Int32))), .val r1] [r1])) _
    refine XS.iloadN X1.here hx rfl (hb hby at_12) rfl ?_
    show Steps p.tables e below (T1.setTop (mkF m 13 #[.val (.int p0), .val (.int (p0 &&& (255 : Int32))), .val r1] [(.int (p0 &&& (255 : Int32))), r1])) _
    refine st2 _ ?_
    show Steps p.tables e below (T2.setTop (mkF m 16 #[.val (.int p0), .val (.int (p0 &&& (255 : Int32))), .val r1] [r2, r1])) _
    refine Jvm.RoadKit.acmp (g := (mkF m 16 #[.val (.int p0), .val (.int (p0 &&& (255 : Int32))), .val r1] [r2, r1])) X2 hx rfl ir1 ir2 (pc0 := 16) (pc' := 19) (same := true) rfl (hb hby at_16) rfl (decide_eq_true hk3) (by decide) (by decide) ?_
    show Steps p.tables e below (T2.setTop (mkF m 19 #[.val (.int p0), .val (.int (p0 &&& (255 : Int32))), .val r1] [])) _
    refine XS.iconst X2.here hx rfl (hb hby at_19) ?_
    show Steps p.tables e below (T2.setTop (mkF m 20 #[.val (.int p0), .val (.int (p0 &&& (255 : Int32))), .val r1] [(.int (1 : Int32))])) _
    refine XS.goto X2.here hx rfl (pc0 := 20) (pc' := 24) rfl (hb hby at_20) (by decide) (by decide) ?_
    show Steps p.tables e below (T2.setTop (mkF m 24 #[.val (.int p0), .val (.int (p0 &&& (255 : Int32))), .val r1] [(.int (1 : Int32))])) _
    exact retN X2 hx (t := .boolean) Bd.returns (by simp) (hb hby at_24) hr
  · show Qp (some (.int (1 : Int32))) h0 n0 _ T2.heap _
    rw [e2]
    exact ⟨rfl, N2, rfl⟩

set_option maxRecDepth 65536 in
set_option maxHeartbeats 40000000 in
theorem comes_1 {Post : Tables → Env → Array Value → State → Outcome → State → Prop} (hpost : ∀ tb e args s v u, (limb_1_1.after args s (.returned v) u = true ∧ limb_1_2.after args s (.returned v) u = true ∧ True) → FrameEnd s (.returned v) u (Jvm.fieldLocs frame_1_writes args s ++ Jvm.arrayLocs frame_1_arrays args s ++ Jvm.staticLocs frame_1_statics s) 0 0 → Post tb e args s (.returned v) u) :
    ArmFor flags0 classFile x code maxLocals ret World_1 tables_1 room_1 Calls_1 rest_1 Pre_1 Post := by
  intro l hfl _ _ p e ha hc hk s m args below hf hA hF happ hP
  obtain ⟨hcalls, hrest, hpre⟩ := hP
  obtain ⟨-, -, -, hnamed, -, -, -, hat⟩ := (Spec.applies_iff hf).mp happ
  obtain ⟨hg, hn⟩ := and_e (Cond.before_iff.mp (show (Jvm.Cond.and given_1 narrow_1).before args s = true from hpre))
  obtain ⟨g0, hg⟩ := and_e hg
  obtain ⟨w0, rfl⟩ : ∃ w0 : Value, args = #[w0] := by
    have hs : args.size = 1 := by simpa [Cond.value, given_1] using g0
    obtain ⟨L⟩ := args
    match L, hs with
    | [w0], _ => exact ⟨w0, rfl⟩
  have hw := fun d (hd : d ∈ tables_1) => atoms_spec (ws := Jvm.Cond.code x code maxLocals ret :: tables_1) hat d (List.mem_cons_of_mem _ hd)
  obtain ⟨i0, ei0⟩ := is_v hg
  obtain rfl : w0 = (.int i0) := Option.some.inj ei0
  obtain ⟨c0, hn⟩ := and_e hn
  obtain ⟨c1, hn⟩ := and_e hn
  obtain ⟨c2, hn⟩ := and_e hn
  obtain ⟨c3, hn⟩ := and_e hn
  obtain ⟨c4, hn⟩ := and_e hn
  obtain ⟨c5, hn⟩ := and_e hn
  have c6 := hn
  obtain ⟨w_SAME, ev_SAME⟩ := exa_v c0
  have S_SAME := Sta.start ev_SAME (Or.inr ⟨(hw _ (List.mem_of_getElem? (i := 2) rfl)), (hw _ (List.mem_of_getElem? (i := 5) rfl))⟩)
  have E_SAME := Exa.start ev_SAME c0
  obtain ⟨w_SAME_LOCALS_1_STACK_ITEM, ev_SAME_LOCALS_1_STACK_ITEM⟩ := exa_v c1
  have S_SAME_LOCALS_1_STACK_ITEM := Sta.start ev_SAME_LOCALS_1_STACK_ITEM (Or.inr ⟨(hw _ (List.mem_of_getElem? (i := 2) rfl)), (hw _ (List.mem_of_getElem? (i := 12) rfl))⟩)
  have E_SAME_LOCALS_1_STACK_ITEM := Exa.start ev_SAME_LOCALS_1_STACK_ITEM c1
  obtain ⟨w_CHOP, ev_CHOP⟩ := exa_v c2
  have S_CHOP := Sta.start ev_CHOP (Or.inr ⟨(hw _ (List.mem_of_getElem? (i := 2) rfl)), (hw _ (List.mem_of_getElem? (i := 15) rfl))⟩)
  have E_CHOP := Exa.start ev_CHOP c2
  obtain ⟨w_FULL_FRAME, ev_FULL_FRAME⟩ := exa_v c3
  have S_FULL_FRAME := Sta.start ev_FULL_FRAME (Or.inr ⟨(hw _ (List.mem_of_getElem? (i := 2) rfl)), (hw _ (List.mem_of_getElem? (i := 18) rfl))⟩)
  have E_FULL_FRAME := Exa.start ev_FULL_FRAME c3
  obtain ⟨w_SAME_LOCALS_1_STACK_ITEM_EXTENDED, ev_SAME_LOCALS_1_STACK_ITEM_EXTENDED⟩ := exa_v c4
  have S_SAME_LOCALS_1_STACK_ITEM_EXTENDED := Sta.start ev_SAME_LOCALS_1_STACK_ITEM_EXTENDED (Or.inr ⟨(hw _ (List.mem_of_getElem? (i := 2) rfl)), (hw _ (List.mem_of_getElem? (i := 21) rfl))⟩)
  have E_SAME_LOCALS_1_STACK_ITEM_EXTENDED := Exa.start ev_SAME_LOCALS_1_STACK_ITEM_EXTENDED c4
  obtain ⟨w_APPEND, ev_APPEND⟩ := exa_v c5
  have S_APPEND := Sta.start ev_APPEND (Or.inr ⟨(hw _ (List.mem_of_getElem? (i := 2) rfl)), (hw _ (List.mem_of_getElem? (i := 24) rfl))⟩)
  have E_APPEND := Exa.start ev_APPEND c5
  obtain ⟨w_SAME_FRAME_EXTENDED, ev_SAME_FRAME_EXTENDED⟩ := exa_v c6
  have S_SAME_FRAME_EXTENDED := Sta.start ev_SAME_FRAME_EXTENDED (Or.inr ⟨(hw _ (List.mem_of_getElem? (i := 2) rfl)), (hw _ (List.mem_of_getElem? (i := 27) rfl))⟩)
  have E_SAME_FRAME_EXTENDED := Exa.start ev_SAME_FRAME_EXTENDED c6
  have F : Fx s s.heap w_SAME w_SAME_LOCALS_1_STACK_ITEM w_CHOP w_FULL_FRAME w_SAME_LOCALS_1_STACK_ITEM_EXTENDED w_APPEND w_SAME_FRAME_EXTENDED := ⟨S_SAME, E_SAME, S_SAME_LOCALS_1_STACK_ITEM, E_SAME_LOCALS_1_STACK_ITEM, S_CHOP, E_CHOP, S_FULL_FRAME, E_FULL_FRAME, S_SAME_LOCALS_1_STACK_ITEM_EXTENDED, E_SAME_LOCALS_1_STACK_ITEM_EXTENDED, S_APPEND, E_APPEND, S_SAME_FRAME_EXTENDED, E_SAME_FRAME_EXTENDED⟩

  obtain ⟨n, o, h1, h2, h3, _, L, rfl, ⟨rfl, N, -⟩, hq⟩ := rm0 l s _ hw tables_1 i0 w_SAME w_SAME_LOCALS_1_STACK_ITEM w_CHOP w_FULL_FRAME w_SAME_LOCALS_1_STACK_ITEM_EXTENDED w_APPEND w_SAME_FRAME_EXTENDED s.heap s.heap.size (Nat.le_refl _) F  p e ha hc hk s m _ below hf ((Spec.applies_iff_loose hf).mp happ).1 ⟨rfl, State.Warmed39.refl s, rfl⟩ trivial
  refine ⟨n, _, h1, h2, h3, hpost _ _ _ _ _ _ ⟨Cond.after_iff.mpr rfl, Cond.after_iff.mpr (eq_i res_at (Term.int_eval (1)) rfl), trivial⟩ ⟨hq.1, hq.2.1, (hq.2.2.sift fun y hy => Or.inr (N y hy)).mono (by decide) (by decide)⟩⟩
theorem main_1_1 : Claimed_1_1 := comes_1 fun _ _ _ _ _ _ h hF => ⟨h.1, hF⟩
theorem main_1_2 : Claimed_1_2 := comes_1 fun _ _ _ _ _ _ h hF => ⟨h.2.1, hF⟩
end Jvm.Pilot.@@N@@
namespace Jvm.Pilot.@@N@@
open Jvm Jvm.ClassFile Sem Op Lib Jvm.Free Jvm.Stand Jvm.Pilot.@@N@@.Jvm.D
/-! MADE BY PROGRAM (witnessworld.py) out of the Statement's table words and the real class files: 12 classes; the members and pool entries that the words name. The judged class is class 1, her method 2. -/
namespace start1
open Jvm.ClassFile
def u (s : String) : CpInfo := .utf8 (stringToUtf16 s)
/-- a pool by its gaps: so many unusable entries, then the entry; so many at the end -/
def gap : Nat → List CpInfo → List CpInfo
  | 0, r => r
  | n + 1, r => .unusable :: gap n r
def poolList (es : List (Nat × CpInfo)) (last : Nat) : List CpInfo := es.foldr (fun e r => gap e.1 (e.2 :: r)) (gap last [])
def pool (es : List (Nat × CpInfo)) (last : Nat) : Array CpInfo := ⟨poolList es last⟩
def fileOf (pool : Array CpInfo) (this : Nat) (attrs : Array Attribute := #[]) (ms : Array MethodInfo := #[]) (fl : Nat := 33) (sup : Nat := 0) (ifs : Array Nat := #[]) (fds : Array FieldInfo := #[]) : ClassFile where
  minorVersion := 0
  majorVersion := 65
  constantPool := pool
  accessFlags := fl
  thisClass := this
  superClass := sup
  interfaces := ifs
  fields := fds
  methods := ms
  attributes := attrs
def plain (name : String) (sup : Option ClassId) : Class where
  name := name
  kind := .ordinary
  loader := none
  accessFlags := 33
  super := sup
  interfaces := #[]
  cf := none
  fields := #[]
  methods := #[]
  instanceTypes := #[]
  staticTypes := #[]
  resolved := #[]
  callSites := []
  init := .initialized
  statics := none
  mirror := none

def pool0 : Array CpInfo := pool [(5, u "<init>"), (0, u "()V"), (1, .class_ 10), (1, u "java/lang/Object")] 113

def k0m0 : Method := { name := "<init>", desc := "()V", sig := { parameters := [], returnType := none }, accessFlags := 1, code := none }
/-- java/lang/Object -/
def k0 : Class := { plain "java/lang/Object" none with
  accessFlags := 33
  interfaces := #[]
  cf := some (fileOf pool0 8 #[] #[{ accessFlags := 1, nameIndex := 5, descriptorIndex := 6, attributes := #[] }] 33 0 #[] #[])
  fields := #[]
  methods := #[k0m0]
  instanceTypes := #[]
  staticTypes := #[]
  resolved := Array.replicate 124 none
  statics := none }

def pool1 : Array CpInfo := pool [(2, .class_ 4), (1, u "java/lang/Object"), (0, u "<init>"), (0, u "()V"), (0, .fieldref 8 9), (0, .class_ 10), (0, .nameAndType 11 12), (0, u "com/example/cafelens/cafelens/StackMapFrame$Kind"), (0, u "SAME"), (0, u "Lcom/example/cafelens/cafelens/StackMapFrame$Kind;"), (0, .fieldref 8 14), (0, .nameAndType 15 12), (0, u "SAME_LOCALS_1_STACK_ITEM"), (0, .fieldref 8 17), (0, .nameAndType 18 12), (0, u "SAME_LOCALS_1_STACK_ITEM_EXTENDED"), (0, .fieldref 8 20), (0, .nameAndType 21 12), (0, u "CHOP"), (0, .fieldref 8 23), (0, .nameAndType 24 12), (0, u "SAME_FRAME_EXTENDED"), (0, .fieldref 8 26), (0, .nameAndType 27 12), (0, u "APPEND"), (0, .fieldref 8 29), (0, .nameAndType 30 12), (0, u "FULL_FRAME"), (0, .methodref 8 32), (0, .nameAndType 33 34), (0, u "of"), (0, u "(I)Lcom/example/cafelens/cafelens/StackMapFrame$Kind;"), (0, .methodref 36 37), (0, .class_ 38), (0, .nameAndType 39 34), (0, u "com/example/cafelens/cafelens/KindOfPinLaw"), (0, u "expected"), (3, u "law"), (0, u "(I)Z")] 6

def k1m0 : Method := { name := "<init>", desc := "()V", sig := { parameters := [], returnType := none }, accessFlags := 2, code := none }
def k1c1 : Code := { maxStack := 2, maxLocals := 3, code := method_2_code, exceptionTable := #[], attributes := #[] }
def k1m1 : Method := { name := "expected", desc := "(I)Lcom/example/cafelens/cafelens/StackMapFrame$Kind;", sig := { parameters := [.int], returnType := some (.object "com/example/cafelens/cafelens/StackMapFrame$Kind") }, accessFlags := 10, code := some k1c1 }
def k1c2 : Code := { maxStack := 2, maxLocals := 3, code := code, exceptionTable := #[], attributes := #[] }
def k1m2 : Method := { name := "law", desc := "(I)Z", sig := { parameters := [.int], returnType := some .boolean }, accessFlags := 9, code := some k1c2 }
/-- com/example/cafelens/cafelens/KindOfPinLaw -/
def k1 : Class := { plain "com/example/cafelens/cafelens/KindOfPinLaw" (some 0) with
  accessFlags := 49
  interfaces := #[]
  cf := some (fileOf pool1 36 #[] #[{ accessFlags := 2, nameIndex := 5, descriptorIndex := 6, attributes := #[] }, { accessFlags := 10, nameIndex := 39, descriptorIndex := 34, attributes := #[] }, { accessFlags := 9, nameIndex := 43, descriptorIndex := 44, attributes := #[] }] 49 2 #[] #[])
  fields := #[]
  methods := #[k1m0, k1m1, k1m2]
  instanceTypes := #[]
  staticTypes := #[]
  resolved := Array.replicate 51 none
  statics := none }

def pool2 : Array CpInfo := pool [(1, .class_ 2), (0, u "java/lang/constant/Constable"), (0, .class_ 4), (0, u "java/lang/Object")] 6

/-- java/lang/constant/Constable -/
def k2 : Class := { plain "java/lang/constant/Constable" (some 0) with
  accessFlags := 1537
  interfaces := #[]
  cf := some (fileOf pool2 1 #[] #[] 1537 3 #[] #[])
  fields := #[]
  methods := #[]
  instanceTypes := #[]
  staticTypes := #[]
  resolved := Array.replicate 11 none
  statics := none }

def pool3 : Array CpInfo := pool [(1, .class_ 2), (0, u "java/lang/Comparable"), (0, .class_ 4), (0, u "java/lang/Object")] 7

/-- java/lang/Comparable -/
def k3 : Class := { plain "java/lang/Comparable" (some 0) with
  accessFlags := 1537
  interfaces := #[]
  cf := some (fileOf pool3 1 #[] #[] 1537 3 #[] #[])
  fields := #[]
  methods := #[]
  instanceTypes := #[]
  staticTypes := #[]
  resolved := Array.replicate 12 none
  statics := none }

def pool4 : Array CpInfo := pool [(1, .class_ 2), (0, u "java/io/Serializable"), (0, .class_ 4), (0, u "java/lang/Object")] 2

/-- java/io/Serializable -/
def k4 : Class := { plain "java/io/Serializable" (some 0) with
  accessFlags := 1537
  interfaces := #[]
  cf := some (fileOf pool4 1 #[] #[] 1537 3 #[] #[])
  fields := #[]
  methods := #[]
  instanceTypes := #[]
  staticTypes := #[]
  resolved := Array.replicate 7 none
  statics := none }

def pool5 : Array CpInfo := pool [(2, .class_ 4), (1, u "java/lang/Enum"), (0, u "name"), (0, u "Ljava/lang/String;"), (2, u "ordinal"), (0, u "I"), (1, .class_ 14), (1, u "java/lang/Object"), (4, u "hash"), (86, .class_ 108), (1, u "java/lang/Enum$EnumDesc"), (2, .class_ 112), (0, u "java/lang/constant/Constable"), (0, .class_ 114), (0, u "java/lang/Comparable"), (0, .class_ 116), (0, u "java/io/Serializable")] 87

/-- java/lang/Enum -/
def k5 : Class := { plain "java/lang/Enum" (some 0) with
  accessFlags := 1057
  interfaces := #[2, 3, 4]
  cf := some (fileOf pool5 2 #[.nestMembers #[106]] #[] 1057 12 #[111, 113, 115] #[{ accessFlags := 18, nameIndex := 5, descriptorIndex := 6, attributes := #[] }, { accessFlags := 18, nameIndex := 9, descriptorIndex := 10, attributes := #[] }, { accessFlags := 2, nameIndex := 19, descriptorIndex := 10, attributes := #[] }])
  fields := #[{ name := "name", type := (.object "java/lang/String"), accessFlags := 18, slot := 0, constantValue := 0 }, { name := "ordinal", type := .int, accessFlags := 18, slot := 1, constantValue := 0 }, { name := "hash", type := .int, accessFlags := 2, slot := 2, constantValue := 0 }]
  methods := #[]
  instanceTypes := #[(.object "java/lang/String"), .int, .int]
  staticTypes := #[]
  resolved := Array.replicate 204 none
  statics := none }

def pool6 : Array CpInfo := pool [(1, .class_ 2), (0, u "com/example/cafelens/cafelens/StackMapFrame"), (0, .class_ 4), (0, u "com/example/cafelens/cafelens/StackMapFrame$Kind"), (0, .fieldref 3 6), (0, .nameAndType 7 8), (0, u "SAME"), (0, u "Lcom/example/cafelens/cafelens/StackMapFrame$Kind;"), (0, .fieldref 3 10), (0, .nameAndType 11 8), (0, u "SAME_LOCALS_1_STACK_ITEM"), (0, .fieldref 3 13), (0, .nameAndType 14 8), (0, u "SAME_LOCALS_1_STACK_ITEM_EXTENDED"), (0, .fieldref 3 16), (0, .nameAndType 17 8), (0, u "CHOP"), (0, .fieldref 3 19), (0, .nameAndType 20 8), (0, u "SAME_FRAME_EXTENDED"), (0, .fieldref 3 22), (0, .nameAndType 23 8), (0, u "APPEND"), (0, .fieldref 3 25), (0, .nameAndType 26 8), (0, u "FULL_FRAME"), (2, u "$VALUES"), (0, u "[Lcom/example/cafelens/cafelens/StackMapFrame$Kind;"), (6, .class_ 39), (1, u "java/lang/Enum"), (41, u "of"), (0, u "(I)Lcom/example/cafelens/cafelens/StackMapFrame$Kind;")] 9

def k6c0 : Code := { maxStack := 2, maxLocals := 1, code := prog_97_method_4_code, exceptionTable := #[], attributes := #[] }
def k6m0 : Method := { name := "of", desc := "(I)Lcom/example/cafelens/cafelens/StackMapFrame$Kind;", sig := { parameters := [.int], returnType := some (.object "com/example/cafelens/cafelens/StackMapFrame$Kind") }, accessFlags := 9, code := some k6c0 }
/-- com/example/cafelens/cafelens/StackMapFrame$Kind -/
def k6 : Class := { plain "com/example/cafelens/cafelens/StackMapFrame$Kind" (some 5) with
  accessFlags := 16433
  interfaces := #[]
  cf := some (fileOf pool6 3 #[.nestHost 1] #[{ accessFlags := 9, nameIndex := 81, descriptorIndex := 82, attributes := #[] }] 16433 37 #[] #[{ accessFlags := 16409, nameIndex := 7, descriptorIndex := 8, attributes := #[] }, { accessFlags := 16409, nameIndex := 11, descriptorIndex := 8, attributes := #[] }, { accessFlags := 16409, nameIndex := 14, descriptorIndex := 8, attributes := #[] }, { accessFlags := 16409, nameIndex := 17, descriptorIndex := 8, attributes := #[] }, { accessFlags := 16409, nameIndex := 20, descriptorIndex := 8, attributes := #[] }, { accessFlags := 16409, nameIndex := 23, descriptorIndex := 8, attributes := #[] }, { accessFlags := 16409, nameIndex := 26, descriptorIndex := 8, attributes := #[] }, { accessFlags := 4122, nameIndex := 29, descriptorIndex := 30, attributes := #[] }])
  fields := #[{ name := "SAME", type := (.object "com/example/cafelens/cafelens/StackMapFrame$Kind"), accessFlags := 16409, slot := 0, constantValue := 0 }, { name := "SAME_LOCALS_1_STACK_ITEM", type := (.object "com/example/cafelens/cafelens/StackMapFrame$Kind"), accessFlags := 16409, slot := 1, constantValue := 0 }, { name := "SAME_LOCALS_1_STACK_ITEM_EXTENDED", type := (.object "com/example/cafelens/cafelens/StackMapFrame$Kind"), accessFlags := 16409, slot := 2, constantValue := 0 }, { name := "CHOP", type := (.object "com/example/cafelens/cafelens/StackMapFrame$Kind"), accessFlags := 16409, slot := 3, constantValue := 0 }, { name := "SAME_FRAME_EXTENDED", type := (.object "com/example/cafelens/cafelens/StackMapFrame$Kind"), accessFlags := 16409, slot := 4, constantValue := 0 }, { name := "APPEND", type := (.object "com/example/cafelens/cafelens/StackMapFrame$Kind"), accessFlags := 16409, slot := 5, constantValue := 0 }, { name := "FULL_FRAME", type := (.object "com/example/cafelens/cafelens/StackMapFrame$Kind"), accessFlags := 16409, slot := 6, constantValue := 0 }, { name := "$VALUES", type := (.array (.object "com/example/cafelens/cafelens/StackMapFrame$Kind")), accessFlags := 4122, slot := 7, constantValue := 0 }]
  methods := #[k6m0]
  instanceTypes := #[(.object "java/lang/String"), .int, .int]
  staticTypes := #[(.object "com/example/cafelens/cafelens/StackMapFrame$Kind"), (.object "com/example/cafelens/cafelens/StackMapFrame$Kind"), (.object "com/example/cafelens/cafelens/StackMapFrame$Kind"), (.object "com/example/cafelens/cafelens/StackMapFrame$Kind"), (.object "com/example/cafelens/cafelens/StackMapFrame$Kind"), (.object "com/example/cafelens/cafelens/StackMapFrame$Kind"), (.object "com/example/cafelens/cafelens/StackMapFrame$Kind"), (.array (.object "com/example/cafelens/cafelens/StackMapFrame$Kind"))]
  resolved := Array.replicate 92 none
  statics := some 0 }

def pool7 : Array CpInfo := pool [(1, u "java/lang/Cloneable"), (0, .class_ 1), (0, u "java/lang/Object"), (0, .class_ 3)] 3

/-- java/lang/Cloneable -/
def k7 : Class := { plain "java/lang/Cloneable" (some 0) with
  accessFlags := 1537
  interfaces := #[]
  cf := some (fileOf pool7 2 #[] #[] 1537 4 #[] #[])
  fields := #[]
  methods := #[]
  instanceTypes := #[]
  staticTypes := #[]
  resolved := Array.replicate 8 none
  statics := none }

/-- the primitive byte -/
def k8 : Class := { plain "byte" none with kind := .primitive 'B', accessFlags := 0x411 }
/-- [B -/
def k9 : Class := { plain "[B" (some 0) with kind := .array 8 .byte, interfaces := #[7, 4], accessFlags := 1041 }

/-- the primitive int -/
def k10 : Class := { plain "int" none with kind := .primitive 'I', accessFlags := 0x411 }
/-- [I -/
def k11 : Class := { plain "[I" (some 0) with kind := .array 10 .int, interfaces := #[7, 4], accessFlags := 1041 }

def heap : Heap := #[{ cls := 6, slots := #[.ref 1, .ref 2, .ref 5, .ref 3, .ref 7, .ref 6, .ref 4, .null], vm := .statics 6 },
  { cls := 6, slots := #[.null, .int 0, .int 0], vm := .none },
  { cls := 6, slots := #[.null, .int 0, .int 0], vm := .none },
  { cls := 6, slots := #[.null, .int 0, .int 0], vm := .none },
  { cls := 6, slots := #[.null, .int 0, .int 0], vm := .none },
  { cls := 6, slots := #[.null, .int 0, .int 0], vm := .none },
  { cls := 6, slots := #[.null, .int 0, .int 0], vm := .none },
  { cls := 6, slots := #[.null, .int 0, .int 0], vm := .none }]
def classes : Array Class := #[k0, k1, k2, k3, k4, k5, k6, k7, k8, k9, k10, k11]
def interned : List (Array UInt16 × Addr) := []
def slotsUsed : Nat := 29
def theMethod : MethodId := ⟨1, 2⟩
def args0 : Array Value := #[.int 5]
def aboutOver (below : List Frame) : State where
  vm := { classes := classes, interned := interned.toArray }
  heap := heap
  slotsUsed := slotsUsed
  threads := #[{ frames := .invoking theMethod args0 :: below }]
def below0 : List Frame := [.native { method := ⟨0, 0⟩, args := #[] }]
def about1 : State := aboutOver below0
def p0 : Program := .bare "" "" ""
def e0 : Env := launch0.env 0 0 0
theorem w_frames : about1.frames = Frame.invoking theMethod args0 :: below0 := rfl
set_option maxRecDepth 65536 in
theorem w_args : argsFit about1.vm theMethod args0 = true := by decide +kernel
set_option maxRecDepth 65536 in
theorem w_heap : heapFits about1 = true := by decide +kernel
set_option maxRecDepth 65536 in
theorem w_runnable : about1.curStatus? = some .runnable := by decide +kernel
set_option maxRecDepth 65536 in
theorem w_alone : about1.alone = true := by decide +kernel
set_option maxRecDepth 65536 in
theorem w_named : about1.methodNamed? x = some theMethod := by decide +kernel
set_option maxRecDepth 65536 in
theorem w_hears : about1.hears theMethod below0 = true := by decide +kernel
set_option maxRecDepth 65536 in
theorem w_ripe : about1.ripe theMethod args0 below0 = true := by decide +kernel
theorem w_running : about1.status = .running := rfl
set_option maxRecDepth 65536 in
theorem w_room : about1.hasRoom e0.platform room_1 = true :=
  launch0.hasRoom_least _ room_1 (by decide +kernel) (by decide +kernel) (by decide +kernel) (by decide +kernel) (by decide +kernel) (by decide +kernel)
theorem allAtoms_all (ts : List Jvm.Cond) (a : Array Jvm.Value) (st : Jvm.State) : (allAtoms ts).before a st = ts.all (fun c => c.before a st) := by
  induction ts with
  | nil => rfl
  | cons c t ih =>
    show (Jvm.Cond.and c (allAtoms t)).before a st = _
    rw [Jvm.Cond.before_and, ih, List.all_cons]
def words1 : List Jvm.Cond := Jvm.Cond.code x code maxLocals ret :: tables_1
/-- a 'code' word, met by the world's own term for the bytes: nothing is compared byte by byte -/
theorem code_word {y : MethodName} {bytes : ByteArray} {mx : Nat} {rt : Option FieldType} {a : Array Value} {s : State} {m : MethodId} {meth : Method} {c : Code} (h1 : s.methodNamed? y = some m) (h2 : s.vm.method? m = some meth) (h3 : meth.code = some c) (h4 : c.code = bytes)
    (h5 : (c.maxLocals == mx && c.exceptionTable.isEmpty && decide (c.maxStack ≤ mostOperands) && decide (meth.sig.returnType = rt) && !meth.locks && decide (parseMethodDescriptor y.desc = some meth.sig)) = true) : (Jvm.Cond.code y bytes mx rt).before a s = true := by
  simp only [Bool.and_eq_true, beq_iff_eq, Bool.not_eq_true', decide_eq_true_eq] at h5
  obtain ⟨⟨⟨⟨⟨g1, g2⟩, g3⟩, g4⟩, g5⟩, g6⟩ := h5
  simp [Cond.before, Cond.holds, Cond.value, h1, h2, h3, h4, g1, g2, g3, g4, g5, g6]
def isCode : Jvm.Cond → Bool
  | .code _ _ _ _ => true
  | _ => false
theorem all_split {L : List Jvm.Cond} {P : Jvm.Cond → Bool} (h1 : L.all (fun c => isCode c || P c) = true) (h2 : ∀ c ∈ L.filter isCode, P c = true) : L.all P = true := by
  refine List.all_eq_true.mpr fun c hc => ?_
  have h := List.all_eq_true.mp h1 c hc
  rcases Bool.eq_false_or_eq_true (isCode c) with hi | hi
  · exact h2 c (List.mem_filter.mpr ⟨hc, hi⟩)
  · simpa [hi] using h
set_option maxRecDepth 65536 in
theorem w_c0 : (Jvm.Cond.code x code maxLocals ret).before args0 about1 = true := code_word (m := ⟨1, 2⟩) (meth := k1m2) (c := k1c2) (by decide +kernel) rfl rfl rfl (by decide +kernel)
set_option maxRecDepth 65536 in
theorem w_c1 : (Jvm.Cond.code ({ cls := "com/example/cafelens/cafelens/StackMapFrame$Kind", name := "of", desc := "(I)Lcom/example/cafelens/cafelens/StackMapFrame$Kind;" } : Jvm.MethodName) prog_97_method_4_code (1 : Nat) (Option.some (Jvm.ClassFile.FieldType.object "com/example/cafelens/cafelens/StackMapFrame$Kind"))).before args0 about1 = true := code_word (m := ⟨6, 0⟩) (meth := k6m0) (c := k6c0) (by decide +kernel) rfl rfl rfl (by decide +kernel)
set_option maxRecDepth 65536 in
theorem w_c2 : (Jvm.Cond.code ({ cls := "com/example/cafelens/cafelens/KindOfPinLaw", name := "expected", desc := "(I)Lcom/example/cafelens/cafelens/StackMapFrame$Kind;" } : Jvm.MethodName) method_2_code (3 : Nat) (Option.some (Jvm.ClassFile.FieldType.object "com/example/cafelens/cafelens/StackMapFrame$Kind"))).before args0 about1 = true := code_word (m := ⟨1, 1⟩) (meth := k1m1) (c := k1c1) (by decide +kernel) rfl rfl rfl (by decide +kernel)
def codes1 : List Jvm.Cond := [Jvm.Cond.code x code maxLocals ret, Jvm.Cond.code ({ cls := "com/example/cafelens/cafelens/StackMapFrame$Kind", name := "of", desc := "(I)Lcom/example/cafelens/cafelens/StackMapFrame$Kind;" } : Jvm.MethodName) prog_97_method_4_code (1 : Nat) (Option.some (Jvm.ClassFile.FieldType.object "com/example/cafelens/cafelens/StackMapFrame$Kind")), Jvm.Cond.code ({ cls := "com/example/cafelens/cafelens/KindOfPinLaw", name := "expected", desc := "(I)Lcom/example/cafelens/cafelens/StackMapFrame$Kind;" } : Jvm.MethodName) method_2_code (3 : Nat) (Option.some (Jvm.ClassFile.FieldType.object "com/example/cafelens/cafelens/StackMapFrame$Kind"))]
set_option maxRecDepth 65536 in
theorem codes_eq : words1.filter isCode = codes1 := rfl
theorem w_codes : ∀ c ∈ words1.filter isCode, c.before args0 about1 = true := by
  rw [codes_eq]
  intro c hc
  simp only [codes1, List.mem_cons, List.not_mem_nil, or_false] at hc
  rcases hc with rfl | rfl | rfl
  · exact w_c0
  · exact w_c1
  · exact w_c2
set_option maxRecDepth 65536 in
theorem w_t1 : (words1.take 24).all (fun c => isCode c || c.before args0 about1) = true := by decide +kernel
set_option maxRecDepth 65536 in
theorem w_t2 : (words1.drop 24).all (fun c => isCode c || c.before args0 about1) = true := by decide +kernel
theorem w_tables : (allAtoms (Jvm.Cond.code x code maxLocals ret :: tables_1)).before args0 about1 = true := by
  rw [allAtoms_all]
  show words1.all (fun c => c.before args0 about1) = true
  refine all_split ?_ w_codes
  rw [← List.take_append_drop 24 words1, List.all_append, w_t1, w_t2]
  rfl
set_option maxRecDepth 65536 in
theorem w_case : (Jvm.Cond.and given_1 narrow_1).before args0 about1 = true := by decide +kernel
theorem w_applies : (headSpec (Jvm.Cond.code x code maxLocals ret :: tables_1) room_1).applies x e0.platform about1 = true :=
  (Spec.applies_iff w_frames).mpr ⟨w_running, w_runnable, w_alone, w_named, w_hears, w_ripe, w_room, w_tables⟩
theorem atStart : AtStart classFile x code maxLocals ret World_1 tables_1 room_1 Calls_1 rest_1 Pre_1 launch0 p0 e0 about1 theMethod args0 below0 :=
  ⟨lists_1, trivial, launch0.admits_env _ _ _, launch0.least_env, fairChoices_fair.cas, fairChoices_fair.clock, w_frames, w_args, w_heap, w_applies, trivial, trivial, w_case⟩
end start1
theorem witness_1 : WitnessClaimed_1 := ⟨start1.p0, start1.e0, start1.about1, start1.theMethod, start1.args0, start1.below0, start1.atStart⟩
end Jvm.Pilot.@@N@@
