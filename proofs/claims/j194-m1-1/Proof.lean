import JvmDerived
import JvmDerived.Pilot.@@N@@Statement
import JvmDerived.Pilot.@@N@@Code
set_option linter.unusedVariables false
set_option linter.unusedSimpArgs false
@@BLOCK:NumsL.lean.txt@@
namespace Jvm.RoadKit
open Sem ClassFile Op Lib Jvm.Stand Jvm.Free Jvm.LawKit
section New
variable {p : Program} {l : Launch} {e : Env} {R : Room} {s : State} {m : MethodId} {args : Array Value} {below : List Frame} {meth : Method} {c : Code} {T : State} {locs : List Loc} {cells slots : Nat}
theorem retI (X : Stand p l e R s m args below meth c T locs cells slots) (hx : p.tables.exec = Jvm.exec) {pc : Nat} {Ls : Array Slot} {z : Int32} {rest : List Value} (hret : meth.sig.returnType = some .int) (hd : decode c.code pc = .ok (.ireturn, 1)) {fs : List Frame}
    (hl : ∀ (f : JFrame) (acts : List Action), f.method = m → f.locked = none → f.entered = [] → (doReturn e (T.setTop f) acts (some (.int z))).1 = T.setFrames fs) : Steps p.tables e below (T.setTop (mkF m pc Ls (.int z :: rest))) (T.setFrames fs) := by
  have hm' : T.vm.method? m = some meth := X.method'
  have hn : narrow .int (.int z) = .int z := rfl
  show Steps p.tables e below (T.setTop { method := m, pc := pc, locals := Ls, stack := _ :: rest, locked := none }) _
  jvm_step X.here [X.here.top, hx, hd, hm', hret, hn]
  first | (intro acts; rw [hl _ acts rfl rfl rfl]) | rw [hl _ _ rfl rfl rfl]
  exact Steps.refl _
end New
end Jvm.RoadKit
namespace Jvm.Pilot.@@N@@
open Jvm Jvm.ClassFile Sem Op Lib Jvm.Free Jvm.Stand Jvm.LawKit Jvm.RoadKit Bundle Jvm.Pilot.@@N@@.Jvm.D
/-- what a body that writes nothing leaves -/
def Qp (r : Option Value) (h0 : Heap) (n0 : Nat) (v : Option Value) (h : Heap) (L : List Loc) : Prop := v = r ∧ Fr n0 L ∧ h = h0
theorem own_fld {args : Array Value} {s : State} {t : Term} {C n d : String} {x : Addr} {k : Int32} (ht : t.eval args s none [] s = some (.ref x)) (h : (Cond.eq (.field t C n d) (.int k)).value args s none s [] = some true) : Fld s s.heap x C n d (.int k) := by
  obtain ⟨u, v, a1, a2, k1, -⟩ := cmp_v (Or.inl h)
  have a3 : (Term.int k).eval args s none [] s = some (.int k) := rfl
  cases a3.symm.trans a2
  have a4 : u = .int k := by
    cases u <;> simp [Cond.value, a1, a3] at h ⊢
    exact h
  subst a4
  rw [fld_at ht] at a1
  exact Fld.start a1
theorem own_fld_inj {Z : State} {h : Heap} {a : Addr} {C n d : String} {v w : Value} (F : Fld Z h a C n d v) (G : Fld Z h a C n d w) : v = w := by
  obtain ⟨c1, cf1, k1, i1, f1, h1, h2, -, -, -, -, h7⟩ := F
  obtain ⟨c2, cf2, k2, i2, f2, g1, g2, -, -, -, -, g7⟩ := G
  cases h1.symm.trans g1
  cases h2.symm.trans g2
  exact Option.some.inj (h7.symm.trans g7)
theorem own_fld_ne {Z : State} {h : Heap} {a b : Addr} {C n d : String} {v w : Int32} (F : Fld Z h a C n d (.int v)) (G : Fld Z h b C n d (.int w)) (hn : ¬ v = w) : a ≠ b := fun q => by
  subst q
  exact hn (Value.int.inj (own_fld_inj F G))
theorem nar_ref (t : FieldType) (w : Value) (h : w.isRef = true) : narrow t w = w := by
  rcases ref_cases h with rfl | ⟨a, rfl⟩ <;> cases t <;> rfl

def Fx (Z : State) (h : Heap) (w_ORIGINAL : Addr) (w_FEEDBACK : Addr) (w_CENTROID : Addr) (w_HYPERNYM : Addr) (w_SUBSTANCE_MERONYM : Addr) (w_MEMBER_MERONYM : Addr) (w_PART_MERONYM : Addr) (w_SUBSTANCE_HOLONYM : Addr) (w_ANTONYM : Addr) (w_SYNONYM : Addr) (w_MEMBER_HOLONYM : Addr) (w_PART_HOLONYM : Addr) (w_HYPONYM : Addr) : Prop := (Sta Z h "com/example/hydrangea/hydrangea/expansion/Subvector" "ORIGINAL" "Lcom/example/hydrangea/hydrangea/expansion/Subvector;" (.ref w_ORIGINAL)) ∧ (Exa Z h w_ORIGINAL "com/example/hydrangea/hydrangea/expansion/Subvector") ∧ (Sta Z h "com/example/hydrangea/hydrangea/expansion/Subvector" "FEEDBACK" "Lcom/example/hydrangea/hydrangea/expansion/Subvector;" (.ref w_FEEDBACK)) ∧ (Exa Z h w_FEEDBACK "com/example/hydrangea/hydrangea/expansion/Subvector") ∧ (Fld Z h w_ORIGINAL "java/lang/Enum" "ordinal" "I" (.int (0 : Int32))) ∧ (Fld Z h w_FEEDBACK "java/lang/Enum" "ordinal" "I" (.int (11 : Int32))) ∧ (Sta Z h "com/example/hydrangea/hydrangea/expansion/Subvector" "CENTROID" "Lcom/example/hydrangea/hydrangea/expansion/Subvector;" (.ref w_CENTROID)) ∧ (Exa Z h w_CENTROID "com/example/hydrangea/hydrangea/expansion/Subvector") ∧ (Fld Z h w_CENTROID "java/lang/Enum" "ordinal" "I" (.int (12 : Int32))) ∧ (Sta Z h "com/example/hydrangea/hydrangea/expansion/Subvector" "HYPERNYM" "Lcom/example/hydrangea/hydrangea/expansion/Subvector;" (.ref w_HYPERNYM)) ∧ (Exa Z h w_HYPERNYM "com/example/hydrangea/hydrangea/expansion/Subvector") ∧ (Fld Z h w_HYPERNYM "java/lang/Enum" "ordinal" "I" (.int (3 : Int32))) ∧ (Sta Z h "com/example/hydrangea/hydrangea/expansion/Subvector" "SUBSTANCE_MERONYM" "Lcom/example/hydrangea/hydrangea/expansion/Subvector;" (.ref w_SUBSTANCE_MERONYM)) ∧ (Exa Z h w_SUBSTANCE_MERONYM "com/example/hydrangea/hydrangea/expansion/Subvector") ∧ (Fld Z h w_SUBSTANCE_MERONYM "java/lang/Enum" "ordinal" "I" (.int (6 : Int32))) ∧ (Sta Z h "com/example/hydrangea/hydrangea/expansion/Subvector" "MEMBER_MERONYM" "Lcom/example/hydrangea/hydrangea/expansion/Subvector;" (.ref w_MEMBER_MERONYM)) ∧ (Exa Z h w_MEMBER_MERONYM "com/example/hydrangea/hydrangea/expansion/Subvector") ∧ (Fld Z h w_MEMBER_MERONYM "java/lang/Enum" "ordinal" "I" (.int (5 : Int32))) ∧ (Sta Z h "com/example/hydrangea/hydrangea/expansion/Subvector" "PART_MERONYM" "Lcom/example/hydrangea/hydrangea/expansion/Subvector;" (.ref w_PART_MERONYM)) ∧ (Exa Z h w_PART_MERONYM "com/example/hydrangea/hydrangea/expansion/Subvector") ∧ (Fld Z h w_PART_MERONYM "java/lang/Enum" "ordinal" "I" (.int (7 : Int32))) ∧ (Sta Z h "com/example/hydrangea/hydrangea/expansion/Subvector" "SUBSTANCE_HOLONYM" "Lcom/example/hydrangea/hydrangea/expansion/Subvector;" (.ref w_SUBSTANCE_HOLONYM)) ∧ (Exa Z h w_SUBSTANCE_HOLONYM "com/example/hydrangea/hydrangea/expansion/Subvector") ∧ (Fld Z h w_SUBSTANCE_HOLONYM "java/lang/Enum" "ordinal" "I" (.int (9 : Int32))) ∧ (Sta Z h "com/example/hydrangea/hydrangea/expansion/Subvector" "ANTONYM" "Lcom/example/hydrangea/hydrangea/expansion/Subvector;" (.ref w_ANTONYM)) ∧ (Exa Z h w_ANTONYM "com/example/hydrangea/hydrangea/expansion/Subvector") ∧ (Fld Z h w_ANTONYM "java/lang/Enum" "ordinal" "I" (.int (2 : Int32))) ∧ (Sta Z h "com/example/hydrangea/hydrangea/expansion/Subvector" "SYNONYM" "Lcom/example/hydrangea/hydrangea/expansion/Subvector;" (.ref w_SYNONYM)) ∧ (Exa Z h w_SYNONYM "com/example/hydrangea/hydrangea/expansion/Subvector") ∧ (Fld Z h w_SYNONYM "java/lang/Enum" "ordinal" "I" (.int (1 : Int32))) ∧ (Sta Z h "com/example/hydrangea/hydrangea/expansion/Subvector" "MEMBER_HOLONYM" "Lcom/example/hydrangea/hydrangea/expansion/Subvector;" (.ref w_MEMBER_HOLONYM)) ∧ (Exa Z h w_MEMBER_HOLONYM "com/example/hydrangea/hydrangea/expansion/Subvector") ∧ (Fld Z h w_MEMBER_HOLONYM "java/lang/Enum" "ordinal" "I" (.int (8 : Int32))) ∧ (Sta Z h "com/example/hydrangea/hydrangea/expansion/Subvector" "PART_HOLONYM" "Lcom/example/hydrangea/hydrangea/expansion/Subvector;" (.ref w_PART_HOLONYM)) ∧ (Exa Z h w_PART_HOLONYM "com/example/hydrangea/hydrangea/expansion/Subvector") ∧ (Fld Z h w_PART_HOLONYM "java/lang/Enum" "ordinal" "I" (.int (10 : Int32))) ∧ (Sta Z h "com/example/hydrangea/hydrangea/expansion/Subvector" "HYPONYM" "Lcom/example/hydrangea/hydrangea/expansion/Subvector;" (.ref w_HYPONYM)) ∧ (Exa Z h w_HYPONYM "com/example/hydrangea/hydrangea/expansion/Subvector") ∧ (Fld Z h w_HYPONYM "java/lang/Enum" "ordinal" "I" (.int (4 : Int32)))


theorem d1_0 : decode method_2_code 0 = .ok (.iload_n 0, 1) := by decide +kernel
theorem d1_1 : decode method_2_code 1 = .ok (.ifCond .ne 7, 3) := by decide +kernel
theorem d1_4 : decode method_2_code 4 = .ok (.getstatic 7, 3) := by decide +kernel
theorem d1_7 : decode method_2_code 7 = .ok (.areturn, 1) := by decide +kernel
theorem d1_8 : decode method_2_code 8 = .ok (.iload_n 0, 1) := by decide +kernel
theorem d1_9 : decode method_2_code 9 = .ok (.iconst 1, 1) := by decide +kernel
theorem d1_10 : decode method_2_code 10 = .ok (.if_icmp .ne 7, 3) := by decide +kernel
theorem d1_13 : decode method_2_code 13 = .ok (.getstatic 13, 3) := by decide +kernel
theorem d1_16 : decode method_2_code 16 = .ok (.areturn, 1) := by decide +kernel
theorem d1_17 : decode method_2_code 17 = .ok (.iload_n 0, 1) := by decide +kernel
theorem d1_18 : decode method_2_code 18 = .ok (.iconst 2, 1) := by decide +kernel
theorem d1_19 : decode method_2_code 19 = .ok (.if_icmp .ne 7, 3) := by decide +kernel
theorem d1_22 : decode method_2_code 22 = .ok (.getstatic 16, 3) := by decide +kernel
theorem d1_25 : decode method_2_code 25 = .ok (.areturn, 1) := by decide +kernel
theorem d1_26 : decode method_2_code 26 = .ok (.iload_n 0, 1) := by decide +kernel
theorem d1_27 : decode method_2_code 27 = .ok (.iconst 3, 1) := by decide +kernel
theorem d1_28 : decode method_2_code 28 = .ok (.if_icmp .ne 7, 3) := by decide +kernel
theorem d1_31 : decode method_2_code 31 = .ok (.getstatic 19, 3) := by decide +kernel
theorem d1_34 : decode method_2_code 34 = .ok (.areturn, 1) := by decide +kernel
theorem d1_35 : decode method_2_code 35 = .ok (.iload_n 0, 1) := by decide +kernel
theorem d1_36 : decode method_2_code 36 = .ok (.iconst 4, 1) := by decide +kernel
theorem d1_37 : decode method_2_code 37 = .ok (.if_icmp .ne 7, 3) := by decide +kernel
theorem d1_40 : decode method_2_code 40 = .ok (.getstatic 22, 3) := by decide +kernel
theorem d1_43 : decode method_2_code 43 = .ok (.areturn, 1) := by decide +kernel
theorem d1_44 : decode method_2_code 44 = .ok (.iload_n 0, 1) := by decide +kernel
theorem d1_45 : decode method_2_code 45 = .ok (.iconst 5, 1) := by decide +kernel
theorem d1_46 : decode method_2_code 46 = .ok (.if_icmp .ne 7, 3) := by decide +kernel
theorem d1_49 : decode method_2_code 49 = .ok (.getstatic 25, 3) := by decide +kernel
theorem d1_52 : decode method_2_code 52 = .ok (.areturn, 1) := by decide +kernel
theorem d1_53 : decode method_2_code 53 = .ok (.iload_n 0, 1) := by decide +kernel
theorem d1_54 : decode method_2_code 54 = .ok (.bipush 6, 2) := by decide +kernel
theorem d1_56 : decode method_2_code 56 = .ok (.if_icmp .ne 7, 3) := by decide +kernel
theorem d1_59 : decode method_2_code 59 = .ok (.getstatic 28, 3) := by decide +kernel
theorem d1_62 : decode method_2_code 62 = .ok (.areturn, 1) := by decide +kernel
theorem d1_63 : decode method_2_code 63 = .ok (.iload_n 0, 1) := by decide +kernel
theorem d1_64 : decode method_2_code 64 = .ok (.bipush 7, 2) := by decide +kernel
theorem d1_66 : decode method_2_code 66 = .ok (.if_icmp .ne 7, 3) := by decide +kernel
theorem d1_69 : decode method_2_code 69 = .ok (.getstatic 31, 3) := by decide +kernel
theorem d1_72 : decode method_2_code 72 = .ok (.areturn, 1) := by decide +kernel
theorem d1_73 : decode method_2_code 73 = .ok (.iload_n 0, 1) := by decide +kernel
theorem d1_74 : decode method_2_code 74 = .ok (.bipush 8, 2) := by decide +kernel
theorem d1_76 : decode method_2_code 76 = .ok (.if_icmp .ne 7, 3) := by decide +kernel
theorem d1_79 : decode method_2_code 79 = .ok (.getstatic 34, 3) := by decide +kernel
theorem d1_82 : decode method_2_code 82 = .ok (.areturn, 1) := by decide +kernel
theorem d1_83 : decode method_2_code 83 = .ok (.iload_n 0, 1) := by decide +kernel
theorem d1_84 : decode method_2_code 84 = .ok (.bipush 9, 2) := by decide +kernel
theorem d1_86 : decode method_2_code 86 = .ok (.if_icmp .ne 7, 3) := by decide +kernel
theorem d1_89 : decode method_2_code 89 = .ok (.getstatic 37, 3) := by decide +kernel
theorem d1_92 : decode method_2_code 92 = .ok (.areturn, 1) := by decide +kernel
theorem d1_93 : decode method_2_code 93 = .ok (.iload_n 0, 1) := by decide +kernel
theorem d1_94 : decode method_2_code 94 = .ok (.bipush 10, 2) := by decide +kernel
theorem d1_96 : decode method_2_code 96 = .ok (.if_icmp .ne 7, 3) := by decide +kernel
theorem d1_99 : decode method_2_code 99 = .ok (.getstatic 40, 3) := by decide +kernel
theorem d1_102 : decode method_2_code 102 = .ok (.areturn, 1) := by decide +kernel
theorem d1_103 : decode method_2_code 103 = .ok (.iload_n 0, 1) := by decide +kernel
theorem d1_104 : decode method_2_code 104 = .ok (.bipush 11, 2) := by decide +kernel
theorem d1_106 : decode method_2_code 106 = .ok (.if_icmp .ne 7, 3) := by decide +kernel
theorem d1_109 : decode method_2_code 109 = .ok (.getstatic 43, 3) := by decide +kernel
theorem d1_112 : decode method_2_code 112 = .ok (.areturn, 1) := by decide +kernel
theorem d1_113 : decode method_2_code 113 = .ok (.getstatic 46, 3) := by decide +kernel
theorem d1_116 : decode method_2_code 116 = .ok (.areturn, 1) := by decide +kernel
theorem pn_1 : plainName "com/example/hydrangea/hydrangea/expansion/SubvectorIsWeighedByDocumentsPinLaw" = true := by first | (simp [plainName, overriddenIn]; done) | decide +kernel
theorem ef_1 (m : MethodId) (p0 : Int32) : entryFrame m #[(.int p0)] 1 = mkF m 0 #[.val (.int p0)] [] := by first | (simp [entryFrame, mkF, argsToLocals, Value.category]; done) | rfl
def v1 (p0 : Int32) (w_ORIGINAL : Addr) (w_FEEDBACK : Addr) (w_CENTROID : Addr) (w_HYPERNYM : Addr) (w_SUBSTANCE_MERONYM : Addr) (w_MEMBER_MERONYM : Addr) (w_PART_MERONYM : Addr) (w_SUBSTANCE_HOLONYM : Addr) (w_ANTONYM : Addr) (w_SYNONYM : Addr) (w_MEMBER_HOLONYM : Addr) (w_PART_HOLONYM : Addr) (w_HYPONYM : Addr)  : Addr := if p0 = (0 : Int32) then w_ORIGINAL else if p0 = (1 : Int32) then w_SYNONYM else if p0 = (2 : Int32) then w_ANTONYM else if p0 = (3 : Int32) then w_HYPERNYM else if p0 = (4 : Int32) then w_HYPONYM else if p0 = (5 : Int32) then w_MEMBER_MERONYM else if p0 = (6 : Int32) then w_SUBSTANCE_MERONYM else if p0 = (7 : Int32) then w_PART_MERONYM else if p0 = (8 : Int32) then w_MEMBER_HOLONYM else if p0 = (9 : Int32) then w_SUBSTANCE_HOLONYM else if p0 = (10 : Int32) then w_PART_HOLONYM else if p0 = (11 : Int32) then w_FEEDBACK else w_CENTROID
set_option maxRecDepth 65536 in
set_option maxHeartbeats 40000000 in
theorem rm1 (l : Launch) (Z : State) (ar0 : Array Value) (hw : ∀ d ∈ tables_1, d.before ar0 Z = true) (ws : List Jvm.Cond) (p0 : Int32) (w_ORIGINAL : Addr) (w_FEEDBACK : Addr) (w_CENTROID : Addr) (w_HYPERNYM : Addr) (w_SUBSTANCE_MERONYM : Addr) (w_MEMBER_MERONYM : Addr) (w_PART_MERONYM : Addr) (w_SUBSTANCE_HOLONYM : Addr) (w_ANTONYM : Addr) (w_SYNONYM : Addr) (w_MEMBER_HOLONYM : Addr) (w_PART_HOLONYM : Addr) (w_HYPONYM : Addr) (h0 : Heap) (n0 : Nat) (Z0 : n0 ≤ h0.size) (F : Fx Z h0 w_ORIGINAL w_FEEDBACK w_CENTROID w_HYPERNYM w_SUBSTANCE_MERONYM w_MEMBER_MERONYM w_PART_MERONYM w_SUBSTANCE_HOLONYM w_ANTONYM w_SYNONYM w_MEMBER_HOLONYM w_PART_HOLONYM w_HYPONYM)  (r : Addr) (hre : r = v1 p0 w_ORIGINAL w_FEEDBACK w_CENTROID w_HYPERNYM w_SUBSTANCE_MERONYM w_MEMBER_MERONYM w_PART_MERONYM w_SUBSTANCE_HOLONYM w_ANTONYM w_SYNONYM w_MEMBER_HOLONYM w_PART_HOLONYM w_HYPONYM) :
    MetFree l (⟨"com/example/hydrangea/hydrangea/expansion/SubvectorIsWeighedByDocumentsPinLaw", "pick", "(I)Lcom/example/hydrangea/hydrangea/expansion/Subvector;"⟩ : MethodName) (head1 ((Jvm.Cond.code (⟨"com/example/hydrangea/hydrangea/expansion/SubvectorIsWeighedByDocumentsPinLaw", "pick", "(I)Lcom/example/hydrangea/hydrangea/expansion/Subvector;"⟩ : MethodName) method_2_code 1 (some (.object "com/example/hydrangea/hydrangea/expansion/Subvector"))) :: ws) ({ frames := 0, cells := 0, slots := 0, locals := 0 } : Room)) (fun a U => a = #[(.int p0)] ∧ Z.Warmed39 U.vm ∧ U.heap = h0) (fun _ _ _ _ _ => True) (fun _ U o U' => ∃ v L, o = .returned v ∧ Qp (some (.ref r)) h0 n0 v U'.heap L ∧ FrameEnd U o U' L ({ frames := 0, cells := 0, slots := 0, locals := 0 } : Room).cells ({ frames := 0, cells := 0, slots := 0, locals := 0 } : Room).slots) := by
  obtain ⟨S_ORIGINAL, E_ORIGINAL, S_FEEDBACK, E_FEEDBACK, F_ordinal_ORIGINAL, F_ordinal_FEEDBACK, S_CENTROID, E_CENTROID, F_ordinal_CENTROID, S_HYPERNYM, E_HYPERNYM, F_ordinal_HYPERNYM, S_SUBSTANCE_MERONYM, E_SUBSTANCE_MERONYM, F_ordinal_SUBSTANCE_MERONYM, S_MEMBER_MERONYM, E_MEMBER_MERONYM, F_ordinal_MEMBER_MERONYM, S_PART_MERONYM, E_PART_MERONYM, F_ordinal_PART_MERONYM, S_SUBSTANCE_HOLONYM, E_SUBSTANCE_HOLONYM, F_ordinal_SUBSTANCE_HOLONYM, S_ANTONYM, E_ANTONYM, F_ordinal_ANTONYM, S_SYNONYM, E_SYNONYM, F_ordinal_SYNONYM, S_MEMBER_HOLONYM, E_MEMBER_HOLONYM, F_ordinal_MEMBER_HOLONYM, S_PART_HOLONYM, E_PART_HOLONYM, F_ordinal_PART_HOLONYM, S_HYPONYM, E_HYPONYM, F_ordinal_HYPONYM⟩ := id F
  refine MetFree.of_bodySF (plainFor_of_name pn_1) hisR ?_
  intro p e s m args below meth c s₁ Bd hml0 hP hK
  obtain ⟨rfl, hZ, hh⟩ := hP
  have hx := Bd.exec
  have hby := Bd.bytes
  have hml : c.maxLocals = 1 := hml0
  have hown : s.vm.findClass "com/example/hydrangea/hydrangea/expansion/SubvectorIsWeighedByDocumentsPinLaw" = some m.cls := findClass_of_methodNamed Bd.named
  have X0 : Stand p l e ({ frames := 0, cells := 0, slots := 0, locals := 0 } : Room) s m #[(.int p0)] below meth c s₁ [] 0 0 := Stand.of_body Bd
  have e0 : s₁.heap = h0 := by rw [← hh, Bd.state]; rfl
  have N0 := Fr.nil n0
  have pre0 : ∀ t, Steps p.tables e below (s₁.setTop (mkF m 0 #[.val (.int p0)] [])) t → Steps p.tables e below (s₁.setTop (entryFrame m #[(.int p0)] 1)) t := fun t k => castTop (ef_1 m p0) k
  have pre1 : ∀ t, Steps p.tables e below (s₁.setTop (mkF m 1 #[.val (.int p0)] [(.int p0)])) t → Steps p.tables e below (s₁.setTop (entryFrame m #[(.int p0)] 1)) t := by
    intro t k
    refine pre0 _ ?_
    show Steps p.tables e below (s₁.setTop (mkF m 0 #[.val (.int p0)] [])) _
    refine XS.iloadN X0.here hx rfl (hb hby d1_0) rfl ?_
    exact k
  by_cases hc2 : p0 = (0 : Int32)
  ·
    obtain ⟨T3, X3, e3, st3⟩ := getS2 X0 hx hZ hown (host := "") (Or.inl (hw _ (List.mem_of_getElem? (i := 5) rfl))) Via.refl e0 S_ORIGINAL (g := (mkF m 4 #[.val (.int p0)] [])) rfl (hb hby d1_4)
    have hv : (some (.ref r) : Option Value) = some (.ref w_ORIGINAL) := by rw [hre]; unfold v1; rw [if_pos hc2]
    rw [hv]
    obtain ⟨fs, hr, hrun, hended, hW, hsame⟩ := X3.leave (v := some (.ref w_ORIGINAL)) (fun h => by rw [Bd.returns] at h; cases h)
    refine ⟨_, _, pre1 _ ?_, hrun, hended, _, _, rfl, ?_, ⟨_, rfl⟩, hW, hsame.mono (by decide) (by decide)⟩
    · show Steps p.tables e below (s₁.setTop (mkF m 1 #[.val (.int p0)] [(.int p0)])) _
      refine XS.ifNo X0.here hx rfl (hb hby d1_1) rfl ((if0 _ _).trans (teq hc2).2) ?_
      show Steps p.tables e below (s₁.setTop (mkF m 4 #[.val (.int p0)] [])) _
      refine st3 _ ?_
      show Steps p.tables e below (T3.setTop (mkF m 7 #[.val (.int p0)] [(.ref w_ORIGINAL)])) _
      exact retOut X3 hx Bd.returns rfl (Or.inr (Or.inr (Or.inr (Or.inr ⟨rfl, rfl, rfl⟩)))) (hb hby d1_7) hr
    · show Qp (some (.ref w_ORIGINAL)) h0 n0 _ T3.heap _
      rw [e3]
      exact ⟨rfl, N0, rfl⟩
  ·
    have pre4 : ∀ t, Steps p.tables e below (s₁.setTop (mkF m 10 #[.val (.int p0)] [(.int (1 : Int32)), (.int p0)])) t → Steps p.tables e below (s₁.setTop (entryFrame m #[(.int p0)] 1)) t := by
      intro t k
      refine pre1 _ ?_
      show Steps p.tables e below (s₁.setTop (mkF m 1 #[.val (.int p0)] [(.int p0)])) _
      refine XS.ifYes X0.here hx rfl (pc0 := 1) (pc' := 8) rfl (hb hby d1_1) rfl ((if0 _ _).trans (feq hc2).2) (by decide) (by decide) ?_
      show Steps p.tables e below (s₁.setTop (mkF m 8 #[.val (.int p0)] [])) _
      refine XS.iloadN X0.here hx rfl (hb hby d1_8) rfl ?_
      show Steps p.tables e below (s₁.setTop (mkF m 9 #[.val (.int p0)] [(.int p0)])) _
      refine XS.iconst X0.here hx rfl (hb hby d1_9) ?_
      exact k
    by_cases hc5 : p0 = (1 : Int32)
    ·
      obtain ⟨T6, X6, e6, st6⟩ := getS2 X0 hx hZ hown (host := "") (Or.inl (hw _ (List.mem_of_getElem? (i := 30) rfl))) Via.refl e0 S_SYNONYM (g := (mkF m 13 #[.val (.int p0)] [])) rfl (hb hby d1_13)
      have hv : (some (.ref r) : Option Value) = some (.ref w_SYNONYM) := by rw [hre]; unfold v1; rw [if_neg hc2, if_pos hc5]
      rw [hv]
      obtain ⟨fs, hr, hrun, hended, hW, hsame⟩ := X6.leave (v := some (.ref w_SYNONYM)) (fun h => by rw [Bd.returns] at h; cases h)
      refine ⟨_, _, pre4 _ ?_, hrun, hended, _, _, rfl, ?_, ⟨_, rfl⟩, hW, hsame.mono (by decide) (by decide)⟩
      · show Steps p.tables e below (s₁.setTop (mkF m 10 #[.val (.int p0)] [(.int (1 : Int32)), (.int p0)])) _
        refine XS.icmpNo X0.here hx rfl (hb hby d1_10) rfl (teq hc5).2 ?_
        show Steps p.tables e below (s₁.setTop (mkF m 13 #[.val (.int p0)] [])) _
        refine st6 _ ?_
        show Steps p.tables e below (T6.setTop (mkF m 16 #[.val (.int p0)] [(.ref w_SYNONYM)])) _
        exact retOut X6 hx Bd.returns rfl (Or.inr (Or.inr (Or.inr (Or.inr ⟨rfl, rfl, rfl⟩)))) (hb hby d1_16) hr
      · show Qp (some (.ref w_SYNONYM)) h0 n0 _ T6.heap _
        rw [e6]
        exact ⟨rfl, N0, rfl⟩
    ·
      have pre7 : ∀ t, Steps p.tables e below (s₁.setTop (mkF m 19 #[.val (.int p0)] [(.int (2 : Int32)), (.int p0)])) t → Steps p.tables e below (s₁.setTop (entryFrame m #[(.int p0)] 1)) t := by
        intro t k
        refine pre4 _ ?_
        show Steps p.tables e below (s₁.setTop (mkF m 10 #[.val (.int p0)] [(.int (1 : Int32)), (.int p0)])) _
        refine XS.icmpYes X0.here hx rfl (pc0 := 10) (pc' := 17) rfl (hb hby d1_10) rfl (feq hc5).2 (by decide) (by decide) ?_
        show Steps p.tables e below (s₁.setTop (mkF m 17 #[.val (.int p0)] [])) _
        refine XS.iloadN X0.here hx rfl (hb hby d1_17) rfl ?_
        show Steps p.tables e below (s₁.setTop (mkF m 18 #[.val (.int p0)] [(.int p0)])) _
        refine XS.iconst X0.here hx rfl (hb hby d1_18) ?_
        exact k
      by_cases hc8 : p0 = (2 : Int32)
      ·
        obtain ⟨T9, X9, e9, st9⟩ := getS2 X0 hx hZ hown (host := "") (Or.inl (hw _ (List.mem_of_getElem? (i := 27) rfl))) Via.refl e0 S_ANTONYM (g := (mkF m 22 #[.val (.int p0)] [])) rfl (hb hby d1_22)
        have hv : (some (.ref r) : Option Value) = some (.ref w_ANTONYM) := by rw [hre]; unfold v1; rw [if_neg hc2, if_neg hc5, if_pos hc8]
        rw [hv]
        obtain ⟨fs, hr, hrun, hended, hW, hsame⟩ := X9.leave (v := some (.ref w_ANTONYM)) (fun h => by rw [Bd.returns] at h; cases h)
        refine ⟨_, _, pre7 _ ?_, hrun, hended, _, _, rfl, ?_, ⟨_, rfl⟩, hW, hsame.mono (by decide) (by decide)⟩
        · show Steps p.tables e below (s₁.setTop (mkF m 19 #[.val (.int p0)] [(.int (2 : Int32)), (.int p0)])) _
          refine XS.icmpNo X0.here hx rfl (hb hby d1_19) rfl (teq hc8).2 ?_
          show Steps p.tables e below (s₁.setTop (mkF m 22 #[.val (.int p0)] [])) _
          refine st9 _ ?_
          show Steps p.tables e below (T9.setTop (mkF m 25 #[.val (.int p0)] [(.ref w_ANTONYM)])) _
          exact retOut X9 hx Bd.returns rfl (Or.inr (Or.inr (Or.inr (Or.inr ⟨rfl, rfl, rfl⟩)))) (hb hby d1_25) hr
        · show Qp (some (.ref w_ANTONYM)) h0 n0 _ T9.heap _
          rw [e9]
          exact ⟨rfl, N0, rfl⟩
      ·
        have pre10 : ∀ t, Steps p.tables e below (s₁.setTop (mkF m 28 #[.val (.int p0)] [(.int (3 : Int32)), (.int p0)])) t → Steps p.tables e below (s₁.setTop (entryFrame m #[(.int p0)] 1)) t := by
          intro t k
          refine pre7 _ ?_
          show Steps p.tables e below (s₁.setTop (mkF m 19 #[.val (.int p0)] [(.int (2 : Int32)), (.int p0)])) _
          refine XS.icmpYes X0.here hx rfl (pc0 := 19) (pc' := 26) rfl (hb hby d1_19) rfl (feq hc8).2 (by decide) (by decide) ?_
          show Steps p.tables e below (s₁.setTop (mkF m 26 #[.val (.int p0)] [])) _
          refine XS.iloadN X0.here hx rfl (hb hby d1_26) rfl ?_
          show Steps p.tables e below (s₁.setTop (mkF m 27 #[.val (.int p0)] [(.int p0)])) _
          refine XS.iconst X0.here hx rfl (hb hby d1_27) ?_
          exact k
        by_cases hc11 : p0 = (3 : Int32)
        ·
          obtain ⟨T12, X12, e12, st12⟩ := getS2 X0 hx hZ hown (host := "") (Or.inl (hw _ (List.mem_of_getElem? (i := 17) rfl))) Via.refl e0 S_HYPERNYM (g := (mkF m 31 #[.val (.int p0)] [])) rfl (hb hby d1_31)
          have hv : (some (.ref r) : Option Value) = some (.ref w_HYPERNYM) := by rw [hre]; unfold v1; rw [if_neg hc2, if_neg hc5, if_neg hc8, if_pos hc11]
          rw [hv]
          obtain ⟨fs, hr, hrun, hended, hW, hsame⟩ := X12.leave (v := some (.ref w_HYPERNYM)) (fun h => by rw [Bd.returns] at h; cases h)
          refine ⟨_, _, pre10 _ ?_, hrun, hended, _, _, rfl, ?_, ⟨_, rfl⟩, hW, hsame.mono (by decide) (by decide)⟩
          · show Steps p.tables e below (s₁.setTop (mkF m 28 #[.val (.int p0)] [(.int (3 : Int32)), (.int p0)])) _
            refine XS.icmpNo X0.here hx rfl (hb hby d1_28) rfl (teq hc11).2 ?_
            show Steps p.tables e below (s₁.setTop (mkF m 31 #[.val (.int p0)] [])) _
            refine st12 _ ?_
            show Steps p.tables e below (T12.setTop (mkF m 34 #[.val (.int p0)] [(.ref w_HYPERNYM)])) _
            exact retOut X12 hx Bd.returns rfl (Or.inr (Or.inr (Or.inr (Or.inr ⟨rfl, rfl, rfl⟩)))) (hb hby d1_34) hr
          · show Qp (some (.ref w_HYPERNYM)) h0 n0 _ T12.heap _
            rw [e12]
            exact ⟨rfl, N0, rfl⟩
        ·
          have pre13 : ∀ t, Steps p.tables e below (s₁.setTop (mkF m 37 #[.val (.int p0)] [(.int (4 : Int32)), (.int p0)])) t → Steps p.tables e below (s₁.setTop (entryFrame m #[(.int p0)] 1)) t := by
            intro t k
            refine pre10 _ ?_
            show Steps p.tables e below (s₁.setTop (mkF m 28 #[.val (.int p0)] [(.int (3 : Int32)), (.int p0)])) _
            refine XS.icmpYes X0.here hx rfl (pc0 := 28) (pc' := 35) rfl (hb hby d1_28) rfl (feq hc11).2 (by decide) (by decide) ?_
            show Steps p.tables e below (s₁.setTop (mkF m 35 #[.val (.int p0)] [])) _
            refine XS.iloadN X0.here hx rfl (hb hby d1_35) rfl ?_
            show Steps p.tables e below (s₁.setTop (mkF m 36 #[.val (.int p0)] [(.int p0)])) _
            refine XS.iconst X0.here hx rfl (hb hby d1_36) ?_
            exact k
          by_cases hc14 : p0 = (4 : Int32)
          ·
            obtain ⟨T15, X15, e15, st15⟩ := getS2 X0 hx hZ hown (host := "") (Or.inl (hw _ (List.mem_of_getElem? (i := 37) rfl))) Via.refl e0 S_HYPONYM (g := (mkF m 40 #[.val (.int p0)] [])) rfl (hb hby d1_40)
            have hv : (some (.ref r) : Option Value) = some (.ref w_HYPONYM) := by rw [hre]; unfold v1; rw [if_neg hc2, if_neg hc5, if_neg hc8, if_neg hc11, if_pos hc14]
            rw [hv]
            obtain ⟨fs, hr, hrun, hended, hW, hsame⟩ := X15.leave (v := some (.ref w_HYPONYM)) (fun h => by rw [Bd.returns] at h; cases h)
            refine ⟨_, _, pre13 _ ?_, hrun, hended, _, _, rfl, ?_, ⟨_, rfl⟩, hW, hsame.mono (by decide) (by decide)⟩
            · show Steps p.tables e below (s₁.setTop (mkF m 37 #[.val (.int p0)] [(.int (4 : Int32)), (.int p0)])) _
              refine XS.icmpNo X0.here hx rfl (hb hby d1_37) rfl (teq hc14).2 ?_
              show Steps p.tables e below (s₁.setTop (mkF m 40 #[.val (.int p0)] [])) _
              refine st15 _ ?_
              show Steps p.tables e below (T15.setTop (mkF m 43 #[.val (.int p0)] [(.ref w_HYPONYM)])) _
              exact retOut X15 hx Bd.returns rfl (Or.inr (Or.inr (Or.inr (Or.inr ⟨rfl, rfl, rfl⟩)))) (hb hby d1_43) hr
            · show Qp (some (.ref w_HYPONYM)) h0 n0 _ T15.heap _
              rw [e15]
              exact ⟨rfl, N0, rfl⟩
          ·
            have pre16 : ∀ t, Steps p.tables e below (s₁.setTop (mkF m 46 #[.val (.int p0)] [(.int (5 : Int32)), (.int p0)])) t → Steps p.tables e below (s₁.setTop (entryFrame m #[(.int p0)] 1)) t := by
              intro t k
              refine pre13 _ ?_
              show Steps p.tables e below (s₁.setTop (mkF m 37 #[.val (.int p0)] [(.int (4 : Int32)), (.int p0)])) _
              refine XS.icmpYes X0.here hx rfl (pc0 := 37) (pc' := 44) rfl (hb hby d1_37) rfl (feq hc14).2 (by decide) (by decide) ?_
              show Steps p.tables e below (s₁.setTop (mkF m 44 #[.val (.int p0)] [])) _
              refine XS.iloadN X0.here hx rfl (hb hby d1_44) rfl ?_
              show Steps p.tables e below (s₁.setTop (mkF m 45 #[.val (.int p0)] [(.int p0)])) _
              refine XS.iconst X0.here hx rfl (hb hby d1_45) ?_
              exact k
            by_cases hc17 : p0 = (5 : Int32)
            ·
              obtain ⟨T18, X18, e18, st18⟩ := getS2 X0 hx hZ hown (host := "") (Or.inl (hw _ (List.mem_of_getElem? (i := 21) rfl))) Via.refl e0 S_MEMBER_MERONYM (g := (mkF m 49 #[.val (.int p0)] [])) rfl (hb hby d1_49)
              have hv : (some (.ref r) : Option Value) = some (.ref w_MEMBER_MERONYM) := by rw [hre]; unfold v1; rw [if_neg hc2, if_neg hc5, if_neg hc8, if_neg hc11, if_neg hc14, if_pos hc17]
              rw [hv]
              obtain ⟨fs, hr, hrun, hended, hW, hsame⟩ := X18.leave (v := some (.ref w_MEMBER_MERONYM)) (fun h => by rw [Bd.returns] at h; cases h)
              refine ⟨_, _, pre16 _ ?_, hrun, hended, _, _, rfl, ?_, ⟨_, rfl⟩, hW, hsame.mono (by decide) (by decide)⟩
              · show Steps p.tables e below (s₁.setTop (mkF m 46 #[.val (.int p0)] [(.int (5 : Int32)), (.int p0)])) _
                refine XS.icmpNo X0.here hx rfl (hb hby d1_46) rfl (teq hc17).2 ?_
                show Steps p.tables e below (s₁.setTop (mkF m 49 #[.val (.int p0)] [])) _
                refine st18 _ ?_
                show Steps p.tables e below (T18.setTop (mkF m 52 #[.val (.int p0)] [(.ref w_MEMBER_MERONYM)])) _
                exact retOut X18 hx Bd.returns rfl (Or.inr (Or.inr (Or.inr (Or.inr ⟨rfl, rfl, rfl⟩)))) (hb hby d1_52) hr
              · show Qp (some (.ref w_MEMBER_MERONYM)) h0 n0 _ T18.heap _
                rw [e18]
                exact ⟨rfl, N0, rfl⟩
            ·
              have pre19 : ∀ t, Steps p.tables e below (s₁.setTop (mkF m 56 #[.val (.int p0)] [(.int (6 : Int32)), (.int p0)])) t → Steps p.tables e below (s₁.setTop (entryFrame m #[(.int p0)] 1)) t := by
                intro t k
                refine pre16 _ ?_
                show Steps p.tables e below (s₁.setTop (mkF m 46 #[.val (.int p0)] [(.int (5 : Int32)), (.int p0)])) _
                refine XS.icmpYes X0.here hx rfl (pc0 := 46) (pc' := 53) rfl (hb hby d1_46) rfl (feq hc17).2 (by decide) (by decide) ?_
                show Steps p.tables e below (s₁.setTop (mkF m 53 #[.val (.int p0)] [])) _
                refine XS.iloadN X0.here hx rfl (hb hby d1_53) rfl ?_
                show Steps p.tables e below (s₁.setTop (mkF m 54 #[.val (.int p0)] [(.int p0)])) _
                refine XS.bipush X0.here hx rfl (hb hby d1_54) ?_
                exact k
              by_cases hc20 : p0 = (6 : Int32)
              ·
                obtain ⟨T21, X21, e21, st21⟩ := getS2 X0 hx hZ hown (host := "") (Or.inl (hw _ (List.mem_of_getElem? (i := 19) rfl))) Via.refl e0 S_SUBSTANCE_MERONYM (g := (mkF m 59 #[.val (.int p0)] [])) rfl (hb hby d1_59)
                have hv : (some (.ref r) : Option Value) = some (.ref w_SUBSTANCE_MERONYM) := by rw [hre]; unfold v1; rw [if_neg hc2, if_neg hc5, if_neg hc8, if_neg hc11, if_neg hc14, if_neg hc17, if_pos hc20]
                rw [hv]
                obtain ⟨fs, hr, hrun, hended, hW, hsame⟩ := X21.leave (v := some (.ref w_SUBSTANCE_MERONYM)) (fun h => by rw [Bd.returns] at h; cases h)
                refine ⟨_, _, pre19 _ ?_, hrun, hended, _, _, rfl, ?_, ⟨_, rfl⟩, hW, hsame.mono (by decide) (by decide)⟩
                · show Steps p.tables e below (s₁.setTop (mkF m 56 #[.val (.int p0)] [(.int (6 : Int32)), (.int p0)])) _
                  refine XS.icmpNo X0.here hx rfl (hb hby d1_56) rfl (teq hc20).2 ?_
                  show Steps p.tables e below (s₁.setTop (mkF m 59 #[.val (.int p0)] [])) _
                  refine st21 _ ?_
                  show Steps p.tables e below (T21.setTop (mkF m 62 #[.val (.int p0)] [(.ref w_SUBSTANCE_MERONYM)])) _
                  exact retOut X21 hx Bd.returns rfl (Or.inr (Or.inr (Or.inr (Or.inr ⟨rfl, rfl, rfl⟩)))) (hb hby d1_62) hr
                · show Qp (some (.ref w_SUBSTANCE_MERONYM)) h0 n0 _ T21.heap _
                  rw [e21]
                  exact ⟨rfl, N0, rfl⟩
              ·
                have pre22 : ∀ t, Steps p.tables e below (s₁.setTop (mkF m 66 #[.val (.int p0)] [(.int (7 : Int32)), (.int p0)])) t → Steps p.tables e below (s₁.setTop (entryFrame m #[(.int p0)] 1)) t := by
                  intro t k
                  refine pre19 _ ?_
                  show Steps p.tables e below (s₁.setTop (mkF m 56 #[.val (.int p0)] [(.int (6 : Int32)), (.int p0)])) _
                  refine XS.icmpYes X0.here hx rfl (pc0 := 56) (pc' := 63) rfl (hb hby d1_56) rfl (feq hc20).2 (by decide) (by decide) ?_
                  show Steps p.tables e below (s₁.setTop (mkF m 63 #[.val (.int p0)] [])) _
                  refine XS.iloadN X0.here hx rfl (hb hby d1_63) rfl ?_
                  show Steps p.tables e below (s₁.setTop (mkF m 64 #[.val (.int p0)] [(.int p0)])) _
                  refine XS.bipush X0.here hx rfl (hb hby d1_64) ?_
                  exact k
                by_cases hc23 : p0 = (7 : Int32)
                ·
                  obtain ⟨T24, X24, e24, st24⟩ := getS2 X0 hx hZ hown (host := "") (Or.inl (hw _ (List.mem_of_getElem? (i := 23) rfl))) Via.refl e0 S_PART_MERONYM (g := (mkF m 69 #[.val (.int p0)] [])) rfl (hb hby d1_69)
                  have hv : (some (.ref r) : Option Value) = some (.ref w_PART_MERONYM) := by rw [hre]; unfold v1; rw [if_neg hc2, if_neg hc5, if_neg hc8, if_neg hc11, if_neg hc14, if_neg hc17, if_neg hc20, if_pos hc23]
                  rw [hv]
                  obtain ⟨fs, hr, hrun, hended, hW, hsame⟩ := X24.leave (v := some (.ref w_PART_MERONYM)) (fun h => by rw [Bd.returns] at h; cases h)
                  refine ⟨_, _, pre22 _ ?_, hrun, hended, _, _, rfl, ?_, ⟨_, rfl⟩, hW, hsame.mono (by decide) (by decide)⟩
                  · show Steps p.tables e below (s₁.setTop (mkF m 66 #[.val (.int p0)] [(.int (7 : Int32)), (.int p0)])) _
                    refine XS.icmpNo X0.here hx rfl (hb hby d1_66) rfl (teq hc23).2 ?_
                    show Steps p.tables e below (s₁.setTop (mkF m 69 #[.val (.int p0)] [])) _
                    refine st24 _ ?_
                    show Steps p.tables e below (T24.setTop (mkF m 72 #[.val (.int p0)] [(.ref w_PART_MERONYM)])) _
                    exact retOut X24 hx Bd.returns rfl (Or.inr (Or.inr (Or.inr (Or.inr ⟨rfl, rfl, rfl⟩)))) (hb hby d1_72) hr
                  · show Qp (some (.ref w_PART_MERONYM)) h0 n0 _ T24.heap _
                    rw [e24]
                    exact ⟨rfl, N0, rfl⟩
                ·
                  have pre25 : ∀ t, Steps p.tables e below (s₁.setTop (mkF m 76 #[.val (.int p0)] [(.int (8 : Int32)), (.int p0)])) t → Steps p.tables e below (s₁.setTop (entryFrame m #[(.int p0)] 1)) t := by
                    intro t k
                    refine pre22 _ ?_
                    show Steps p.tables e below (s₁.setTop (mkF m 66 #[.val (.int p0)] [(.int (7 : Int32)), (.int p0)])) _
                    refine XS.icmpYes X0.here hx rfl (pc0 := 66) (pc' := 73) rfl (hb hby d1_66) rfl (feq hc23).2 (by decide) (by decide) ?_
                    show Steps p.tables e below (s₁.setTop (mkF m 73 #[.val (.int p0)] [])) _
                    refine XS.iloadN X0.here hx rfl (hb hby d1_73) rfl ?_
                    show Steps p.tables e below (s₁.setTop (mkF m 74 #[.val (.int p0)] [(.int p0)])) _
                    refine XS.bipush X0.here hx rfl (hb hby d1_74) ?_
                    exact k
                  by_cases hc26 : p0 = (8 : Int32)
                  ·
                    obtain ⟨T27, X27, e27, st27⟩ := getS2 X0 hx hZ hown (host := "") (Or.inl (hw _ (List.mem_of_getElem? (i := 32) rfl))) Via.refl e0 S_MEMBER_HOLONYM (g := (mkF m 79 #[.val (.int p0)] [])) rfl (hb hby d1_79)
                    have hv : (some (.ref r) : Option Value) = some (.ref w_MEMBER_HOLONYM) := by rw [hre]; unfold v1; rw [if_neg hc2, if_neg hc5, if_neg hc8, if_neg hc11, if_neg hc14, if_neg hc17, if_neg hc20, if_neg hc23, if_pos hc26]
                    rw [hv]
                    obtain ⟨fs, hr, hrun, hended, hW, hsame⟩ := X27.leave (v := some (.ref w_MEMBER_HOLONYM)) (fun h => by rw [Bd.returns] at h; cases h)
                    refine ⟨_, _, pre25 _ ?_, hrun, hended, _, _, rfl, ?_, ⟨_, rfl⟩, hW, hsame.mono (by decide) (by decide)⟩
                    · show Steps p.tables e below (s₁.setTop (mkF m 76 #[.val (.int p0)] [(.int (8 : Int32)), (.int p0)])) _
                      refine XS.icmpNo X0.here hx rfl (hb hby d1_76) rfl (teq hc26).2 ?_
                      show Steps p.tables e below (s₁.setTop (mkF m 79 #[.val (.int p0)] [])) _
                      refine st27 _ ?_
                      show Steps p.tables e below (T27.setTop (mkF m 82 #[.val (.int p0)] [(.ref w_MEMBER_HOLONYM)])) _
                      exact retOut X27 hx Bd.returns rfl (Or.inr (Or.inr (Or.inr (Or.inr ⟨rfl, rfl, rfl⟩)))) (hb hby d1_82) hr
                    · show Qp (some (.ref w_MEMBER_HOLONYM)) h0 n0 _ T27.heap _
                      rw [e27]
                      exact ⟨rfl, N0, rfl⟩
                  ·
                    have pre28 : ∀ t, Steps p.tables e below (s₁.setTop (mkF m 86 #[.val (.int p0)] [(.int (9 : Int32)), (.int p0)])) t → Steps p.tables e below (s₁.setTop (entryFrame m #[(.int p0)] 1)) t := by
                      intro t k
                      refine pre25 _ ?_
                      show Steps p.tables e below (s₁.setTop (mkF m 76 #[.val (.int p0)] [(.int (8 : Int32)), (.int p0)])) _
                      refine XS.icmpYes X0.here hx rfl (pc0 := 76) (pc' := 83) rfl (hb hby d1_76) rfl (feq hc26).2 (by decide) (by decide) ?_
                      show Steps p.tables e below (s₁.setTop (mkF m 83 #[.val (.int p0)] [])) _
                      refine XS.iloadN X0.here hx rfl (hb hby d1_83) rfl ?_
                      show Steps p.tables e below (s₁.setTop (mkF m 84 #[.val (.int p0)] [(.int p0)])) _
                      refine XS.bipush X0.here hx rfl (hb hby d1_84) ?_
                      exact k
                    by_cases hc29 : p0 = (9 : Int32)
                    ·
                      obtain ⟨T30, X30, e30, st30⟩ := getS2 X0 hx hZ hown (host := "") (Or.inl (hw _ (List.mem_of_getElem? (i := 25) rfl))) Via.refl e0 S_SUBSTANCE_HOLONYM (g := (mkF m 89 #[.val (.int p0)] [])) rfl (hb hby d1_89)
                      have hv : (some (.ref r) : Option Value) = some (.ref w_SUBSTANCE_HOLONYM) := by rw [hre]; unfold v1; rw [if_neg hc2, if_neg hc5, if_neg hc8, if_neg hc11, if_neg hc14, if_neg hc17, if_neg hc20, if_neg hc23, if_neg hc26, if_pos hc29]
                      rw [hv]
                      obtain ⟨fs, hr, hrun, hended, hW, hsame⟩ := X30.leave (v := some (.ref w_SUBSTANCE_HOLONYM)) (fun h => by rw [Bd.returns] at h; cases h)
                      refine ⟨_, _, pre28 _ ?_, hrun, hended, _, _, rfl, ?_, ⟨_, rfl⟩, hW, hsame.mono (by decide) (by decide)⟩
                      · show Steps p.tables e below (s₁.setTop (mkF m 86 #[.val (.int p0)] [(.int (9 : Int32)), (.int p0)])) _
                        refine XS.icmpNo X0.here hx rfl (hb hby d1_86) rfl (teq hc29).2 ?_
                        show Steps p.tables e below (s₁.setTop (mkF m 89 #[.val (.int p0)] [])) _
                        refine st30 _ ?_
                        show Steps p.tables e below (T30.setTop (mkF m 92 #[.val (.int p0)] [(.ref w_SUBSTANCE_HOLONYM)])) _
                        exact retOut X30 hx Bd.returns rfl (Or.inr (Or.inr (Or.inr (Or.inr ⟨rfl, rfl, rfl⟩)))) (hb hby d1_92) hr
                      · show Qp (some (.ref w_SUBSTANCE_HOLONYM)) h0 n0 _ T30.heap _
                        rw [e30]
                        exact ⟨rfl, N0, rfl⟩
                    ·
                      have pre31 : ∀ t, Steps p.tables e below (s₁.setTop (mkF m 96 #[.val (.int p0)] [(.int (10 : Int32)), (.int p0)])) t → Steps p.tables e below (s₁.setTop (entryFrame m #[(.int p0)] 1)) t := by
                        intro t k
                        refine pre28 _ ?_
                        show Steps p.tables e below (s₁.setTop (mkF m 86 #[.val (.int p0)] [(.int (9 : Int32)), (.int p0)])) _
                        refine XS.icmpYes X0.here hx rfl (pc0 := 86) (pc' := 93) rfl (hb hby d1_86) rfl (feq hc29).2 (by decide) (by decide) ?_
                        show Steps p.tables e below (s₁.setTop (mkF m 93 #[.val (.int p0)] [])) _
                        refine XS.iloadN X0.here hx rfl (hb hby d1_93) rfl ?_
                        show Steps p.tables e below (s₁.setTop (mkF m 94 #[.val (.int p0)] [(.int p0)])) _
                        refine XS.bipush X0.here hx rfl (hb hby d1_94) ?_
                        exact k
                      by_cases hc32 : p0 = (10 : Int32)
                      ·
                        obtain ⟨T33, X33, e33, st33⟩ := getS2 X0 hx hZ hown (host := "") (Or.inl (hw _ (List.mem_of_getElem? (i := 34) rfl))) Via.refl e0 S_PART_HOLONYM (g := (mkF m 99 #[.val (.int p0)] [])) rfl (hb hby d1_99)
                        have hv : (some (.ref r) : Option Value) = some (.ref w_PART_HOLONYM) := by rw [hre]; unfold v1; rw [if_neg hc2, if_neg hc5, if_neg hc8, if_neg hc11, if_neg hc14, if_neg hc17, if_neg hc20, if_neg hc23, if_neg hc26, if_neg hc29, if_pos hc32]
                        rw [hv]
                        obtain ⟨fs, hr, hrun, hended, hW, hsame⟩ := X33.leave (v := some (.ref w_PART_HOLONYM)) (fun h => by rw [Bd.returns] at h; cases h)
                        refine ⟨_, _, pre31 _ ?_, hrun, hended, _, _, rfl, ?_, ⟨_, rfl⟩, hW, hsame.mono (by decide) (by decide)⟩
                        · show Steps p.tables e below (s₁.setTop (mkF m 96 #[.val (.int p0)] [(.int (10 : Int32)), (.int p0)])) _
                          refine XS.icmpNo X0.here hx rfl (hb hby d1_96) rfl (teq hc32).2 ?_
                          show Steps p.tables e below (s₁.setTop (mkF m 99 #[.val (.int p0)] [])) _
                          refine st33 _ ?_
                          show Steps p.tables e below (T33.setTop (mkF m 102 #[.val (.int p0)] [(.ref w_PART_HOLONYM)])) _
                          exact retOut X33 hx Bd.returns rfl (Or.inr (Or.inr (Or.inr (Or.inr ⟨rfl, rfl, rfl⟩)))) (hb hby d1_102) hr
                        · show Qp (some (.ref w_PART_HOLONYM)) h0 n0 _ T33.heap _
                          rw [e33]
                          exact ⟨rfl, N0, rfl⟩
                      ·
                        have pre34 : ∀ t, Steps p.tables e below (s₁.setTop (mkF m 106 #[.val (.int p0)] [(.int (11 : Int32)), (.int p0)])) t → Steps p.tables e below (s₁.setTop (entryFrame m #[(.int p0)] 1)) t := by
                          intro t k
                          refine pre31 _ ?_
                          show Steps p.tables e below (s₁.setTop (mkF m 96 #[.val (.int p0)] [(.int (10 : Int32)), (.int p0)])) _
                          refine XS.icmpYes X0.here hx rfl (pc0 := 96) (pc' := 103) rfl (hb hby d1_96) rfl (feq hc32).2 (by decide) (by decide) ?_
                          show Steps p.tables e below (s₁.setTop (mkF m 103 #[.val (.int p0)] [])) _
                          refine XS.iloadN X0.here hx rfl (hb hby d1_103) rfl ?_
                          show Steps p.tables e below (s₁.setTop (mkF m 104 #[.val (.int p0)] [(.int p0)])) _
                          refine XS.bipush X0.here hx rfl (hb hby d1_104) ?_
                          exact k
                        by_cases hc35 : p0 = (11 : Int32)
                        ·
                          obtain ⟨T36, X36, e36, st36⟩ := getS2 X0 hx hZ hown (host := "") (Or.inl (hw _ (List.mem_of_getElem? (i := 29) rfl))) Via.refl e0 S_FEEDBACK (g := (mkF m 109 #[.val (.int p0)] [])) rfl (hb hby d1_109)
                          have hv : (some (.ref r) : Option Value) = some (.ref w_FEEDBACK) := by rw [hre]; unfold v1; rw [if_neg hc2, if_neg hc5, if_neg hc8, if_neg hc11, if_neg hc14, if_neg hc17, if_neg hc20, if_neg hc23, if_neg hc26, if_neg hc29, if_neg hc32, if_pos hc35]
                          rw [hv]
                          obtain ⟨fs, hr, hrun, hended, hW, hsame⟩ := X36.leave (v := some (.ref w_FEEDBACK)) (fun h => by rw [Bd.returns] at h; cases h)
                          refine ⟨_, _, pre34 _ ?_, hrun, hended, _, _, rfl, ?_, ⟨_, rfl⟩, hW, hsame.mono (by decide) (by decide)⟩
                          · show Steps p.tables e below (s₁.setTop (mkF m 106 #[.val (.int p0)] [(.int (11 : Int32)), (.int p0)])) _
                            refine XS.icmpNo X0.here hx rfl (hb hby d1_106) rfl (teq hc35).2 ?_
                            show Steps p.tables e below (s₁.setTop (mkF m 109 #[.val (.int p0)] [])) _
                            refine st36 _ ?_
                            show Steps p.tables e below (T36.setTop (mkF m 112 #[.val (.int p0)] [(.ref w_FEEDBACK)])) _
                            exact retOut X36 hx Bd.returns rfl (Or.inr (Or.inr (Or.inr (Or.inr ⟨rfl, rfl, rfl⟩)))) (hb hby d1_112) hr
                          · show Qp (some (.ref w_FEEDBACK)) h0 n0 _ T36.heap _
                            rw [e36]
                            exact ⟨rfl, N0, rfl⟩
                        ·
                          obtain ⟨T37, X37, e37, st37⟩ := getS2 X0 hx hZ hown (host := "") (Or.inl (hw _ (List.mem_of_getElem? (i := 36) rfl))) Via.refl e0 S_CENTROID (g := (mkF m 113 #[.val (.int p0)] [])) rfl (hb hby d1_113)
                          have hv : (some (.ref r) : Option Value) = some (.ref w_CENTROID) := by rw [hre]; unfold v1; rw [if_neg hc2, if_neg hc5, if_neg hc8, if_neg hc11, if_neg hc14, if_neg hc17, if_neg hc20, if_neg hc23, if_neg hc26, if_neg hc29, if_neg hc32, if_neg hc35]
                          rw [hv]
                          obtain ⟨fs, hr, hrun, hended, hW, hsame⟩ := X37.leave (v := some (.ref w_CENTROID)) (fun h => by rw [Bd.returns] at h; cases h)
                          refine ⟨_, _, pre34 _ ?_, hrun, hended, _, _, rfl, ?_, ⟨_, rfl⟩, hW, hsame.mono (by decide) (by decide)⟩
                          · show Steps p.tables e below (s₁.setTop (mkF m 106 #[.val (.int p0)] [(.int (11 : Int32)), (.int p0)])) _
                            refine XS.icmpYes X0.here hx rfl (pc0 := 106) (pc' := 113) rfl (hb hby d1_106) rfl (feq hc35).2 (by decide) (by decide) ?_
                            show Steps p.tables e below (s₁.setTop (mkF m 113 #[.val (.int p0)] [])) _
                            refine st37 _ ?_
                            show Steps p.tables e below (T37.setTop (mkF m 116 #[.val (.int p0)] [(.ref w_CENTROID)])) _
                            exact retOut X37 hx Bd.returns rfl (Or.inr (Or.inr (Or.inr (Or.inr ⟨rfl, rfl, rfl⟩)))) (hb hby d1_116) hr
                          · show Qp (some (.ref w_CENTROID)) h0 n0 _ T37.heap _
                            rw [e37]
                            exact ⟨rfl, N0, rfl⟩

theorem d2_0 : decode prog_20_method_7_code 0 = .ok (.aload_n 0, 1) := by decide +kernel
theorem d2_1 : decode prog_20_method_7_code 1 = .ok (.getstatic 37, 3) := by decide +kernel
theorem d2_4 : decode prog_20_method_7_code 4 = .ok (.if_acmp .eq 10, 3) := by decide +kernel
theorem d2_7 : decode prog_20_method_7_code 7 = .ok (.aload_n 0, 1) := by decide +kernel
theorem d2_8 : decode prog_20_method_7_code 8 = .ok (.getstatic 40, 3) := by decide +kernel
theorem d2_11 : decode prog_20_method_7_code 11 = .ok (.if_acmp .ne 7, 3) := by decide +kernel
theorem d2_14 : decode prog_20_method_7_code 14 = .ok (.iconst 1, 1) := by decide +kernel
theorem d2_15 : decode prog_20_method_7_code 15 = .ok (.goto 4, 3) := by decide +kernel
theorem d2_18 : decode prog_20_method_7_code 18 = .ok (.iconst 0, 1) := by decide +kernel
theorem d2_19 : decode prog_20_method_7_code 19 = .ok (.ireturn, 1) := by decide +kernel
theorem pn_2 : plainName "com/example/hydrangea/hydrangea/expansion/Subvector" = true := by first | (simp [plainName, overriddenIn]; done) | decide +kernel
theorem ef_2 (m : MethodId) (a0 : Addr) : entryFrame m #[(.ref a0)] 1 = mkF m 0 #[.val (.ref a0)] [] := by first | (simp [entryFrame, mkF, argsToLocals, Value.category]; done) | rfl
def v2 (a0 : Addr) (w_ORIGINAL : Addr) (w_FEEDBACK : Addr) (w_CENTROID : Addr) (w_HYPERNYM : Addr) (w_SUBSTANCE_MERONYM : Addr) (w_MEMBER_MERONYM : Addr) (w_PART_MERONYM : Addr) (w_SUBSTANCE_HOLONYM : Addr) (w_ANTONYM : Addr) (w_SYNONYM : Addr) (w_MEMBER_HOLONYM : Addr) (w_PART_HOLONYM : Addr) (w_HYPONYM : Addr)  : Int32 := if a0 = w_FEEDBACK then (1 : Int32) else if a0 = w_CENTROID then (1 : Int32) else (0 : Int32)
set_option maxRecDepth 65536 in
set_option maxHeartbeats 40000000 in
theorem rm2 (l : Launch) (Z : State) (ar0 : Array Value) (hw : ∀ d ∈ tables_1, d.before ar0 Z = true) (ws : List Jvm.Cond) (a0 : Addr) (w_ORIGINAL : Addr) (w_FEEDBACK : Addr) (w_CENTROID : Addr) (w_HYPERNYM : Addr) (w_SUBSTANCE_MERONYM : Addr) (w_MEMBER_MERONYM : Addr) (w_PART_MERONYM : Addr) (w_SUBSTANCE_HOLONYM : Addr) (w_ANTONYM : Addr) (w_SYNONYM : Addr) (w_MEMBER_HOLONYM : Addr) (w_PART_HOLONYM : Addr) (w_HYPONYM : Addr) (h0 : Heap) (n0 : Nat) (Z0 : n0 ≤ h0.size) (F : Fx Z h0 w_ORIGINAL w_FEEDBACK w_CENTROID w_HYPERNYM w_SUBSTANCE_MERONYM w_MEMBER_MERONYM w_PART_MERONYM w_SUBSTANCE_HOLONYM w_ANTONYM w_SYNONYM w_MEMBER_HOLONYM w_PART_HOLONYM w_HYPONYM)  (r : Int32) (hre : r = v2 a0 w_ORIGINAL w_FEEDBACK w_CENTROID w_HYPERNYM w_SUBSTANCE_MERONYM w_MEMBER_MERONYM w_PART_MERONYM w_SUBSTANCE_HOLONYM w_ANTONYM w_SYNONYM w_MEMBER_HOLONYM w_PART_HOLONYM w_HYPONYM) :
    MetFree l (⟨"com/example/hydrangea/hydrangea/expansion/Subvector", "isWeighedByDocuments", "()Z"⟩ : MethodName) (head1 ((Jvm.Cond.code (⟨"com/example/hydrangea/hydrangea/expansion/Subvector", "isWeighedByDocuments", "()Z"⟩ : MethodName) prog_20_method_7_code 1 (some .boolean)) :: ws) ({ frames := 0, cells := 0, slots := 0, locals := 0 } : Room)) (fun a U => a = #[(.ref a0)] ∧ Z.Warmed39 U.vm ∧ U.heap = h0) (fun _ _ _ _ _ => True) (fun _ U o U' => ∃ v L, o = .returned v ∧ Qp (some (.int r)) h0 n0 v U'.heap L ∧ FrameEnd U o U' L ({ frames := 0, cells := 0, slots := 0, locals := 0 } : Room).cells ({ frames := 0, cells := 0, slots := 0, locals := 0 } : Room).slots) := by
  obtain ⟨S_ORIGINAL, E_ORIGINAL, S_FEEDBACK, E_FEEDBACK, F_ordinal_ORIGINAL, F_ordinal_FEEDBACK, S_CENTROID, E_CENTROID, F_ordinal_CENTROID, S_HYPERNYM, E_HYPERNYM, F_ordinal_HYPERNYM, S_SUBSTANCE_MERONYM, E_SUBSTANCE_MERONYM, F_ordinal_SUBSTANCE_MERONYM, S_MEMBER_MERONYM, E_MEMBER_MERONYM, F_ordinal_MEMBER_MERONYM, S_PART_MERONYM, E_PART_MERONYM, F_ordinal_PART_MERONYM, S_SUBSTANCE_HOLONYM, E_SUBSTANCE_HOLONYM, F_ordinal_SUBSTANCE_HOLONYM, S_ANTONYM, E_ANTONYM, F_ordinal_ANTONYM, S_SYNONYM, E_SYNONYM, F_ordinal_SYNONYM, S_MEMBER_HOLONYM, E_MEMBER_HOLONYM, F_ordinal_MEMBER_HOLONYM, S_PART_HOLONYM, E_PART_HOLONYM, F_ordinal_PART_HOLONYM, S_HYPONYM, E_HYPONYM, F_ordinal_HYPONYM⟩ := id F
  refine MetFree.of_bodySF (plainFor_of_name pn_2) hisR ?_
  intro p e s m args below meth c s₁ Bd hml0 hP hK
  obtain ⟨rfl, hZ, hh⟩ := hP
  have hx := Bd.exec
  have hby := Bd.bytes
  have hml : c.maxLocals = 1 := hml0
  have hown : s.vm.findClass "com/example/hydrangea/hydrangea/expansion/Subvector" = some m.cls := findClass_of_methodNamed Bd.named
  have X0 : Stand p l e ({ frames := 0, cells := 0, slots := 0, locals := 0 } : Room) s m #[(.ref a0)] below meth c s₁ [] 0 0 := Stand.of_body Bd
  have e0 : s₁.heap = h0 := by rw [← hh, Bd.state]; rfl
  have N0 := Fr.nil n0
  have pre0 : ∀ t, Steps p.tables e below (s₁.setTop (mkF m 0 #[.val (.ref a0)] [])) t → Steps p.tables e below (s₁.setTop (entryFrame m #[(.ref a0)] 1)) t := fun t k => castTop (ef_2 m a0) k
  obtain ⟨T1, X1, e1, st1⟩ := getS2 X0 hx hZ hown (host := "") (Or.inl (hw _ (List.mem_of_getElem? (i := 13) rfl))) Via.refl e0 S_FEEDBACK (g := (mkF m 1 #[.val (.ref a0)] [(.ref a0)])) rfl (hb hby d2_1)
  have pre2 : ∀ t, Steps p.tables e below (T1.setTop (mkF m 4 #[.val (.ref a0)] [(.ref w_FEEDBACK), (.ref a0)])) t → Steps p.tables e below (s₁.setTop (entryFrame m #[(.ref a0)] 1)) t := by
    intro t k
    refine pre0 _ ?_
    show Steps p.tables e below (s₁.setTop (mkF m 0 #[.val (.ref a0)] [])) _
    refine XS.aloadN X0.here hx rfl (hb hby d2_0) rfl rfl ?_
    show Steps p.tables e below (s₁.setTop (mkF m 1 #[.val (.ref a0)] [(.ref a0)])) _
    refine st1 _ ?_
    exact k
  by_cases hc3 : a0 = w_FEEDBACK
  ·
    have hv : (some (.int r) : Option Value) = some (.int (1 : Int32)) := by rw [hre]; unfold v2; rw [if_pos hc3]
    rw [hv]
    obtain ⟨fs, hr, hrun, hended, hW, hsame⟩ := X1.leave (v := some (.int (1 : Int32))) (fun h => by rw [Bd.returns] at h; cases h)
    refine ⟨_, _, pre2 _ ?_, hrun, hended, _, _, rfl, ?_, ⟨_, rfl⟩, hW, hsame.mono (by decide) (by decide)⟩
    · show Steps p.tables e below (T1.setTop (mkF m 4 #[.val (.ref a0)] [(.ref w_FEEDBACK), (.ref a0)])) _
      refine Jvm.RoadKit.acmp (g := (mkF m 4 #[.val (.ref a0)] [(.ref w_FEEDBACK), (.ref a0)])) X1 hx rfl rfl rfl (pc0 := 4) (pc' := 14) (same := true) rfl (hb hby d2_4) rfl (decide_eq_true (congrArg Value.ref hc3)) (by decide) (by decide) ?_
      show Steps p.tables e below (T1.setTop (mkF m 14 #[.val (.ref a0)] [])) _
      refine XS.iconst X1.here hx rfl (hb hby d2_14) ?_
      show Steps p.tables e below (T1.setTop (mkF m 15 #[.val (.ref a0)] [(.int (1 : Int32))])) _
      refine XS.goto X1.here hx rfl (pc0 := 15) (pc' := 19) rfl (hb hby d2_15) (by decide) (by decide) ?_
      show Steps p.tables e below (T1.setTop (mkF m 19 #[.val (.ref a0)] [(.int (1 : Int32))])) _
      exact retN X1 hx (t := .boolean) Bd.returns (by simp) (hb hby d2_19) hr
    · show Qp (some (.int (1 : Int32))) h0 n0 _ T1.heap _
      rw [e1]
      exact ⟨rfl, N0, rfl⟩
  ·
    obtain ⟨T4, X4, e4, st4⟩ := getS2 X1 hx hZ hown (host := "") (Or.inl (hw _ (List.mem_of_getElem? (i := 15) rfl))) Via.refl e1 S_CENTROID (g := (mkF m 8 #[.val (.ref a0)] [(.ref a0)])) rfl (hb hby d2_8)
    have pre5 : ∀ t, Steps p.tables e below (T4.setTop (mkF m 11 #[.val (.ref a0)] [(.ref w_CENTROID), (.ref a0)])) t → Steps p.tables e below (s₁.setTop (entryFrame m #[(.ref a0)] 1)) t := by
      intro t k
      refine pre2 _ ?_
      show Steps p.tables e below (T1.setTop (mkF m 4 #[.val (.ref a0)] [(.ref w_FEEDBACK), (.ref a0)])) _
      refine Jvm.RoadKit.acmp (g := (mkF m 4 #[.val (.ref a0)] [(.ref w_FEEDBACK), (.ref a0)])) X1 hx rfl rfl rfl (pc0 := 4) (pc' := 7) (same := false) rfl (hb hby d2_4) rfl (decide_eq_false (fun q => hc3 (Value.ref.inj q))) (by decide) (by decide) ?_
      show Steps p.tables e below (T1.setTop (mkF m 7 #[.val (.ref a0)] [])) _
      refine XS.aloadN X1.here hx rfl (hb hby d2_7) rfl rfl ?_
      show Steps p.tables e below (T1.setTop (mkF m 8 #[.val (.ref a0)] [(.ref a0)])) _
      refine st4 _ ?_
      exact k
    by_cases hc6 : a0 = w_CENTROID
    ·
      have hv : (some (.int r) : Option Value) = some (.int (1 : Int32)) := by rw [hre]; unfold v2; rw [if_neg hc3, if_pos hc6]
      rw [hv]
      obtain ⟨fs, hr, hrun, hended, hW, hsame⟩ := X4.leave (v := some (.int (1 : Int32))) (fun h => by rw [Bd.returns] at h; cases h)
      refine ⟨_, _, pre5 _ ?_, hrun, hended, _, _, rfl, ?_, ⟨_, rfl⟩, hW, hsame.mono (by decide) (by decide)⟩
      · show Steps p.tables e below (T4.setTop (mkF m 11 #[.val (.ref a0)] [(.ref w_CENTROID), (.ref a0)])) _
        refine Jvm.RoadKit.acmp (g := (mkF m 11 #[.val (.ref a0)] [(.ref w_CENTROID), (.ref a0)])) X4 hx rfl rfl rfl (pc0 := 11) (pc' := 14) (same := true) rfl (hb hby d2_11) rfl (decide_eq_true (congrArg Value.ref hc6)) (by decide) (by decide) ?_
        show Steps p.tables e below (T4.setTop (mkF m 14 #[.val (.ref a0)] [])) _
        refine XS.iconst X4.here hx rfl (hb hby d2_14) ?_
        show Steps p.tables e below (T4.setTop (mkF m 15 #[.val (.ref a0)] [(.int (1 : Int32))])) _
        refine XS.goto X4.here hx rfl (pc0 := 15) (pc' := 19) rfl (hb hby d2_15) (by decide) (by decide) ?_
        show Steps p.tables e below (T4.setTop (mkF m 19 #[.val (.ref a0)] [(.int (1 : Int32))])) _
        exact retN X4 hx (t := .boolean) Bd.returns (by simp) (hb hby d2_19) hr
      · show Qp (some (.int (1 : Int32))) h0 n0 _ T4.heap _
        rw [e4]
        exact ⟨rfl, N0, rfl⟩
    ·
      have hv : (some (.int r) : Option Value) = some (.int (0 : Int32)) := by rw [hre]; unfold v2; rw [if_neg hc3, if_neg hc6]
      rw [hv]
      obtain ⟨fs, hr, hrun, hended, hW, hsame⟩ := X4.leave (v := some (.int (0 : Int32))) (fun h => by rw [Bd.returns] at h; cases h)
      refine ⟨_, _, pre5 _ ?_, hrun, hended, _, _, rfl, ?_, ⟨_, rfl⟩, hW, hsame.mono (by decide) (by decide)⟩
      · show Steps p.tables e below (T4.setTop (mkF m 11 #[.val (.ref a0)] [(.ref w_CENTROID), (.ref a0)])) _
        refine Jvm.RoadKit.acmp (g := (mkF m 11 #[.val (.ref a0)] [(.ref w_CENTROID), (.ref a0)])) X4 hx rfl rfl rfl (pc0 := 11) (pc' := 18) (same := false) rfl (hb hby d2_11) rfl (decide_eq_false (fun q => hc6 (Value.ref.inj q))) (by decide) (by decide) ?_
        show Steps p.tables e below (T4.setTop (mkF m 18 #[.val (.ref a0)] [])) _
        refine XS.iconst X4.here hx rfl (hb hby d2_18) ?_
        show Steps p.tables e below (T4.setTop (mkF m 19 #[.val (.ref a0)] [(.int (0 : Int32))])) _
        exact retN X4 hx (t := .boolean) Bd.returns (by simp) (hb hby d2_19) hr
      · show Qp (some (.int (0 : Int32))) h0 n0 _ T4.heap _
        rw [e4]
        exact ⟨rfl, N0, rfl⟩

theorem own_cases13 (k : Int32) (h0 : 0 ≤ k.toInt) (h1 : k.toInt < 13) : k = (0 : Int32) ∨ k = (1 : Int32) ∨ k = (2 : Int32) ∨ k = (3 : Int32) ∨ k = (4 : Int32) ∨ k = (5 : Int32) ∨ k = (6 : Int32) ∨ k = (7 : Int32) ∨ k = (8 : Int32) ∨ k = (9 : Int32) ∨ k = (10 : Int32) ∨ k = (11 : Int32) ∨ k = (12 : Int32) := by
  have h : k.toInt = 0 ∨ k.toInt = 1 ∨ k.toInt = 2 ∨ k.toInt = 3 ∨ k.toInt = 4 ∨ k.toInt = 5 ∨ k.toInt = 6 ∨ k.toInt = 7 ∨ k.toInt = 8 ∨ k.toInt = 9 ∨ k.toInt = 10 ∨ k.toInt = 11 ∨ k.toInt = 12 := by omega
  rcases h with h | h | h | h | h | h | h | h | h | h | h | h | h
  · exact (Or.inl (Int32.toInt_inj.mp (h.trans (by decide : (0 : Int) = (0 : Int32).toInt))))
  · exact (Or.inr (Or.inl (Int32.toInt_inj.mp (h.trans (by decide : (1 : Int) = (1 : Int32).toInt)))))
  · exact (Or.inr (Or.inr (Or.inl (Int32.toInt_inj.mp (h.trans (by decide : (2 : Int) = (2 : Int32).toInt))))))
  · exact (Or.inr (Or.inr (Or.inr (Or.inl (Int32.toInt_inj.mp (h.trans (by decide : (3 : Int) = (3 : Int32).toInt)))))))
  · exact (Or.inr (Or.inr (Or.inr (Or.inr (Or.inl (Int32.toInt_inj.mp (h.trans (by decide : (4 : Int) = (4 : Int32).toInt))))))))
  · exact (Or.inr (Or.inr (Or.inr (Or.inr (Or.inr (Or.inl (Int32.toInt_inj.mp (h.trans (by decide : (5 : Int) = (5 : Int32).toInt)))))))))
  · exact (Or.inr (Or.inr (Or.inr (Or.inr (Or.inr (Or.inr (Or.inl (Int32.toInt_inj.mp (h.trans (by decide : (6 : Int) = (6 : Int32).toInt))))))))))
  · exact (Or.inr (Or.inr (Or.inr (Or.inr (Or.inr (Or.inr (Or.inr (Or.inl (Int32.toInt_inj.mp (h.trans (by decide : (7 : Int) = (7 : Int32).toInt)))))))))))
  · exact (Or.inr (Or.inr (Or.inr (Or.inr (Or.inr (Or.inr (Or.inr (Or.inr (Or.inl (Int32.toInt_inj.mp (h.trans (by decide : (8 : Int) = (8 : Int32).toInt))))))))))))
  · exact (Or.inr (Or.inr (Or.inr (Or.inr (Or.inr (Or.inr (Or.inr (Or.inr (Or.inr (Or.inl (Int32.toInt_inj.mp (h.trans (by decide : (9 : Int) = (9 : Int32).toInt)))))))))))))
  · exact (Or.inr (Or.inr (Or.inr (Or.inr (Or.inr (Or.inr (Or.inr (Or.inr (Or.inr (Or.inr (Or.inl (Int32.toInt_inj.mp (h.trans (by decide : (10 : Int) = (10 : Int32).toInt))))))))))))))
  · exact (Or.inr (Or.inr (Or.inr (Or.inr (Or.inr (Or.inr (Or.inr (Or.inr (Or.inr (Or.inr (Or.inr (Or.inl (Int32.toInt_inj.mp (h.trans (by decide : (11 : Int) = (11 : Int32).toInt)))))))))))))))
  · exact (Or.inr (Or.inr (Or.inr (Or.inr (Or.inr (Or.inr (Or.inr (Or.inr (Or.inr (Or.inr (Or.inr (Or.inr (Int32.toInt_inj.mp (h.trans (by decide : (12 : Int) = (12 : Int32).toInt)))))))))))))))
theorem own_mod (x : Int32) : (x &&& (2147483647 : Int32)) % (13 : Int32) = (0 : Int32) ∨ (x &&& (2147483647 : Int32)) % (13 : Int32) = (1 : Int32) ∨ (x &&& (2147483647 : Int32)) % (13 : Int32) = (2 : Int32) ∨ (x &&& (2147483647 : Int32)) % (13 : Int32) = (3 : Int32) ∨ (x &&& (2147483647 : Int32)) % (13 : Int32) = (4 : Int32) ∨ (x &&& (2147483647 : Int32)) % (13 : Int32) = (5 : Int32) ∨ (x &&& (2147483647 : Int32)) % (13 : Int32) = (6 : Int32) ∨ (x &&& (2147483647 : Int32)) % (13 : Int32) = (7 : Int32) ∨ (x &&& (2147483647 : Int32)) % (13 : Int32) = (8 : Int32) ∨ (x &&& (2147483647 : Int32)) % (13 : Int32) = (9 : Int32) ∨ (x &&& (2147483647 : Int32)) % (13 : Int32) = (10 : Int32) ∨ (x &&& (2147483647 : Int32)) % (13 : Int32) = (11 : Int32) ∨ (x &&& (2147483647 : Int32)) % (13 : Int32) = (12 : Int32) := by
  have e := Jvm.Kit.i32_mask x 2147483647 (k := 31) (by decide) (by decide)
  have f : ((x &&& (2147483647 : Int32)) % (13 : Int32)).toInt = (x &&& (2147483647 : Int32)).toInt % (13 : Int32).toInt := Jvm.Kit.i32_rem_nonneg (by rw [e]; omega)
  have g : (13 : Int32).toInt = 13 := by decide
  rw [g] at f
  generalize (x &&& (2147483647 : Int32)) % (13 : Int32) = k at *
  exact own_cases13 k (by omega) (by omega)
set_option maxHeartbeats 40000000 in
theorem own_exa {Z : State} {h : Heap} {w_ORIGINAL : Addr} {w_FEEDBACK : Addr} {w_CENTROID : Addr} {w_HYPERNYM : Addr} {w_SUBSTANCE_MERONYM : Addr} {w_MEMBER_MERONYM : Addr} {w_PART_MERONYM : Addr} {w_SUBSTANCE_HOLONYM : Addr} {w_ANTONYM : Addr} {w_SYNONYM : Addr} {w_MEMBER_HOLONYM : Addr} {w_PART_HOLONYM : Addr} {w_HYPONYM : Addr} (F : Fx Z h w_ORIGINAL w_FEEDBACK w_CENTROID w_HYPERNYM w_SUBSTANCE_MERONYM w_MEMBER_MERONYM w_PART_MERONYM w_SUBSTANCE_HOLONYM w_ANTONYM w_SYNONYM w_MEMBER_HOLONYM w_PART_HOLONYM w_HYPONYM) (p0 : Int32) : Exa Z h (v1 p0 w_ORIGINAL w_FEEDBACK w_CENTROID w_HYPERNYM w_SUBSTANCE_MERONYM w_MEMBER_MERONYM w_PART_MERONYM w_SUBSTANCE_HOLONYM w_ANTONYM w_SYNONYM w_MEMBER_HOLONYM w_PART_HOLONYM w_HYPONYM) "com/example/hydrangea/hydrangea/expansion/Subvector" := by
  obtain ⟨S_ORIGINAL, E_ORIGINAL, S_FEEDBACK, E_FEEDBACK, F_ordinal_ORIGINAL, F_ordinal_FEEDBACK, S_CENTROID, E_CENTROID, F_ordinal_CENTROID, S_HYPERNYM, E_HYPERNYM, F_ordinal_HYPERNYM, S_SUBSTANCE_MERONYM, E_SUBSTANCE_MERONYM, F_ordinal_SUBSTANCE_MERONYM, S_MEMBER_MERONYM, E_MEMBER_MERONYM, F_ordinal_MEMBER_MERONYM, S_PART_MERONYM, E_PART_MERONYM, F_ordinal_PART_MERONYM, S_SUBSTANCE_HOLONYM, E_SUBSTANCE_HOLONYM, F_ordinal_SUBSTANCE_HOLONYM, S_ANTONYM, E_ANTONYM, F_ordinal_ANTONYM, S_SYNONYM, E_SYNONYM, F_ordinal_SYNONYM, S_MEMBER_HOLONYM, E_MEMBER_HOLONYM, F_ordinal_MEMBER_HOLONYM, S_PART_HOLONYM, E_PART_HOLONYM, F_ordinal_PART_HOLONYM, S_HYPONYM, E_HYPONYM, F_ordinal_HYPONYM⟩ := F
  unfold v1
  split
  · exact E_ORIGINAL
  · split
    · exact E_SYNONYM
    · split
      · exact E_ANTONYM
      · split
        · exact E_HYPERNYM
        · split
          · exact E_HYPONYM
          · split
            · exact E_MEMBER_MERONYM
            · split
              · exact E_SUBSTANCE_MERONYM
              · split
                · exact E_PART_MERONYM
                · split
                  · exact E_MEMBER_HOLONYM
                  · split
                    · exact E_SUBSTANCE_HOLONYM
                    · split
                      · exact E_PART_HOLONYM
                      · split
                        · exact E_FEEDBACK
                        · exact E_CENTROID

theorem pn_0 : plainName "com/example/hydrangea/hydrangea/expansion/SubvectorIsWeighedByDocumentsPinLaw" = true := by first | (simp [plainName, overriddenIn]; done) | decide +kernel
theorem pd_0_26 : parseMethodDescriptor "()Z" = some ⟨[], some .boolean⟩ := by decide +kernel
theorem pd_0_9 : parseMethodDescriptor "(I)Lcom/example/hydrangea/hydrangea/expansion/Subvector;" = some ⟨[.int], some (.object "com/example/hydrangea/hydrangea/expansion/Subvector")⟩ := by decide +kernel
theorem ef_0 (m : MethodId) (p0 : Int32) : entryFrame m #[(.int p0)] maxLocals = mkF m 0 #[.val (.int p0), .unset, .unset, .unset] [] := by first | (simp [entryFrame, mkF, argsToLocals, Value.category, maxLocals]; done) | rfl
set_option maxRecDepth 65536 in
set_option maxHeartbeats 40000000 in
theorem rm0 (l : Launch) (Z : State) (ar0 : Array Value) (hw : ∀ d ∈ tables_1, d.before ar0 Z = true) (ws : List Jvm.Cond) (p0 : Int32) (w_ORIGINAL : Addr) (w_FEEDBACK : Addr) (w_CENTROID : Addr) (w_HYPERNYM : Addr) (w_SUBSTANCE_MERONYM : Addr) (w_MEMBER_MERONYM : Addr) (w_PART_MERONYM : Addr) (w_SUBSTANCE_HOLONYM : Addr) (w_ANTONYM : Addr) (w_SYNONYM : Addr) (w_MEMBER_HOLONYM : Addr) (w_PART_HOLONYM : Addr) (w_HYPONYM : Addr) (h0 : Heap) (n0 : Nat) (Z0 : n0 ≤ h0.size) (F : Fx Z h0 w_ORIGINAL w_FEEDBACK w_CENTROID w_HYPERNYM w_SUBSTANCE_MERONYM w_MEMBER_MERONYM w_PART_MERONYM w_SUBSTANCE_HOLONYM w_ANTONYM w_SYNONYM w_MEMBER_HOLONYM w_PART_HOLONYM w_HYPONYM)   :
    MetFree l x (head1 ((Jvm.Cond.code x code maxLocals ret) :: ws) room_1) (fun a U => a = #[(.int p0)] ∧ Z.Warmed39 U.vm ∧ U.heap = h0) (fun _ _ _ _ _ => True) (fun _ U o U' => ∃ v L, o = .returned v ∧ Qp (some (.int (1 : Int32))) h0 n0 v U'.heap L ∧ FrameEnd U o U' L room_1.cells room_1.slots) := by
  obtain ⟨S_ORIGINAL, E_ORIGINAL, S_FEEDBACK, E_FEEDBACK, F_ordinal_ORIGINAL, F_ordinal_FEEDBACK, S_CENTROID, E_CENTROID, F_ordinal_CENTROID, S_HYPERNYM, E_HYPERNYM, F_ordinal_HYPERNYM, S_SUBSTANCE_MERONYM, E_SUBSTANCE_MERONYM, F_ordinal_SUBSTANCE_MERONYM, S_MEMBER_MERONYM, E_MEMBER_MERONYM, F_ordinal_MEMBER_MERONYM, S_PART_MERONYM, E_PART_MERONYM, F_ordinal_PART_MERONYM, S_SUBSTANCE_HOLONYM, E_SUBSTANCE_HOLONYM, F_ordinal_SUBSTANCE_HOLONYM, S_ANTONYM, E_ANTONYM, F_ordinal_ANTONYM, S_SYNONYM, E_SYNONYM, F_ordinal_SYNONYM, S_MEMBER_HOLONYM, E_MEMBER_HOLONYM, F_ordinal_MEMBER_HOLONYM, S_PART_HOLONYM, E_PART_HOLONYM, F_ordinal_PART_HOLONYM, S_HYPONYM, E_HYPONYM, F_ordinal_HYPONYM⟩ := id F
  refine MetFree.of_bodySF (plainFor_of_name pn_0) hisR ?_
  intro p e s m args below meth c s₁ Bd hml0 hP hK
  obtain ⟨rfl, hZ, hh⟩ := hP
  have hx := Bd.exec
  have hby := Bd.bytes
  have hml : c.maxLocals = 4 := hml0
  have hown : s.vm.findClass "com/example/hydrangea/hydrangea/expansion/SubvectorIsWeighedByDocumentsPinLaw" = some m.cls := findClass_of_methodNamed Bd.named
  have X0 : Stand p l e room_1 s m #[(.int p0)] below meth c s₁ [] 0 0 := Stand.of_body Bd
  have e0 : s₁.heap = h0 := by rw [← hh, Bd.state]; rfl
  have N0 := Fr.nil n0
  have pre0 : ∀ t, Steps p.tables e below (s₁.setTop (mkF m 0 #[.val (.int p0), .unset, .unset, .unset] [])) t → Steps p.tables e below (s₁.setTop (entryFrame m #[(.int p0)] maxLocals)) t := fun t k => castTop (ef_0 m p0) k
  have ne_FEEDBACK_ORIGINAL : w_FEEDBACK ≠ w_ORIGINAL := own_fld_ne F_ordinal_FEEDBACK F_ordinal_ORIGINAL (by decide)
  have ne_ORIGINAL_FEEDBACK := Ne.symm ne_FEEDBACK_ORIGINAL
  have ne_FEEDBACK_CENTROID : w_FEEDBACK ≠ w_CENTROID := own_fld_ne F_ordinal_FEEDBACK F_ordinal_CENTROID (by decide)
  have ne_CENTROID_FEEDBACK := Ne.symm ne_FEEDBACK_CENTROID
  have ne_FEEDBACK_HYPERNYM : w_FEEDBACK ≠ w_HYPERNYM := own_fld_ne F_ordinal_FEEDBACK F_ordinal_HYPERNYM (by decide)
  have ne_HYPERNYM_FEEDBACK := Ne.symm ne_FEEDBACK_HYPERNYM
  have ne_FEEDBACK_SUBSTANCE_MERONYM : w_FEEDBACK ≠ w_SUBSTANCE_MERONYM := own_fld_ne F_ordinal_FEEDBACK F_ordinal_SUBSTANCE_MERONYM (by decide)
  have ne_SUBSTANCE_MERONYM_FEEDBACK := Ne.symm ne_FEEDBACK_SUBSTANCE_MERONYM
  have ne_FEEDBACK_MEMBER_MERONYM : w_FEEDBACK ≠ w_MEMBER_MERONYM := own_fld_ne F_ordinal_FEEDBACK F_ordinal_MEMBER_MERONYM (by decide)
  have ne_MEMBER_MERONYM_FEEDBACK := Ne.symm ne_FEEDBACK_MEMBER_MERONYM
  have ne_FEEDBACK_PART_MERONYM : w_FEEDBACK ≠ w_PART_MERONYM := own_fld_ne F_ordinal_FEEDBACK F_ordinal_PART_MERONYM (by decide)
  have ne_PART_MERONYM_FEEDBACK := Ne.symm ne_FEEDBACK_PART_MERONYM
  have ne_FEEDBACK_SUBSTANCE_HOLONYM : w_FEEDBACK ≠ w_SUBSTANCE_HOLONYM := own_fld_ne F_ordinal_FEEDBACK F_ordinal_SUBSTANCE_HOLONYM (by decide)
  have ne_SUBSTANCE_HOLONYM_FEEDBACK := Ne.symm ne_FEEDBACK_SUBSTANCE_HOLONYM
  have ne_FEEDBACK_ANTONYM : w_FEEDBACK ≠ w_ANTONYM := own_fld_ne F_ordinal_FEEDBACK F_ordinal_ANTONYM (by decide)
  have ne_ANTONYM_FEEDBACK := Ne.symm ne_FEEDBACK_ANTONYM
  have ne_FEEDBACK_SYNONYM : w_FEEDBACK ≠ w_SYNONYM := own_fld_ne F_ordinal_FEEDBACK F_ordinal_SYNONYM (by decide)
  have ne_SYNONYM_FEEDBACK := Ne.symm ne_FEEDBACK_SYNONYM
  have ne_FEEDBACK_MEMBER_HOLONYM : w_FEEDBACK ≠ w_MEMBER_HOLONYM := own_fld_ne F_ordinal_FEEDBACK F_ordinal_MEMBER_HOLONYM (by decide)
  have ne_MEMBER_HOLONYM_FEEDBACK := Ne.symm ne_FEEDBACK_MEMBER_HOLONYM
  have ne_FEEDBACK_PART_HOLONYM : w_FEEDBACK ≠ w_PART_HOLONYM := own_fld_ne F_ordinal_FEEDBACK F_ordinal_PART_HOLONYM (by decide)
  have ne_PART_HOLONYM_FEEDBACK := Ne.symm ne_FEEDBACK_PART_HOLONYM
  have ne_FEEDBACK_HYPONYM : w_FEEDBACK ≠ w_HYPONYM := own_fld_ne F_ordinal_FEEDBACK F_ordinal_HYPONYM (by decide)
  have ne_HYPONYM_FEEDBACK := Ne.symm ne_FEEDBACK_HYPONYM
  have ne_CENTROID_ORIGINAL : w_CENTROID ≠ w_ORIGINAL := own_fld_ne F_ordinal_CENTROID F_ordinal_ORIGINAL (by decide)
  have ne_ORIGINAL_CENTROID := Ne.symm ne_CENTROID_ORIGINAL
  have ne_CENTROID_HYPERNYM : w_CENTROID ≠ w_HYPERNYM := own_fld_ne F_ordinal_CENTROID F_ordinal_HYPERNYM (by decide)
  have ne_HYPERNYM_CENTROID := Ne.symm ne_CENTROID_HYPERNYM
  have ne_CENTROID_SUBSTANCE_MERONYM : w_CENTROID ≠ w_SUBSTANCE_MERONYM := own_fld_ne F_ordinal_CENTROID F_ordinal_SUBSTANCE_MERONYM (by decide)
  have ne_SUBSTANCE_MERONYM_CENTROID := Ne.symm ne_CENTROID_SUBSTANCE_MERONYM
  have ne_CENTROID_MEMBER_MERONYM : w_CENTROID ≠ w_MEMBER_MERONYM := own_fld_ne F_ordinal_CENTROID F_ordinal_MEMBER_MERONYM (by decide)
  have ne_MEMBER_MERONYM_CENTROID := Ne.symm ne_CENTROID_MEMBER_MERONYM
  have ne_CENTROID_PART_MERONYM : w_CENTROID ≠ w_PART_MERONYM := own_fld_ne F_ordinal_CENTROID F_ordinal_PART_MERONYM (by decide)
  have ne_PART_MERONYM_CENTROID := Ne.symm ne_CENTROID_PART_MERONYM
  have ne_CENTROID_SUBSTANCE_HOLONYM : w_CENTROID ≠ w_SUBSTANCE_HOLONYM := own_fld_ne F_ordinal_CENTROID F_ordinal_SUBSTANCE_HOLONYM (by decide)
  have ne_SUBSTANCE_HOLONYM_CENTROID := Ne.symm ne_CENTROID_SUBSTANCE_HOLONYM
  have ne_CENTROID_ANTONYM : w_CENTROID ≠ w_ANTONYM := own_fld_ne F_ordinal_CENTROID F_ordinal_ANTONYM (by decide)
  have ne_ANTONYM_CENTROID := Ne.symm ne_CENTROID_ANTONYM
  have ne_CENTROID_SYNONYM : w_CENTROID ≠ w_SYNONYM := own_fld_ne F_ordinal_CENTROID F_ordinal_SYNONYM (by decide)
  have ne_SYNONYM_CENTROID := Ne.symm ne_CENTROID_SYNONYM
  have ne_CENTROID_MEMBER_HOLONYM : w_CENTROID ≠ w_MEMBER_HOLONYM := own_fld_ne F_ordinal_CENTROID F_ordinal_MEMBER_HOLONYM (by decide)
  have ne_MEMBER_HOLONYM_CENTROID := Ne.symm ne_CENTROID_MEMBER_HOLONYM
  have ne_CENTROID_PART_HOLONYM : w_CENTROID ≠ w_PART_HOLONYM := own_fld_ne F_ordinal_CENTROID F_ordinal_PART_HOLONYM (by decide)
  have ne_PART_HOLONYM_CENTROID := Ne.symm ne_CENTROID_PART_HOLONYM
  have ne_CENTROID_HYPONYM : w_CENTROID ≠ w_HYPONYM := own_fld_ne F_ordinal_CENTROID F_ordinal_HYPONYM (by decide)
  have ne_HYPONYM_CENTROID := Ne.symm ne_CENTROID_HYPONYM
  have key : v2 (v1 ((p0 &&& (2147483647 : Int32)) % (13 : Int32)) w_ORIGINAL w_FEEDBACK w_CENTROID w_HYPERNYM w_SUBSTANCE_MERONYM w_MEMBER_MERONYM w_PART_MERONYM w_SUBSTANCE_HOLONYM w_ANTONYM w_SYNONYM w_MEMBER_HOLONYM w_PART_HOLONYM w_HYPONYM) w_ORIGINAL w_FEEDBACK w_CENTROID w_HYPERNYM w_SUBSTANCE_MERONYM w_MEMBER_MERONYM w_PART_MERONYM w_SUBSTANCE_HOLONYM w_ANTONYM w_SYNONYM w_MEMBER_HOLONYM w_PART_HOLONYM w_HYPONYM = if ((p0 &&& (2147483647 : Int32)) % (13 : Int32)) < (11 : Int32) then (0 : Int32) else (1 : Int32) := by
    rcases own_mod p0 with q | q | q | q | q | q | q | q | q | q | q | q | q
    all_goals (rw [q]; simp +decide [v1, v2, ne_FEEDBACK_ORIGINAL, ne_ORIGINAL_FEEDBACK, ne_FEEDBACK_CENTROID, ne_CENTROID_FEEDBACK, ne_FEEDBACK_HYPERNYM, ne_HYPERNYM_FEEDBACK, ne_FEEDBACK_SUBSTANCE_MERONYM, ne_SUBSTANCE_MERONYM_FEEDBACK, ne_FEEDBACK_MEMBER_MERONYM, ne_MEMBER_MERONYM_FEEDBACK, ne_FEEDBACK_PART_MERONYM, ne_PART_MERONYM_FEEDBACK, ne_FEEDBACK_SUBSTANCE_HOLONYM, ne_SUBSTANCE_HOLONYM_FEEDBACK, ne_FEEDBACK_ANTONYM, ne_ANTONYM_FEEDBACK, ne_FEEDBACK_SYNONYM, ne_SYNONYM_FEEDBACK, ne_FEEDBACK_MEMBER_HOLONYM, ne_MEMBER_HOLONYM_FEEDBACK, ne_FEEDBACK_PART_HOLONYM, ne_PART_HOLONYM_FEEDBACK, ne_FEEDBACK_HYPONYM, ne_HYPONYM_FEEDBACK, ne_CENTROID_ORIGINAL, ne_ORIGINAL_CENTROID, ne_CENTROID_HYPERNYM, ne_HYPERNYM_CENTROID, ne_CENTROID_SUBSTANCE_MERONYM, ne_SUBSTANCE_MERONYM_CENTROID, ne_CENTROID_MEMBER_MERONYM, ne_MEMBER_MERONYM_CENTROID, ne_CENTROID_PART_MERONYM, ne_PART_MERONYM_CENTROID, ne_CENTROID_SUBSTANCE_HOLONYM, ne_SUBSTANCE_HOLONYM_CENTROID, ne_CENTROID_ANTONYM, ne_ANTONYM_CENTROID, ne_CENTROID_SYNONYM, ne_SYNONYM_CENTROID, ne_CENTROID_MEMBER_HOLONYM, ne_MEMBER_HOLONYM_CENTROID, ne_CENTROID_PART_HOLONYM, ne_PART_HOLONYM_CENTROID, ne_CENTROID_HYPONYM, ne_HYPONYM_CENTROID])
  obtain ⟨r1, hr1⟩ : ∃ z, z = v1 ((p0 &&& (2147483647 : Int32)) % (13 : Int32)) w_ORIGINAL w_FEEDBACK w_CENTROID w_HYPERNYM w_SUBSTANCE_MERONYM w_MEMBER_MERONYM w_PART_MERONYM w_SUBSTANCE_HOLONYM w_ANTONYM w_SYNONYM w_MEMBER_HOLONYM w_PART_HOLONYM w_HYPONYM := ⟨_, rfl⟩
  obtain ⟨_, _, ⟨T1, L1, k1, n1⟩, -, X1, ⟨Lc1, hQ1, l1, y1, z1⟩, st1⟩ := Jvm.LawKit.callS X0 hx (y := (⟨"com/example/hydrangea/hydrangea/expansion/SubvectorIsWeighedByDocumentsPinLaw", "pick", "(I)Lcom/example/hydrangea/hydrangea/expansion/Subvector;"⟩ : MethodName)) hown (mvT hZ (hw _ (List.mem_of_getElem? (i := 1) rfl))) (mvT hZ (hw _ (List.mem_of_getElem? (i := 2) rfl))) (mvT hZ (hw _ (List.mem_of_getElem? (i := 3) rfl))) (mvT hZ (hw _ (List.mem_of_getElem? (i := 4) rfl))) (by decide) (backOf (W := 0) (rm1 l Z ar0 hw [] ((p0 &&& (2147483647 : Int32)) % (13 : Int32)) w_ORIGINAL w_FEEDBACK w_CENTROID w_HYPERNYM w_SUBSTANCE_MERONYM w_MEMBER_MERONYM w_PART_MERONYM w_SUBSTANCE_HOLONYM w_ANTONYM w_SYNONYM w_MEMBER_HOLONYM w_PART_HOLONYM w_HYPONYM h0 n0 Z0 F  r1 hr1) hZ (hw _ (List.mem_of_getElem? (i := 4) rfl)) (hw _ (List.mem_of_getElem? (i := 3) rfl)) (by decide) (by decide)) (g := (mkF m 9 #[.val (.int p0), .val (.int ((p0 &&& (2147483647 : Int32)) % (13 : Int32))), .unset, .unset] [(.int ((p0 &&& (2147483647 : Int32)) % (13 : Int32)))])) rfl (by rw [hml]; rfl) (argsL := [(.int ((p0 &&& (2147483647 : Int32)) % (13 : Int32)))]) (rest := []) (lenOf pd_0_9 rfl) rfl (by show 2 * 0 + _ ≤ _; exact Nat.le_of_eq rfl) (hb hby at_9) (fun _ _ => ⟨rfl, e0, (by decide : 0 + 0 ≤ _), (by decide : 0 + 0 ≤ _)⟩)
  dsimp only [Pt.U, Pt.locs, Pt.cells, Pt.slots] at X1 l1 y1 z1 st1 hQ1
  subst l1 y1 z1
  obtain ⟨rfl, N1q, e1⟩ := hQ1
  have N1 := Fr.app N0 N1q
  have pre2 : ∀ t, Steps p.tables e below (T1.setTop (mkF m 16 #[.val (.int p0), .val (.int ((p0 &&& (2147483647 : Int32)) % (13 : Int32))), .val (.ref r1), .unset] [(.int (11 : Int32)), (.int ((p0 &&& (2147483647 : Int32)) % (13 : Int32)))])) t → Steps p.tables e below (s₁.setTop (entryFrame m #[(.int p0)] maxLocals)) t := by
    intro t k
    refine pre0 _ ?_
    show Steps p.tables e below (s₁.setTop (mkF m 0 #[.val (.int p0), .unset, .unset, .unset] [])) _
    refine XS.iloadN X0.here hx rfl (hb hby at_0) rfl ?_
    show Steps p.tables e below (s₁.setTop (mkF m 1 #[.val (.int p0), .unset, .unset, .unset] [(.int p0)])) _
    refine X0.ldcInt hx hown (mvT hZ (hw _ (List.mem_of_getElem? (i := 0) rfl))) (g := (mkF m 1 #[.val (.int p0), .unset, .unset, .unset] [(.int p0)])) rfl (hb hby at_1) _ ?_
    show Steps p.tables e below (s₁.setTop (mkF m 3 #[.val (.int p0), .unset, .unset, .unset] [(.int (2147483647 : Int32)), (.int p0)])) _
    refine XS.iand X0.here hx rfl (hb hby at_3) rfl ?_
    show Steps p.tables e below (s₁.setTop (mkF m 4 #[.val (.int p0), .unset, .unset, .unset] [(.int (p0 &&& (2147483647 : Int32)))])) _
    refine XS.bipush X0.here hx rfl (hb hby at_4) ?_
    show Steps p.tables e below (s₁.setTop (mkF m 6 #[.val (.int p0), .unset, .unset, .unset] [(.int (13 : Int32)), (.int (p0 &&& (2147483647 : Int32)))])) _
    refine iremM X0 hx rfl (hb hby at_6) rfl (by decide) ?_
    show Steps p.tables e below (s₁.setTop (mkF m 7 #[.val (.int p0), .unset, .unset, .unset] [(.int ((p0 &&& (2147483647 : Int32)) % (13 : Int32)))])) _
    refine XS.istoreN X0.here hx rfl (hb hby at_7) rfl (l' := #[.val (.int p0), .val (.int ((p0 &&& (2147483647 : Int32)) % (13 : Int32))), .unset, .unset]) rfl ?_
    show Steps p.tables e below (s₁.setTop (mkF m 8 #[.val (.int p0), .val (.int ((p0 &&& (2147483647 : Int32)) % (13 : Int32))), .unset, .unset] [])) _
    refine XS.iloadN X0.here hx rfl (hb hby at_8) rfl ?_
    show Steps p.tables e below (s₁.setTop (mkF m 9 #[.val (.int p0), .val (.int ((p0 &&& (2147483647 : Int32)) % (13 : Int32))), .unset, .unset] [(.int ((p0 &&& (2147483647 : Int32)) % (13 : Int32)))])) _
    refine st1 _ ?_
    show Steps p.tables e below (T1.setTop (mkF m 12 #[.val (.int p0), .val (.int ((p0 &&& (2147483647 : Int32)) % (13 : Int32))), .unset, .unset] [(.ref r1)])) _
    refine XS.astoreN X1.here hx rfl (hb hby at_12) rfl rfl (l' := #[.val (.int p0), .val (.int ((p0 &&& (2147483647 : Int32)) % (13 : Int32))), .val (.ref r1), .unset]) rfl ?_
    show Steps p.tables e below (T1.setTop (mkF m 13 #[.val (.int p0), .val (.int ((p0 &&& (2147483647 : Int32)) % (13 : Int32))), .val (.ref r1), .unset] [])) _
    refine XS.iloadN X1.here hx rfl (hb hby at_13) rfl ?_
    show Steps p.tables e below (T1.setTop (mkF m 14 #[.val (.int p0), .val (.int ((p0 &&& (2147483647 : Int32)) % (13 : Int32))), .val (.ref r1), .unset] [(.int ((p0 &&& (2147483647 : Int32)) % (13 : Int32)))])) _
    refine XS.bipush X1.here hx rfl (hb hby at_14) ?_
    exact k
  by_cases hc3 : ((p0 &&& (2147483647 : Int32)) % (13 : Int32)) < (11 : Int32)
  ·
    obtain ⟨r4, hr4⟩ : ∃ z, z = v2 r1 w_ORIGINAL w_FEEDBACK w_CENTROID w_HYPERNYM w_SUBSTANCE_MERONYM w_MEMBER_MERONYM w_PART_MERONYM w_SUBSTANCE_HOLONYM w_ANTONYM w_SYNONYM w_MEMBER_HOLONYM w_PART_HOLONYM w_HYPONYM := ⟨_, rfl⟩
    obtain ⟨cq4, kq4, q4a, q4b, q4c⟩ := isOf hZ e1 (show Exa Z h0 r1 "com/example/hydrangea/hydrangea/expansion/Subvector" from by rw [hr1]; exact own_exa F _)
    obtain ⟨_, _, ⟨T4, L4, k4, n4⟩, -, X4, ⟨Lc4, hQ4, l4, y4, z4⟩, st4⟩ := X1.virtualBack hx (y := (⟨"com/example/hydrangea/hydrangea/expansion/Subvector", "isWeighedByDocuments", "()Z"⟩ : MethodName)) (z := (⟨"com/example/hydrangea/hydrangea/expansion/Subvector", "isWeighedByDocuments", "()Z"⟩ : MethodName)) hown (mvT hZ (hw _ (List.mem_of_getElem? (i := 8) rfl))) (mvT hZ (hw _ (List.mem_of_getElem? (i := 9) rfl))) (notFace_of_selects (args := #[]) (mvT hZ (hw _ (List.mem_of_getElem? (i := 11) rfl)))) (mvT hZ (hw _ (List.mem_of_getElem? (i := 11) rfl))) (mvT hZ (hw _ (List.mem_of_getElem? (i := 10) rfl))) (by decide) (backOf (W := 0) (rm2 l Z ar0 hw [] r1 w_ORIGINAL w_FEEDBACK w_CENTROID w_HYPERNYM w_SUBSTANCE_MERONYM w_MEMBER_MERONYM w_PART_MERONYM w_SUBSTANCE_HOLONYM w_ANTONYM w_SYNONYM w_MEMBER_HOLONYM w_PART_HOLONYM w_HYPONYM h0 n0 Z0 F  r4 hr4) hZ (hw _ (List.mem_of_getElem? (i := 12) rfl)) (hw _ (List.mem_of_getElem? (i := 6) rfl)) (by decide) (by decide)) q4a q4c (g := (mkF m 26 #[.val (.int p0), .val (.int ((p0 &&& (2147483647 : Int32)) % (13 : Int32))), .val (.ref r1), .val (.int (0 : Int32))] [(.ref r1)])) rfl (by rw [hml]; rfl) (Steps.refl _) (argsL := []) (rest := []) (lenOf pd_0_26 rfl) rfl (by show 2 * 0 + _ ≤ _; exact Nat.le_of_eq rfl) (hb hby at_26) (fun _ _ => ⟨rfl, e1, (by decide : 0 + 0 ≤ _), (by decide : 0 + 0 ≤ _)⟩)
    dsimp only [Pt.U, Pt.locs, Pt.cells, Pt.slots] at X4 l4 y4 z4 st4 hQ4
    subst l4 y4 z4
    obtain ⟨rfl, N4q, e4⟩ := hQ4
    have N4 := Fr.app N1 N4q
    have hk5 : r4 = (0 : Int32) := by rw [hr4, hr1, key, if_pos hc3]
    obtain ⟨fs, hr, hrun, hended, hW, hsame⟩ := X4.leave (v := some (.int (1 : Int32))) (fun h => by rw [Bd.returns] at h; cases h)
    refine ⟨_, _, pre2 _ ?_, hrun, hended, _, _, rfl, ?_, ⟨_, rfl⟩, hW, hsame.mono (by decide) (by decide)⟩
    · show Steps p.tables e below (T1.setTop (mkF m 16 #[.val (.int p0), .val (.int ((p0 &&& (2147483647 : Int32)) % (13 : Int32))), .val (.ref r1), .unset] [(.int (11 : Int32)), (.int ((p0 &&& (2147483647 : Int32)) % (13 : Int32)))])) _
      refine XS.icmpYes X1.here hx rfl (pc0 := 16) (pc' := 23) rfl (hb hby at_16) rfl (tlt hc3).1 (by decide) (by decide) ?_
      show Steps p.tables e below (T1.setTop (mkF m 23 #[.val (.int p0), .val (.int ((p0 &&& (2147483647 : Int32)) % (13 : Int32))), .val (.ref r1), .unset] [])) _
      refine XS.iconst X1.here hx rfl (hb hby at_23) ?_
      show Steps p.tables e below (T1.setTop (mkF m 24 #[.val (.int p0), .val (.int ((p0 &&& (2147483647 : Int32)) % (13 : Int32))), .val (.ref r1), .unset] [(.int (0 : Int32))])) _
      refine XS.istoreN X1.here hx rfl (hb hby at_24) rfl (l' := #[.val (.int p0), .val (.int ((p0 &&& (2147483647 : Int32)) % (13 : Int32))), .val (.ref r1), .val (.int (0 : Int32))]) rfl ?_
      show Steps p.tables e below (T1.setTop (mkF m 25 #[.val (.int p0), .val (.int ((p0 &&& (2147483647 : Int32)) % (13 : Int32))), .val (.ref r1), .val (.int (0 : Int32))] [])) _
      refine XS.aloadN X1.here hx rfl (hb hby at_25) rfl rfl ?_
      show Steps p.tables e below (T1.setTop (mkF m 26 #[.val (.int p0), .val (.int ((p0 &&& (2147483647 : Int32)) % (13 : Int32))), .val (.ref r1), .val (.int (0 : Int32))] [(.ref r1)])) _
      refine st4.trans ?_
      show Steps p.tables e below (T4.setTop (mkF m 29 #[.val (.int p0), .val (.int ((p0 &&& (2147483647 : Int32)) % (13 : Int32))), .val (.ref r1), .val (.int (0 : Int32))] [(.int r4)])) _
      refine XS.iloadN X4.here hx rfl (hb hby at_29) rfl ?_
      show Steps p.tables e below (T4.setTop (mkF m 30 #[.val (.int p0), .val (.int ((p0 &&& (2147483647 : Int32)) % (13 : Int32))), .val (.ref r1), .val (.int (0 : Int32))] [(.int (0 : Int32)), (.int r4)])) _
      refine XS.icmpNo X4.here hx rfl (hb hby at_30) rfl (teq hk5).2 ?_
      show Steps p.tables e below (T4.setTop (mkF m 33 #[.val (.int p0), .val (.int ((p0 &&& (2147483647 : Int32)) % (13 : Int32))), .val (.ref r1), .val (.int (0 : Int32))] [])) _
      refine XS.iconst X4.here hx rfl (hb hby at_33) ?_
      show Steps p.tables e below (T4.setTop (mkF m 34 #[.val (.int p0), .val (.int ((p0 &&& (2147483647 : Int32)) % (13 : Int32))), .val (.ref r1), .val (.int (0 : Int32))] [(.int (1 : Int32))])) _
      refine XS.goto X4.here hx rfl (pc0 := 34) (pc' := 38) rfl (hb hby at_34) (by decide) (by decide) ?_
      show Steps p.tables e below (T4.setTop (mkF m 38 #[.val (.int p0), .val (.int ((p0 &&& (2147483647 : Int32)) % (13 : Int32))), .val (.ref r1), .val (.int (0 : Int32))] [(.int (1 : Int32))])) _
      exact retN X4 hx (t := .boolean) Bd.returns (by simp) (hb hby at_38) hr
    · show Qp (some (.int (1 : Int32))) h0 n0 _ T4.heap _
      rw [e4]
      exact ⟨rfl, N4, rfl⟩
  ·
    obtain ⟨r6, hr6⟩ : ∃ z, z = v2 r1 w_ORIGINAL w_FEEDBACK w_CENTROID w_HYPERNYM w_SUBSTANCE_MERONYM w_MEMBER_MERONYM w_PART_MERONYM w_SUBSTANCE_HOLONYM w_ANTONYM w_SYNONYM w_MEMBER_HOLONYM w_PART_HOLONYM w_HYPONYM := ⟨_, rfl⟩
    obtain ⟨cq6, kq6, q6a, q6b, q6c⟩ := isOf hZ e1 (show Exa Z h0 r1 "com/example/hydrangea/hydrangea/expansion/Subvector" from by rw [hr1]; exact own_exa F _)
    obtain ⟨_, _, ⟨T6, L6, k6, n6⟩, -, X6, ⟨Lc6, hQ6, l6, y6, z6⟩, st6⟩ := X1.virtualBack hx (y := (⟨"com/example/hydrangea/hydrangea/expansion/Subvector", "isWeighedByDocuments", "()Z"⟩ : MethodName)) (z := (⟨"com/example/hydrangea/hydrangea/expansion/Subvector", "isWeighedByDocuments", "()Z"⟩ : MethodName)) hown (mvT hZ (hw _ (List.mem_of_getElem? (i := 8) rfl))) (mvT hZ (hw _ (List.mem_of_getElem? (i := 9) rfl))) (notFace_of_selects (args := #[]) (mvT hZ (hw _ (List.mem_of_getElem? (i := 11) rfl)))) (mvT hZ (hw _ (List.mem_of_getElem? (i := 11) rfl))) (mvT hZ (hw _ (List.mem_of_getElem? (i := 10) rfl))) (by decide) (backOf (W := 0) (rm2 l Z ar0 hw [] r1 w_ORIGINAL w_FEEDBACK w_CENTROID w_HYPERNYM w_SUBSTANCE_MERONYM w_MEMBER_MERONYM w_PART_MERONYM w_SUBSTANCE_HOLONYM w_ANTONYM w_SYNONYM w_MEMBER_HOLONYM w_PART_HOLONYM w_HYPONYM h0 n0 Z0 F  r6 hr6) hZ (hw _ (List.mem_of_getElem? (i := 12) rfl)) (hw _ (List.mem_of_getElem? (i := 6) rfl)) (by decide) (by decide)) q6a q6c (g := (mkF m 26 #[.val (.int p0), .val (.int ((p0 &&& (2147483647 : Int32)) % (13 : Int32))), .val (.ref r1), .val (.int (1 : Int32))] [(.ref r1)])) rfl (by rw [hml]; rfl) (Steps.refl _) (argsL := []) (rest := []) (lenOf pd_0_26 rfl) rfl (by show 2 * 0 + _ ≤ _; exact Nat.le_of_eq rfl) (hb hby at_26) (fun _ _ => ⟨rfl, e1, (by decide : 0 + 0 ≤ _), (by decide : 0 + 0 ≤ _)⟩)
    dsimp only [Pt.U, Pt.locs, Pt.cells, Pt.slots] at X6 l6 y6 z6 st6 hQ6
    subst l6 y6 z6
    obtain ⟨rfl, N6q, e6⟩ := hQ6
    have N6 := Fr.app N1 N6q
    have hk7 : r6 = (1 : Int32) := by rw [hr6, hr1, key, if_neg hc3]
    obtain ⟨fs, hr, hrun, hended, hW, hsame⟩ := X6.leave (v := some (.int (1 : Int32))) (fun h => by rw [Bd.returns] at h; cases h)
    refine ⟨_, _, pre2 _ ?_, hrun, hended, _, _, rfl, ?_, ⟨_, rfl⟩, hW, hsame.mono (by decide) (by decide)⟩
    · show Steps p.tables e below (T1.setTop (mkF m 16 #[.val (.int p0), .val (.int ((p0 &&& (2147483647 : Int32)) % (13 : Int32))), .val (.ref r1), .unset] [(.int (11 : Int32)), (.int ((p0 &&& (2147483647 : Int32)) % (13 : Int32)))])) _
      refine XS.icmpNo X1.here hx rfl (hb hby at_16) rfl (flt hc3).1 ?_
      show Steps p.tables e below (T1.setTop (mkF m 19 #[.val (.int p0), .val (.int ((p0 &&& (2147483647 : Int32)) % (13 : Int32))), .val (.ref r1), .unset] [])) _
      refine XS.iconst X1.here hx rfl (hb hby at_19) ?_
      show Steps p.tables e below (T1.setTop (mkF m 20 #[.val (.int p0), .val (.int ((p0 &&& (2147483647 : Int32)) % (13 : Int32))), .val (.ref r1), .unset] [(.int (1 : Int32))])) _
      refine XS.goto X1.here hx rfl (pc0 := 20) (pc' := 24) rfl (hb hby at_20) (by decide) (by decide) ?_
      show Steps p.tables e below (T1.setTop (mkF m 24 #[.val (.int p0), .val (.int ((p0 &&& (2147483647 : Int32)) % (13 : Int32))), .val (.ref r1), .unset] [(.int (1 : Int32))])) _
      refine XS.istoreN X1.here hx rfl (hb hby at_24) rfl (l' := #[.val (.int p0), .val (.int ((p0 &&& (2147483647 : Int32)) % (13 : Int32))), .val (.ref r1), .val (.int (1 : Int32))]) rfl ?_
      show Steps p.tables e below (T1.setTop (mkF m 25 #[.val (.int p0), .val (.int ((p0 &&& (2147483647 : Int32)) % (13 : Int32))), .val (.ref r1), .val (.int (1 : Int32))] [])) _
      refine XS.aloadN X1.here hx rfl (hb hby at_25) rfl rfl ?_
      show Steps p.tables e below (T1.setTop (mkF m 26 #[.val (.int p0), .val (.int ((p0 &&& (2147483647 : Int32)) % (13 : Int32))), .val (.ref r1), .val (.int (1 : Int32))] [(.ref r1)])) _
      refine st6.trans ?_
      show Steps p.tables e below (T6.setTop (mkF m 29 #[.val (.int p0), .val (.int ((p0 &&& (2147483647 : Int32)) % (13 : Int32))), .val (.ref r1), .val (.int (1 : Int32))] [(.int r6)])) _
      refine XS.iloadN X6.here hx rfl (hb hby at_29) rfl ?_
      show Steps p.tables e below (T6.setTop (mkF m 30 #[.val (.int p0), .val (.int ((p0 &&& (2147483647 : Int32)) % (13 : Int32))), .val (.ref r1), .val (.int (1 : Int32))] [(.int (1 : Int32)), (.int r6)])) _
      refine XS.icmpNo X6.here hx rfl (hb hby at_30) rfl (teq hk7).2 ?_
      show Steps p.tables e below (T6.setTop (mkF m 33 #[.val (.int p0), .val (.int ((p0 &&& (2147483647 : Int32)) % (13 : Int32))), .val (.ref r1), .val (.int (1 : Int32))] [])) _
      refine XS.iconst X6.here hx rfl (hb hby at_33) ?_
      show Steps p.tables e below (T6.setTop (mkF m 34 #[.val (.int p0), .val (.int ((p0 &&& (2147483647 : Int32)) % (13 : Int32))), .val (.ref r1), .val (.int (1 : Int32))] [(.int (1 : Int32))])) _
      refine XS.goto X6.here hx rfl (pc0 := 34) (pc' := 38) rfl (hb hby at_34) (by decide) (by decide) ?_
      show Steps p.tables e below (T6.setTop (mkF m 38 #[.val (.int p0), .val (.int ((p0 &&& (2147483647 : Int32)) % (13 : Int32))), .val (.ref r1), .val (.int (1 : Int32))] [(.int (1 : Int32))])) _
      exact retN X6 hx (t := .boolean) Bd.returns (by simp) (hb hby at_38) hr
    · show Qp (some (.int (1 : Int32))) h0 n0 _ T6.heap _
      rw [e6]
      exact ⟨rfl, N6, rfl⟩

set_option maxRecDepth 65536 in
set_option maxHeartbeats 40000000 in
theorem comes_1 {Post : Tables → Env → Array Value → State → Outcome → State → Prop} (hpost : ∀ tb e args s v u, (limb_1_1.after args s (.returned v) u = true ∧ limb_1_2.after args s (.returned v) u = true ∧ True) → FrameEnd s (.returned v) u (Jvm.fieldLocs frame_1_writes args s ++ Jvm.arrayLocs frame_1_arrays args s ++ Jvm.staticLocs frame_1_statics s) 0 0 → Post tb e args s (.returned v) u) :
    ArmFor flags0 classFile x code maxLocals ret World_1 tables_1 room_1 Calls_1 rest_1 Pre_1 Post := by
  intro l hfl _ _ p e ha hc hk s m args below hf hA hF happ hP
  obtain ⟨hcalls, hrest, hpre⟩ := hP
  obtain ⟨-, -, -, hnamed, -, -, -, hat⟩ := (Spec.applies_iff hf).mp happ
  obtain ⟨hg, hn⟩ := and_e (Cond.before_iff.mp (show (Jvm.Cond.and given_1 narrow_1).before args s = true from hpre))
  obtain ⟨g0, hg⟩ := and_e hg
  obtain ⟨w0, rfl⟩ : ∃ w0 : Value, args = #[w0] := by
    have hs : args.size = 1 := by simpa [Cond.value, given_1] using g0
    obtain ⟨L⟩ := args
    match L, hs with
    | [w0], _ => exact ⟨w0, rfl⟩
  have hw := fun d (hd : d ∈ tables_1) => atoms_spec (ws := Jvm.Cond.code x code maxLocals ret :: tables_1) hat d (List.mem_cons_of_mem _ hd)
  obtain ⟨i0, ei0⟩ := is_v hg
  obtain rfl : w0 = (.int i0) := Option.some.inj ei0
  obtain ⟨c0, hn⟩ := and_e hn
  obtain ⟨c1, hn⟩ := and_e hn
  obtain ⟨c2, hn⟩ := and_e hn
  obtain ⟨c3, hn⟩ := and_e hn
  obtain ⟨c4, hn⟩ := and_e hn
  obtain ⟨c5, hn⟩ := and_e hn
  obtain ⟨c6, hn⟩ := and_e hn
  obtain ⟨c7, hn⟩ := and_e hn
  obtain ⟨c8, hn⟩ := and_e hn
  obtain ⟨c9, hn⟩ := and_e hn
  obtain ⟨c10, hn⟩ := and_e hn
  obtain ⟨c11, hn⟩ := and_e hn
  obtain ⟨c12, hn⟩ := and_e hn
  obtain ⟨c13, hn⟩ := and_e hn
  obtain ⟨c14, hn⟩ := and_e hn
  obtain ⟨c15, hn⟩ := and_e hn
  obtain ⟨c16, hn⟩ := and_e hn
  obtain ⟨c17, hn⟩ := and_e hn
  obtain ⟨c18, hn⟩ := and_e hn
  obtain ⟨c19, hn⟩ := and_e hn
  obtain ⟨c20, hn⟩ := and_e hn
  obtain ⟨c21, hn⟩ := and_e hn
  obtain ⟨c22, hn⟩ := and_e hn
  obtain ⟨c23, hn⟩ := and_e hn
  obtain ⟨c24, hn⟩ := and_e hn
  have c25 := hn
  obtain ⟨w_ORIGINAL, ev_ORIGINAL⟩ := exa_v c0
  have S_ORIGINAL := Sta.start ev_ORIGINAL (Or.inr ⟨(hw _ (List.mem_of_getElem? (i := 6) rfl)), (hw _ (List.mem_of_getElem? (i := 7) rfl))⟩)
  have E_ORIGINAL := Exa.start ev_ORIGINAL c0
  obtain ⟨w_FEEDBACK, ev_FEEDBACK⟩ := exa_v c1
  have S_FEEDBACK := Sta.start ev_FEEDBACK (Or.inr ⟨(hw _ (List.mem_of_getElem? (i := 6) rfl)), (hw _ (List.mem_of_getElem? (i := 14) rfl))⟩)
  have E_FEEDBACK := Exa.start ev_FEEDBACK c1
  obtain ⟨w_CENTROID, ev_CENTROID⟩ := exa_v c4
  have S_CENTROID := Sta.start ev_CENTROID (Or.inr ⟨(hw _ (List.mem_of_getElem? (i := 6) rfl)), (hw _ (List.mem_of_getElem? (i := 16) rfl))⟩)
  have E_CENTROID := Exa.start ev_CENTROID c4
  obtain ⟨w_HYPERNYM, ev_HYPERNYM⟩ := exa_v c6
  have S_HYPERNYM := Sta.start ev_HYPERNYM (Or.inr ⟨(hw _ (List.mem_of_getElem? (i := 6) rfl)), (hw _ (List.mem_of_getElem? (i := 18) rfl))⟩)
  have E_HYPERNYM := Exa.start ev_HYPERNYM c6
  obtain ⟨w_SUBSTANCE_MERONYM, ev_SUBSTANCE_MERONYM⟩ := exa_v c8
  have S_SUBSTANCE_MERONYM := Sta.start ev_SUBSTANCE_MERONYM (Or.inr ⟨(hw _ (List.mem_of_getElem? (i := 6) rfl)), (hw _ (List.mem_of_getElem? (i := 20) rfl))⟩)
  have E_SUBSTANCE_MERONYM := Exa.start ev_SUBSTANCE_MERONYM c8
  obtain ⟨w_MEMBER_MERONYM, ev_MEMBER_MERONYM⟩ := exa_v c10
  have S_MEMBER_MERONYM := Sta.start ev_MEMBER_MERONYM (Or.inr ⟨(hw _ (List.mem_of_getElem? (i := 6) rfl)), (hw _ (List.mem_of_getElem? (i := 22) rfl))⟩)
  have E_MEMBER_MERONYM := Exa.start ev_MEMBER_MERONYM c10
  obtain ⟨w_PART_MERONYM, ev_PART_MERONYM⟩ := exa_v c12
  have S_PART_MERONYM := Sta.start ev_PART_MERONYM (Or.inr ⟨(hw _ (List.mem_of_getElem? (i := 6) rfl)), (hw _ (List.mem_of_getElem? (i := 24) rfl))⟩)
  have E_PART_MERONYM := Exa.start ev_PART_MERONYM c12
  obtain ⟨w_SUBSTANCE_HOLONYM, ev_SUBSTANCE_HOLONYM⟩ := exa_v c14
  have S_SUBSTANCE_HOLONYM := Sta.start ev_SUBSTANCE_HOLONYM (Or.inr ⟨(hw _ (List.mem_of_getElem? (i := 6) rfl)), (hw _ (List.mem_of_getElem? (i := 26) rfl))⟩)
  have E_SUBSTANCE_HOLONYM := Exa.start ev_SUBSTANCE_HOLONYM c14
  obtain ⟨w_ANTONYM, ev_ANTONYM⟩ := exa_v c16
  have S_ANTONYM := Sta.start ev_ANTONYM (Or.inr ⟨(hw _ (List.mem_of_getElem? (i := 6) rfl)), (hw _ (List.mem_of_getElem? (i := 28) rfl))⟩)
  have E_ANTONYM := Exa.start ev_ANTONYM c16
  obtain ⟨w_SYNONYM, ev_SYNONYM⟩ := exa_v c18
  have S_SYNONYM := Sta.start ev_SYNONYM (Or.inr ⟨(hw _ (List.mem_of_getElem? (i := 6) rfl)), (hw _ (List.mem_of_getElem? (i := 31) rfl))⟩)
  have E_SYNONYM := Exa.start ev_SYNONYM c18
  obtain ⟨w_MEMBER_HOLONYM, ev_MEMBER_HOLONYM⟩ := exa_v c20
  have S_MEMBER_HOLONYM := Sta.start ev_MEMBER_HOLONYM (Or.inr ⟨(hw _ (List.mem_of_getElem? (i := 6) rfl)), (hw _ (List.mem_of_getElem? (i := 33) rfl))⟩)
  have E_MEMBER_HOLONYM := Exa.start ev_MEMBER_HOLONYM c20
  obtain ⟨w_PART_HOLONYM, ev_PART_HOLONYM⟩ := exa_v c22
  have S_PART_HOLONYM := Sta.start ev_PART_HOLONYM (Or.inr ⟨(hw _ (List.mem_of_getElem? (i := 6) rfl)), (hw _ (List.mem_of_getElem? (i := 35) rfl))⟩)
  have E_PART_HOLONYM := Exa.start ev_PART_HOLONYM c22
  obtain ⟨w_HYPONYM, ev_HYPONYM⟩ := exa_v c24
  have S_HYPONYM := Sta.start ev_HYPONYM (Or.inr ⟨(hw _ (List.mem_of_getElem? (i := 6) rfl)), (hw _ (List.mem_of_getElem? (i := 38) rfl))⟩)
  have E_HYPONYM := Exa.start ev_HYPONYM c24
  have F_ordinal_ORIGINAL := own_fld ev_ORIGINAL c2
  have F_ordinal_FEEDBACK := own_fld ev_FEEDBACK c3
  have F_ordinal_CENTROID := own_fld ev_CENTROID c5
  have F_ordinal_HYPERNYM := own_fld ev_HYPERNYM c7
  have F_ordinal_SUBSTANCE_MERONYM := own_fld ev_SUBSTANCE_MERONYM c9
  have F_ordinal_MEMBER_MERONYM := own_fld ev_MEMBER_MERONYM c11
  have F_ordinal_PART_MERONYM := own_fld ev_PART_MERONYM c13
  have F_ordinal_SUBSTANCE_HOLONYM := own_fld ev_SUBSTANCE_HOLONYM c15
  have F_ordinal_ANTONYM := own_fld ev_ANTONYM c17
  have F_ordinal_SYNONYM := own_fld ev_SYNONYM c19
  have F_ordinal_MEMBER_HOLONYM := own_fld ev_MEMBER_HOLONYM c21
  have F_ordinal_PART_HOLONYM := own_fld ev_PART_HOLONYM c23
  have F_ordinal_HYPONYM := own_fld ev_HYPONYM c25
  have F : Fx s s.heap w_ORIGINAL w_FEEDBACK w_CENTROID w_HYPERNYM w_SUBSTANCE_MERONYM w_MEMBER_MERONYM w_PART_MERONYM w_SUBSTANCE_HOLONYM w_ANTONYM w_SYNONYM w_MEMBER_HOLONYM w_PART_HOLONYM w_HYPONYM := ⟨S_ORIGINAL, E_ORIGINAL, S_FEEDBACK, E_FEEDBACK, F_ordinal_ORIGINAL, F_ordinal_FEEDBACK, S_CENTROID, E_CENTROID, F_ordinal_CENTROID, S_HYPERNYM, E_HYPERNYM, F_ordinal_HYPERNYM, S_SUBSTANCE_MERONYM, E_SUBSTANCE_MERONYM, F_ordinal_SUBSTANCE_MERONYM, S_MEMBER_MERONYM, E_MEMBER_MERONYM, F_ordinal_MEMBER_MERONYM, S_PART_MERONYM, E_PART_MERONYM, F_ordinal_PART_MERONYM, S_SUBSTANCE_HOLONYM, E_SUBSTANCE_HOLONYM, F_ordinal_SUBSTANCE_HOLONYM, S_ANTONYM, E_ANTONYM, F_ordinal_ANTONYM, S_SYNONYM, E_SYNONYM, F_ordinal_SYNONYM, S_MEMBER_HOLONYM, E_MEMBER_HOLONYM, F_ordinal_MEMBER_HOLONYM, S_PART_HOLONYM, E_PART_HOLONYM, F_ordinal_PART_HOLONYM, S_HYPONYM, E_HYPONYM, F_ordinal_HYPONYM⟩

  obtain ⟨n, o, h1, h2, h3, _, L, rfl, ⟨rfl, N, -⟩, hq⟩ := rm0 l s _ hw tables_1 i0 w_ORIGINAL w_FEEDBACK w_CENTROID w_HYPERNYM w_SUBSTANCE_MERONYM w_MEMBER_MERONYM w_PART_MERONYM w_SUBSTANCE_HOLONYM w_ANTONYM w_SYNONYM w_MEMBER_HOLONYM w_PART_HOLONYM w_HYPONYM s.heap s.heap.size (Nat.le_refl _) F  p e ha hc hk s m _ below hf ((Spec.applies_iff_loose hf).mp happ).1 ⟨rfl, State.Warmed39.refl s, rfl⟩ trivial
  refine ⟨n, _, h1, h2, h3, hpost _ _ _ _ _ _ ⟨Cond.after_iff.mpr rfl, Cond.after_iff.mpr (eq_i res_at (Term.int_eval (1)) rfl), trivial⟩ ⟨hq.1, hq.2.1, (hq.2.2.sift fun y hy => Or.inr (N y hy)).mono (by decide) (by decide)⟩⟩
theorem main_1_1 : Claimed_1_1 := comes_1 fun _ _ _ _ _ _ h hF => ⟨h.1, hF⟩
theorem main_1_2 : Claimed_1_2 := comes_1 fun _ _ _ _ _ _ h hF => ⟨h.2.1, hF⟩
end Jvm.Pilot.@@N@@
namespace Jvm.Pilot.@@N@@
open Jvm Jvm.ClassFile Sem Op Lib Jvm.Free Jvm.Stand Jvm.Pilot.@@N@@.Jvm.D
/-! MADE BY PROGRAM (witnessworld.py) out of the Statement's table words and the real class files: 12 classes; the members and pool entries that the words name. The judged class is class 1, her method 2. -/
namespace start1
open Jvm.ClassFile
def u (s : String) : CpInfo := .utf8 (stringToUtf16 s)
/-- a pool by its gaps: so many unusable entries, then the entry; so many at the end -/
def gap : Nat → List CpInfo → List CpInfo
  | 0, r => r
  | n + 1, r => .unusable :: gap n r
def poolList (es : List (Nat × CpInfo)) (last : Nat) : List CpInfo := es.foldr (fun e r => gap e.1 (e.2 :: r)) (gap last [])
def pool (es : List (Nat × CpInfo)) (last : Nat) : Array CpInfo := ⟨poolList es last⟩
def fileOf (pool : Array CpInfo) (this : Nat) (attrs : Array Attribute := #[]) (ms : Array MethodInfo := #[]) (fl : Nat := 33) (sup : Nat := 0) (ifs : Array Nat := #[]) (fds : Array FieldInfo := #[]) : ClassFile where
  minorVersion := 0
  majorVersion := 65
  constantPool := pool
  accessFlags := fl
  thisClass := this
  superClass := sup
  interfaces := ifs
  fields := fds
  methods := ms
  attributes := attrs
def plain (name : String) (sup : Option ClassId) : Class where
  name := name
  kind := .ordinary
  loader := none
  accessFlags := 33
  super := sup
  interfaces := #[]
  cf := none
  fields := #[]
  methods := #[]
  instanceTypes := #[]
  staticTypes := #[]
  resolved := #[]
  callSites := []
  init := .initialized
  statics := none
  mirror := none

def pool0 : Array CpInfo := pool [(5, u "<init>"), (0, u "()V"), (1, .class_ 10), (1, u "java/lang/Object")] 113

def k0m0 : Method := { name := "<init>", desc := "()V", sig := { parameters := [], returnType := none }, accessFlags := 1, code := none }
/-- java/lang/Object -/
def k0 : Class := { plain "java/lang/Object" none with
  accessFlags := 33
  interfaces := #[]
  cf := some (fileOf pool0 8 #[] #[{ accessFlags := 1, nameIndex := 5, descriptorIndex := 6, attributes := #[] }] 33 0 #[] #[])
  fields := #[]
  methods := #[k0m0]
  instanceTypes := #[]
  staticTypes := #[]
  resolved := Array.replicate 124 none
  statics := none }

def pool1 : Array CpInfo := pool [(2, .class_ 4), (1, u "java/lang/Object"), (0, u "<init>"), (0, u "()V"), (0, .fieldref 8 9), (0, .class_ 10), (0, .nameAndType 11 12), (0, u "com/example/hydrangea/hydrangea/expansion/Subvector"), (0, u "ORIGINAL"), (0, u "Lcom/example/hydrangea/hydrangea/expansion/Subvector;"), (0, .fieldref 8 14), (0, .nameAndType 15 12), (0, u "SYNONYM"), (0, .fieldref 8 17), (0, .nameAndType 18 12), (0, u "ANTONYM"), (0, .fieldref 8 20), (0, .nameAndType 21 12), (0, u "HYPERNYM"), (0, .fieldref 8 23), (0, .nameAndType 24 12), (0, u "HYPONYM"), (0, .fieldref 8 26), (0, .nameAndType 27 12), (0, u "MEMBER_MERONYM"), (0, .fieldref 8 29), (0, .nameAndType 30 12), (0, u "SUBSTANCE_MERONYM"), (0, .fieldref 8 32), (0, .nameAndType 33 12), (0, u "PART_MERONYM"), (0, .fieldref 8 35), (0, .nameAndType 36 12), (0, u "MEMBER_HOLONYM"), (0, .fieldref 8 38), (0, .nameAndType 39 12), (0, u "SUBSTANCE_HOLONYM"), (0, .fieldref 8 41), (0, .nameAndType 42 12), (0, u "PART_HOLONYM"), (0, .fieldref 8 44), (0, .nameAndType 45 12), (0, u "FEEDBACK"), (0, .fieldref 8 47), (0, .nameAndType 48 12), (0, u "CENTROID"), (0, .integer 2147483647), (0, .methodref 51 52), (0, .class_ 53), (0, .nameAndType 54 55), (0, u "com/example/hydrangea/hydrangea/expansion/SubvectorIsWeighedByDocumentsPinLaw"), (0, u "pick"), (0, u "(I)Lcom/example/hydrangea/hydrangea/expansion/Subvector;"), (0, .methodref 8 57), (0, .nameAndType 58 59), (0, u "isWeighedByDocuments"), (0, u "()Z"), (3, u "law"), (0, u "(I)Z")] 2

def k1m0 : Method := { name := "<init>", desc := "()V", sig := { parameters := [], returnType := none }, accessFlags := 2, code := none }
def k1c1 : Code := { maxStack := 2, maxLocals := 1, code := method_2_code, exceptionTable := #[], attributes := #[] }
def k1m1 : Method := { name := "pick", desc := "(I)Lcom/example/hydrangea/hydrangea/expansion/Subvector;", sig := { parameters := [.int], returnType := some (.object "com/example/hydrangea/hydrangea/expansion/Subvector") }, accessFlags := 10, code := some k1c1 }
def k1c2 : Code := { maxStack := 2, maxLocals := 4, code := code, exceptionTable := #[], attributes := #[] }
def k1m2 : Method := { name := "law", desc := "(I)Z", sig := { parameters := [.int], returnType := some .boolean }, accessFlags := 9, code := some k1c2 }
/-- com/example/hydrangea/hydrangea/expansion/SubvectorIsWeighedByDocumentsPinLaw -/
def k1 : Class := { plain "com/example/hydrangea/hydrangea/expansion/SubvectorIsWeighedByDocumentsPinLaw" (some 0) with
  accessFlags := 49
  interfaces := #[]
  cf := some (fileOf pool1 51 #[] #[{ accessFlags := 2, nameIndex := 5, descriptorIndex := 6, attributes := #[] }, { accessFlags := 10, nameIndex := 54, descriptorIndex := 55, attributes := #[] }, { accessFlags := 9, nameIndex := 63, descriptorIndex := 64, attributes := #[] }] 49 2 #[] #[])
  fields := #[]
  methods := #[k1m0, k1m1, k1m2]
  instanceTypes := #[]
  staticTypes := #[]
  resolved := Array.replicate 67 none
  statics := none }

def pool2 : Array CpInfo := pool [(1, .class_ 2), (0, u "java/lang/constant/Constable"), (0, .class_ 4), (0, u "java/lang/Object")] 6

/-- java/lang/constant/Constable -/
def k2 : Class := { plain "java/lang/constant/Constable" (some 0) with
  accessFlags := 1537
  interfaces := #[]
  cf := some (fileOf pool2 1 #[] #[] 1537 3 #[] #[])
  fields := #[]
  methods := #[]
  instanceTypes := #[]
  staticTypes := #[]
  resolved := Array.replicate 11 none
  statics := none }

def pool3 : Array CpInfo := pool [(1, .class_ 2), (0, u "java/lang/Comparable"), (0, .class_ 4), (0, u "java/lang/Object")] 7

/-- java/lang/Comparable -/
def k3 : Class := { plain "java/lang/Comparable" (some 0) with
  accessFlags := 1537
  interfaces := #[]
  cf := some (fileOf pool3 1 #[] #[] 1537 3 #[] #[])
  fields := #[]
  methods := #[]
  instanceTypes := #[]
  staticTypes := #[]
  resolved := Array.replicate 12 none
  statics := none }

def pool4 : Array CpInfo := pool [(1, .class_ 2), (0, u "java/io/Serializable"), (0, .class_ 4), (0, u "java/lang/Object")] 2

/-- java/io/Serializable -/
def k4 : Class := { plain "java/io/Serializable" (some 0) with
  accessFlags := 1537
  interfaces := #[]
  cf := some (fileOf pool4 1 #[] #[] 1537 3 #[] #[])
  fields := #[]
  methods := #[]
  instanceTypes := #[]
  staticTypes := #[]
  resolved := Array.replicate 7 none
  statics := none }

def pool5 : Array CpInfo := pool [(2, .class_ 4), (1, u "java/lang/Enum"), (0, u "name"), (0, u "Ljava/lang/String;"), (2, u "ordinal"), (0, u "I"), (1, .class_ 14), (1, u "java/lang/Object"), (4, u "hash"), (86, .class_ 108), (1, u "java/lang/Enum$EnumDesc"), (2, .class_ 112), (0, u "java/lang/constant/Constable"), (0, .class_ 114), (0, u "java/lang/Comparable"), (0, .class_ 116), (0, u "java/io/Serializable")] 87

/-- java/lang/Enum -/
def k5 : Class := { plain "java/lang/Enum" (some 0) with
  accessFlags := 1057
  interfaces := #[2, 3, 4]
  cf := some (fileOf pool5 2 #[.nestMembers #[106]] #[] 1057 12 #[111, 113, 115] #[{ accessFlags := 18, nameIndex := 5, descriptorIndex := 6, attributes := #[] }, { accessFlags := 18, nameIndex := 9, descriptorIndex := 10, attributes := #[] }, { accessFlags := 2, nameIndex := 19, descriptorIndex := 10, attributes := #[] }])
  fields := #[{ name := "name", type := (.object "java/lang/String"), accessFlags := 18, slot := 0, constantValue := 0 }, { name := "ordinal", type := .int, accessFlags := 18, slot := 1, constantValue := 0 }, { name := "hash", type := .int, accessFlags := 2, slot := 2, constantValue := 0 }]
  methods := #[]
  instanceTypes := #[(.object "java/lang/String"), .int, .int]
  staticTypes := #[]
  resolved := Array.replicate 204 none
  statics := none }

def pool6 : Array CpInfo := pool [(1, .class_ 2), (0, u "com/example/hydrangea/hydrangea/expansion/Subvector"), (2, u "ORIGINAL"), (0, u "Lcom/example/hydrangea/hydrangea/expansion/Subvector;"), (2, u "SYNONYM"), (2, u "ANTONYM"), (2, u "HYPERNYM"), (2, u "HYPONYM"), (2, u "MEMBER_MERONYM"), (2, u "SUBSTANCE_MERONYM"), (2, u "PART_MERONYM"), (2, u "MEMBER_HOLONYM"), (2, u "SUBSTANCE_HOLONYM"), (2, u "PART_HOLONYM"), (0, .fieldref 1 38), (0, .nameAndType 39 6), (0, u "FEEDBACK"), (0, .fieldref 1 41), (0, .nameAndType 42 6), (0, u "CENTROID"), (2, u "$VALUES"), (0, u "[Lcom/example/hydrangea/hydrangea/expansion/Subvector;"), (6, .class_ 55), (1, u "java/lang/Enum"), (14, u "symbols"), (0, u "Ljava/util/Set;"), (29, u "()Z"), (82, u "isWeighedByDocuments")] 29

def k6c0 : Code := { maxStack := 2, maxLocals := 1, code := prog_20_method_7_code, exceptionTable := #[], attributes := #[] }
def k6m0 : Method := { name := "isWeighedByDocuments", desc := "()Z", sig := { parameters := [], returnType := some .boolean }, accessFlags := 1, code := some k6c0 }
/-- com/example/hydrangea/hydrangea/expansion/Subvector -/
def k6 : Class := { plain "com/example/hydrangea/hydrangea/expansion/Subvector" (some 5) with
  accessFlags := 16433
  interfaces := #[]
  cf := some (fileOf pool6 1 #[] #[{ accessFlags := 1, nameIndex := 184, descriptorIndex := 101, attributes := #[] }] 16433 53 #[] #[{ accessFlags := 16409, nameIndex := 5, descriptorIndex := 6, attributes := #[] }, { accessFlags := 16409, nameIndex := 9, descriptorIndex := 6, attributes := #[] }, { accessFlags := 16409, nameIndex := 12, descriptorIndex := 6, attributes := #[] }, { accessFlags := 16409, nameIndex := 15, descriptorIndex := 6, attributes := #[] }, { accessFlags := 16409, nameIndex := 18, descriptorIndex := 6, attributes := #[] }, { accessFlags := 16409, nameIndex := 21, descriptorIndex := 6, attributes := #[] }, { accessFlags := 16409, nameIndex := 24, descriptorIndex := 6, attributes := #[] }, { accessFlags := 16409, nameIndex := 27, descriptorIndex := 6, attributes := #[] }, { accessFlags := 16409, nameIndex := 30, descriptorIndex := 6, attributes := #[] }, { accessFlags := 16409, nameIndex := 33, descriptorIndex := 6, attributes := #[] }, { accessFlags := 16409, nameIndex := 36, descriptorIndex := 6, attributes := #[] }, { accessFlags := 16409, nameIndex := 39, descriptorIndex := 6, attributes := #[] }, { accessFlags := 16409, nameIndex := 42, descriptorIndex := 6, attributes := #[] }, { accessFlags := 18, nameIndex := 70, descriptorIndex := 71, attributes := #[] }, { accessFlags := 4122, nameIndex := 45, descriptorIndex := 46, attributes := #[] }])
  fields := #[{ name := "ORIGINAL", type := (.object "com/example/hydrangea/hydrangea/expansion/Subvector"), accessFlags := 16409, slot := 0, constantValue := 0 }, { name := "SYNONYM", type := (.object "com/example/hydrangea/hydrangea/expansion/Subvector"), accessFlags := 16409, slot := 1, constantValue := 0 }, { name := "ANTONYM", type := (.object "com/example/hydrangea/hydrangea/expansion/Subvector"), accessFlags := 16409, slot := 2, constantValue := 0 }, { name := "HYPERNYM", type := (.object "com/example/hydrangea/hydrangea/expansion/Subvector"), accessFlags := 16409, slot := 3, constantValue := 0 }, { name := "HYPONYM", type := (.object "com/example/hydrangea/hydrangea/expansion/Subvector"), accessFlags := 16409, slot := 4, constantValue := 0 }, { name := "MEMBER_MERONYM", type := (.object "com/example/hydrangea/hydrangea/expansion/Subvector"), accessFlags := 16409, slot := 5, constantValue := 0 }, { name := "SUBSTANCE_MERONYM", type := (.object "com/example/hydrangea/hydrangea/expansion/Subvector"), accessFlags := 16409, slot := 6, constantValue := 0 }, { name := "PART_MERONYM", type := (.object "com/example/hydrangea/hydrangea/expansion/Subvector"), accessFlags := 16409, slot := 7, constantValue := 0 }, { name := "MEMBER_HOLONYM", type := (.object "com/example/hydrangea/hydrangea/expansion/Subvector"), accessFlags := 16409, slot := 8, constantValue := 0 }, { name := "SUBSTANCE_HOLONYM", type := (.object "com/example/hydrangea/hydrangea/expansion/Subvector"), accessFlags := 16409, slot := 9, constantValue := 0 }, { name := "PART_HOLONYM", type := (.object "com/example/hydrangea/hydrangea/expansion/Subvector"), accessFlags := 16409, slot := 10, constantValue := 0 }, { name := "FEEDBACK", type := (.object "com/example/hydrangea/hydrangea/expansion/Subvector"), accessFlags := 16409, slot := 11, constantValue := 0 }, { name := "CENTROID", type := (.object "com/example/hydrangea/hydrangea/expansion/Subvector"), accessFlags := 16409, slot := 12, constantValue := 0 }, { name := "symbols", type := (.object "java/util/Set"), accessFlags := 18, slot := 3, constantValue := 0 }, { name := "$VALUES", type := (.array (.object "com/example/hydrangea/hydrangea/expansion/Subvector")), accessFlags := 4122, slot := 13, constantValue := 0 }]
  methods := #[k6m0]
  instanceTypes := #[(.object "java/lang/String"), .int, .int, (.object "java/util/Set")]
  staticTypes := #[(.object "com/example/hydrangea/hydrangea/expansion/Subvector"), (.object "com/example/hydrangea/hydrangea/expansion/Subvector"), (.object "com/example/hydrangea/hydrangea/expansion/Subvector"), (.object "com/example/hydrangea/hydrangea/expansion/Subvector"), (.object "com/example/hydrangea/hydrangea/expansion/Subvector"), (.object "com/example/hydrangea/hydrangea/expansion/Subvector"), (.object "com/example/hydrangea/hydrangea/expansion/Subvector"), (.object "com/example/hydrangea/hydrangea/expansion/Subvector"), (.object "com/example/hydrangea/hydrangea/expansion/Subvector"), (.object "com/example/hydrangea/hydrangea/expansion/Subvector"), (.object "com/example/hydrangea/hydrangea/expansion/Subvector"), (.object "com/example/hydrangea/hydrangea/expansion/Subvector"), (.object "com/example/hydrangea/hydrangea/expansion/Subvector"), (.array (.object "com/example/hydrangea/hydrangea/expansion/Subvector"))]
  resolved := Array.replicate 214 none
  statics := some 0 }

def pool7 : Array CpInfo := pool [(1, u "java/lang/Cloneable"), (0, .class_ 1), (0, u "java/lang/Object"), (0, .class_ 3)] 3

/-- java/lang/Cloneable -/
def k7 : Class := { plain "java/lang/Cloneable" (some 0) with
  accessFlags := 1537
  interfaces := #[]
  cf := some (fileOf pool7 2 #[] #[] 1537 4 #[] #[])
  fields := #[]
  methods := #[]
  instanceTypes := #[]
  staticTypes := #[]
  resolved := Array.replicate 8 none
  statics := none }

/-- the primitive byte -/
def k8 : Class := { plain "byte" none with kind := .primitive 'B', accessFlags := 0x411 }
/-- [B -/
def k9 : Class := { plain "[B" (some 0) with kind := .array 8 .byte, interfaces := #[7, 4], accessFlags := 1041 }

/-- the primitive int -/
def k10 : Class := { plain "int" none with kind := .primitive 'I', accessFlags := 0x411 }
/-- [I -/
def k11 : Class := { plain "[I" (some 0) with kind := .array 10 .int, interfaces := #[7, 4], accessFlags := 1041 }

def heap : Heap := #[{ cls := 6, slots := #[.ref 1, .ref 10, .ref 9, .ref 4, .ref 13, .ref 6, .ref 5, .ref 7, .ref 11, .ref 8, .ref 12, .ref 2, .ref 3, .null], vm := .statics 6 },
  { cls := 6, slots := #[.null, .int 0, .int 0, .null], vm := .none },
  { cls := 6, slots := #[.null, .int 11, .int 0, .null], vm := .none },
  { cls := 6, slots := #[.null, .int 12, .int 0, .null], vm := .none },
  { cls := 6, slots := #[.null, .int 3, .int 0, .null], vm := .none },
  { cls := 6, slots := #[.null, .int 6, .int 0, .null], vm := .none },
  { cls := 6, slots := #[.null, .int 5, .int 0, .null], vm := .none },
  { cls := 6, slots := #[.null, .int 7, .int 0, .null], vm := .none },
  { cls := 6, slots := #[.null, .int 9, .int 0, .null], vm := .none },
  { cls := 6, slots := #[.null, .int 2, .int 0, .null], vm := .none },
  { cls := 6, slots := #[.null, .int 1, .int 0, .null], vm := .none },
  { cls := 6, slots := #[.null, .int 8, .int 0, .null], vm := .none },
  { cls := 6, slots := #[.null, .int 10, .int 0, .null], vm := .none },
  { cls := 6, slots := #[.null, .int 4, .int 0, .null], vm := .none }]
def classes : Array Class := #[k0, k1, k2, k3, k4, k5, k6, k7, k8, k9, k10, k11]
def interned : List (Array UInt16 × Addr) := []
def slotsUsed : Nat := 66
def theMethod : MethodId := ⟨1, 2⟩
def args0 : Array Value := #[.int 5]
def aboutOver (below : List Frame) : State where
  vm := { classes := classes, interned := interned.toArray }
  heap := heap
  slotsUsed := slotsUsed
  threads := #[{ frames := .invoking theMethod args0 :: below }]
def below0 : List Frame := [.native { method := ⟨0, 0⟩, args := #[] }]
def about1 : State := aboutOver below0
def p0 : Program := .bare "" "" ""
def e0 : Env := launch0.env 0 0 0
theorem w_frames : about1.frames = Frame.invoking theMethod args0 :: below0 := rfl
set_option maxRecDepth 65536 in
theorem w_args : argsFit about1.vm theMethod args0 = true := by decide +kernel
set_option maxRecDepth 65536 in
theorem w_heap : heapFits about1 = true := by decide +kernel
set_option maxRecDepth 65536 in
theorem w_runnable : about1.curStatus? = some .runnable := by decide +kernel
set_option maxRecDepth 65536 in
theorem w_alone : about1.alone = true := by decide +kernel
set_option maxRecDepth 65536 in
theorem w_named : about1.methodNamed? x = some theMethod := by decide +kernel
set_option maxRecDepth 65536 in
theorem w_hears : about1.hears theMethod below0 = true := by decide +kernel
set_option maxRecDepth 65536 in
theorem w_ripe : about1.ripe theMethod args0 below0 = true := by decide +kernel
theorem w_running : about1.status = .running := rfl
set_option maxRecDepth 65536 in
theorem w_room : about1.hasRoom e0.platform room_1 = true :=
  launch0.hasRoom_least _ room_1 (by decide +kernel) (by decide +kernel) (by decide +kernel) (by decide +kernel) (by decide +kernel) (by decide +kernel)
theorem allAtoms_all (ts : List Jvm.Cond) (a : Array Jvm.Value) (st : Jvm.State) : (allAtoms ts).before a st = ts.all (fun c => c.before a st) := by
  induction ts with
  | nil => rfl
  | cons c t ih =>
    show (Jvm.Cond.and c (allAtoms t)).before a st = _
    rw [Jvm.Cond.before_and, ih, List.all_cons]
def words1 : List Jvm.Cond := Jvm.Cond.code x code maxLocals ret :: tables_1
/-- a 'code' word, met by the world's own term for the bytes: nothing is compared byte by byte -/
theorem code_word {y : MethodName} {bytes : ByteArray} {mx : Nat} {rt : Option FieldType} {a : Array Value} {s : State} {m : MethodId} {meth : Method} {c : Code} (h1 : s.methodNamed? y = some m) (h2 : s.vm.method? m = some meth) (h3 : meth.code = some c) (h4 : c.code = bytes)
    (h5 : (c.maxLocals == mx && c.exceptionTable.isEmpty && decide (c.maxStack ≤ mostOperands) && decide (meth.sig.returnType = rt) && !meth.locks && decide (parseMethodDescriptor y.desc = some meth.sig)) = true) : (Jvm.Cond.code y bytes mx rt).before a s = true := by
  simp only [Bool.and_eq_true, beq_iff_eq, Bool.not_eq_true', decide_eq_true_eq] at h5
  obtain ⟨⟨⟨⟨⟨g1, g2⟩, g3⟩, g4⟩, g5⟩, g6⟩ := h5
  simp [Cond.before, Cond.holds, Cond.value, h1, h2, h3, h4, g1, g2, g3, g4, g5, g6]
def isCode : Jvm.Cond → Bool
  | .code _ _ _ _ => true
  | _ => false
theorem all_split {L : List Jvm.Cond} {P : Jvm.Cond → Bool} (h1 : L.all (fun c => isCode c || P c) = true) (h2 : ∀ c ∈ L.filter isCode, P c = true) : L.all P = true := by
  refine List.all_eq_true.mpr fun c hc => ?_
  have h := List.all_eq_true.mp h1 c hc
  rcases Bool.eq_false_or_eq_true (isCode c) with hi | hi
  · exact h2 c (List.mem_filter.mpr ⟨hc, hi⟩)
  · simpa [hi] using h
set_option maxRecDepth 65536 in
theorem w_c0 : (Jvm.Cond.code x code maxLocals ret).before args0 about1 = true := code_word (m := ⟨1, 2⟩) (meth := k1m2) (c := k1c2) (by decide +kernel) rfl rfl rfl (by decide +kernel)
set_option maxRecDepth 65536 in
theorem w_c1 : (Jvm.Cond.code ({ cls := "com/example/hydrangea/hydrangea/expansion/SubvectorIsWeighedByDocumentsPinLaw", name := "pick", desc := "(I)Lcom/example/hydrangea/hydrangea/expansion/Subvector;" } : Jvm.MethodName) method_2_code (1 : Nat) (Option.some (Jvm.ClassFile.FieldType.object "com/example/hydrangea/hydrangea/expansion/Subvector"))).before args0 about1 = true := code_word (m := ⟨1, 1⟩) (meth := k1m1) (c := k1c1) (by decide +kernel) rfl rfl rfl (by decide +kernel)
set_option maxRecDepth 65536 in
theorem w_c2 : (Jvm.Cond.code ({ cls := "com/example/hydrangea/hydrangea/expansion/Subvector", name := "isWeighedByDocuments", desc := "()Z" } : Jvm.MethodName) prog_20_method_7_code (1 : Nat) (Option.some Jvm.ClassFile.FieldType.boolean)).before args0 about1 = true := code_word (m := ⟨6, 0⟩) (meth := k6m0) (c := k6c0) (by decide +kernel) rfl rfl rfl (by decide +kernel)
def codes1 : List Jvm.Cond := [Jvm.Cond.code x code maxLocals ret, Jvm.Cond.code ({ cls := "com/example/hydrangea/hydrangea/expansion/SubvectorIsWeighedByDocumentsPinLaw", name := "pick", desc := "(I)Lcom/example/hydrangea/hydrangea/expansion/Subvector;" } : Jvm.MethodName) method_2_code (1 : Nat) (Option.some (Jvm.ClassFile.FieldType.object "com/example/hydrangea/hydrangea/expansion/Subvector")), Jvm.Cond.code ({ cls := "com/example/hydrangea/hydrangea/expansion/Subvector", name := "isWeighedByDocuments", desc := "()Z" } : Jvm.MethodName) prog_20_method_7_code (1 : Nat) (Option.some Jvm.ClassFile.FieldType.boolean)]
set_option maxRecDepth 65536 in
theorem codes_eq : words1.filter isCode = codes1 := rfl
theorem w_codes : ∀ c ∈ words1.filter isCode, c.before args0 about1 = true := by
  rw [codes_eq]
  intro c hc
  simp only [codes1, List.mem_cons, List.not_mem_nil, or_false] at hc
  rcases hc with rfl | rfl | rfl
  · exact w_c0
  · exact w_c1
  · exact w_c2
set_option maxRecDepth 65536 in
theorem w_t1 : (words1.take 24).all (fun c => isCode c || c.before args0 about1) = true := by decide +kernel
set_option maxRecDepth 65536 in
theorem w_t2 : (words1.drop 24).all (fun c => isCode c || c.before args0 about1) = true := by decide +kernel
theorem w_tables : (allAtoms (Jvm.Cond.code x code maxLocals ret :: tables_1)).before args0 about1 = true := by
  rw [allAtoms_all]
  show words1.all (fun c => c.before args0 about1) = true
  refine all_split ?_ w_codes
  rw [← List.take_append_drop 24 words1, List.all_append, w_t1, w_t2]
  rfl
set_option maxRecDepth 65536 in
theorem w_case : (Jvm.Cond.and given_1 narrow_1).before args0 about1 = true := by decide +kernel
theorem w_applies : (headSpec (Jvm.Cond.code x code maxLocals ret :: tables_1) room_1).applies x e0.platform about1 = true :=
  (Spec.applies_iff w_frames).mpr ⟨w_running, w_runnable, w_alone, w_named, w_hears, w_ripe, w_room, w_tables⟩
theorem atStart : AtStart classFile x code maxLocals ret World_1 tables_1 room_1 Calls_1 rest_1 Pre_1 launch0 p0 e0 about1 theMethod args0 below0 :=
  ⟨lists_1, trivial, launch0.admits_env _ _ _, launch0.least_env, fairChoices_fair.cas, fairChoices_fair.clock, w_frames, w_args, w_heap, w_applies, trivial, trivial, w_case⟩
end start1
theorem witness_1 : WitnessClaimed_1 := ⟨start1.p0, start1.e0, start1.about1, start1.theMethod, start1.args0, start1.below0, start1.atStart⟩
end Jvm.Pilot.@@N@@
