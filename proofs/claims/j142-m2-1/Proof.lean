import JvmDerived
import JvmDerived.Pilot.@@N@@Statement
import JvmDerived.Pilot.@@N@@Code
set_option linter.unusedVariables false
set_option linter.unusedSimpArgs false
@@BLOCK:NumsL.lean.txt@@
namespace Jvm.RoadKit
open Sem ClassFile Op Lib Jvm.Stand Jvm.Free Jvm.LawKit
section New
variable {p : Program} {l : Launch} {e : Env} {R : Room} {s : State} {m : MethodId} {args : Array Value} {below : List Frame} {meth : Method} {c : Code} {T : State} {locs : List Loc} {cells slots : Nat}
theorem retI (X : Stand p l e R s m args below meth c T locs cells slots) (hx : p.tables.exec = Jvm.exec) {pc : Nat} {Ls : Array Slot} {z : Int32} {rest : List Value} (hret : meth.sig.returnType = some .int) (hd : decode c.code pc = .ok (.ireturn, 1)) {fs : List Frame}
    (hl : ∀ (f : JFrame) (acts : List Action), f.method = m → f.locked = none → f.entered = [] → (doReturn e (T.setTop f) acts (some (.int z))).1 = T.setFrames fs) : Steps p.tables e below (T.setTop (mkF m pc Ls (.int z :: rest))) (T.setFrames fs) := by
  have hm' : T.vm.method? m = some meth := X.method'
  have hn : narrow .int (.int z) = .int z := rfl
  show Steps p.tables e below (T.setTop { method := m, pc := pc, locals := Ls, stack := _ :: rest, locked := none }) _
  jvm_step X.here [X.here.top, hx, hd, hm', hret, hn]
  first | (intro acts; rw [hl _ acts rfl rfl rfl]) | rw [hl _ _ rfl rfl rfl]
  exact Steps.refl _
end New
end Jvm.RoadKit
namespace Jvm.Pilot.@@N@@
open Jvm Jvm.ClassFile Sem Op Lib Jvm.Free Jvm.Stand Jvm.LawKit Jvm.RoadKit Bundle Jvm.Pilot.@@N@@.Jvm.D
/-- what a body that writes nothing leaves -/
def Qp (r : Option Value) (h0 : Heap) (n0 : Nat) (v : Option Value) (h : Heap) (L : List Loc) : Prop := v = r ∧ Fr n0 L ∧ h = h0
theorem own_fld {args : Array Value} {s : State} {t : Term} {C n d : String} {x : Addr} {k : Int32} (ht : t.eval args s none [] s = some (.ref x)) (h : (Cond.eq (.field t C n d) (.int k)).value args s none s [] = some true) : Fld s s.heap x C n d (.int k) := by
  obtain ⟨u, v, a1, a2, k1, -⟩ := cmp_v (Or.inl h)
  have a3 : (Term.int k).eval args s none [] s = some (.int k) := rfl
  cases a3.symm.trans a2
  have a4 : u = .int k := by
    cases u <;> simp [Cond.value, a1, a3] at h ⊢
    exact h
  subst a4
  rw [fld_at ht] at a1
  exact Fld.start a1
theorem own_fld_inj {Z : State} {h : Heap} {a : Addr} {C n d : String} {v w : Value} (F : Fld Z h a C n d v) (G : Fld Z h a C n d w) : v = w := by
  obtain ⟨c1, cf1, k1, i1, f1, h1, h2, -, -, -, -, h7⟩ := F
  obtain ⟨c2, cf2, k2, i2, f2, g1, g2, -, -, -, -, g7⟩ := G
  cases h1.symm.trans g1
  cases h2.symm.trans g2
  exact Option.some.inj (h7.symm.trans g7)
theorem own_fld_ne {Z : State} {h : Heap} {a b : Addr} {C n d : String} {v w : Int32} (F : Fld Z h a C n d (.int v)) (G : Fld Z h b C n d (.int w)) (hn : ¬ v = w) : a ≠ b := fun q => by
  subst q
  exact hn (Value.int.inj (own_fld_inj F G))
theorem nar_ref (t : FieldType) (w : Value) (h : w.isRef = true) : narrow t w = w := by
  rcases ref_cases h with rfl | ⟨a, rfl⟩ <;> cases t <;> rfl
theorem own_cat {v : Value} (h : v.isRef = true) : v.category = 1 := by
  rcases ref_cases h with rfl | ⟨a, rfl⟩ <;> rfl
theorem own_ite_ref {c : Prop} [Decidable c] {a b : Value} (ha : a.isRef = true) (hb : b.isRef = true) : (if c then a else b).isRef = true := by
  split <;> assumption
def MirW (Z : State) (C : String) (m : Addr) : Prop := ∃ (c : ClassId) (k : Class), Z.vm.findClass C = some c ∧ Z.vm.classes[c]? = some k ∧ k.mirror = some m

def Fx (Z : State) (h : Heap) (w_STRING : Addr) (w_OBJECT : Addr) (w_INT : Addr) (w_MAP : Addr) (w_BIGDECIMAL : Addr) (w_DATE : Addr) (w_LONG : Addr) (w_LIST : Addr) (w_BOOLEAN : Addr) (w_DEFAULTCAPACITY_EMPTY_ELEMENTDATA : Addr) (c_DEFAULTCAPACITY_EMPTY_ELEMENTDATA : Cell) (w_EMPTY_LIST : Addr) (w_EMPTY : Addr) (w_ELEMS : Addr) (c_ELEMS : Cell) (w_MIR : Addr) : Prop := (Sta Z h "com/example/declared_endpoints/declaredendpoints/model/FieldType$Base" "STRING" "Lcom/example/declared_endpoints/declaredendpoints/model/FieldType$Base;" (.ref w_STRING)) ∧ (Exa Z h w_STRING "com/example/declared_endpoints/declaredendpoints/model/FieldType$Base") ∧ (Sta Z h "com/example/declared_endpoints/declaredendpoints/model/FieldType$Base" "OBJECT" "Lcom/example/declared_endpoints/declaredendpoints/model/FieldType$Base;" (.ref w_OBJECT)) ∧ (Exa Z h w_OBJECT "com/example/declared_endpoints/declaredendpoints/model/FieldType$Base") ∧ (Fld Z h w_STRING "java/lang/Enum" "ordinal" "I" (.int (0 : Int32))) ∧ (Fld Z h w_OBJECT "java/lang/Enum" "ordinal" "I" (.int (6 : Int32))) ∧ (Sta Z h "com/example/declared_endpoints/declaredendpoints/model/FieldType$Base" "INT" "Lcom/example/declared_endpoints/declaredendpoints/model/FieldType$Base;" (.ref w_INT)) ∧ (Exa Z h w_INT "com/example/declared_endpoints/declaredendpoints/model/FieldType$Base") ∧ (Fld Z h w_INT "java/lang/Enum" "ordinal" "I" (.int (1 : Int32))) ∧ (Sta Z h "com/example/declared_endpoints/declaredendpoints/model/FieldType$Container" "MAP" "Lcom/example/declared_endpoints/declaredendpoints/model/FieldType$Container;" (.ref w_MAP)) ∧ (Exa Z h w_MAP "com/example/declared_endpoints/declaredendpoints/model/FieldType$Container") ∧ (Sta Z h "com/example/declared_endpoints/declaredendpoints/model/FieldType$Base" "BIGDECIMAL" "Lcom/example/declared_endpoints/declaredendpoints/model/FieldType$Base;" (.ref w_BIGDECIMAL)) ∧ (Exa Z h w_BIGDECIMAL "com/example/declared_endpoints/declaredendpoints/model/FieldType$Base") ∧ (Sta Z h "com/example/declared_endpoints/declaredendpoints/model/FieldType$Base" "DATE" "Lcom/example/declared_endpoints/declaredendpoints/model/FieldType$Base;" (.ref w_DATE)) ∧ (Exa Z h w_DATE "com/example/declared_endpoints/declaredendpoints/model/FieldType$Base") ∧ (Sta Z h "com/example/declared_endpoints/declaredendpoints/model/FieldType$Base" "LONG" "Lcom/example/declared_endpoints/declaredendpoints/model/FieldType$Base;" (.ref w_LONG)) ∧ (Exa Z h w_LONG "com/example/declared_endpoints/declaredendpoints/model/FieldType$Base") ∧ (Fld Z h w_LONG "java/lang/Enum" "ordinal" "I" (.int (2 : Int32))) ∧ (Fld Z h w_BIGDECIMAL "java/lang/Enum" "ordinal" "I" (.int (3 : Int32))) ∧ (Sta Z h "com/example/declared_endpoints/declaredendpoints/model/FieldType$Container" "LIST" "Lcom/example/declared_endpoints/declaredendpoints/model/FieldType$Container;" (.ref w_LIST)) ∧ (Exa Z h w_LIST "com/example/declared_endpoints/declaredendpoints/model/FieldType$Container") ∧ (Sta Z h "com/example/declared_endpoints/declaredendpoints/model/FieldType$Base" "BOOLEAN" "Lcom/example/declared_endpoints/declaredendpoints/model/FieldType$Base;" (.ref w_BOOLEAN)) ∧ (Exa Z h w_BOOLEAN "com/example/declared_endpoints/declaredendpoints/model/FieldType$Base") ∧ (Fld Z h w_BOOLEAN "java/lang/Enum" "ordinal" "I" (.int (4 : Int32))) ∧ (Fld Z h w_DATE "java/lang/Enum" "ordinal" "I" (.int (5 : Int32))) ∧ (Sta Z h "java/util/ArrayList" "DEFAULTCAPACITY_EMPTY_ELEMENTDATA" "[Ljava/lang/Object;" (.ref w_DEFAULTCAPACITY_EMPTY_ELEMENTDATA)) ∧ (Exa Z h w_DEFAULTCAPACITY_EMPTY_ELEMENTDATA "[Ljava/lang/Object;") ∧ (Arr Z h w_DEFAULTCAPACITY_EMPTY_ELEMENTDATA c_DEFAULTCAPACITY_EMPTY_ELEMENTDATA (.object "java/lang/Object")) ∧ (c_DEFAULTCAPACITY_EMPTY_ELEMENTDATA.slots.size = 0) ∧ (Sta Z h "java/util/ImmutableCollections" "EMPTY_LIST" "Ljava/util/ImmutableCollections$ListN;" (.ref w_EMPTY_LIST)) ∧ (Exa Z h w_EMPTY_LIST "java/util/ImmutableCollections$ListN") ∧ (Sta Z h "java/util/ImmutableCollections" "EMPTY" "Ljava/lang/Object;" (.ref w_EMPTY)) ∧ (Exa Z h w_EMPTY "java/lang/Object") ∧ (Fld Z h w_EMPTY_LIST "java/util/ImmutableCollections$ListN" "elements" "[Ljava/lang/Object;" (.ref w_ELEMS)) ∧ (Arr Z h w_ELEMS c_ELEMS (.object "java/lang/Object")) ∧ (c_ELEMS.slots.size = 0) ∧ (MirW Z "[Ljava/lang/Object;" w_MIR)

theorem own_old_le {Z : State} {n0 : Nat} {h : Heap} (O : Old Z n0 h) : n0 ≤ h.size := O.1 ▸ O.2.1
theorem ne_exa_arv {Z : State} {h : Heap} {a b : Addr} {C : String} {kk : Nat} {a0 : Array Value} {k : ClassId} {ty : FieldType} {z : Int32} {vs : List Value} {dv : Value} (E : Exa Z h a C) (w : (Cond.instantiable C kk).before a0 Z = true) (G : Arv Z h b k ty z vs dv) : a ≠ b := by
  obtain ⟨c, A, -⟩ := G
  exact ne_arr E w A

theorem own_len {args : Array Value} {s : State} {t : Term} {x : Addr} {c : Cell} {ty : FieldType} {k : Nat} (ht : t.eval args s none [] s = some (.ref x)) (A : Arr s s.heap x c ty) (hk : k < 2 ^ 31) (h : (Cond.eq (.length t) (.int (Int32.ofNat k))).value args s none s [] = some true) : c.slots.size = k := by
  obtain ⟨u, v, a1, a2, k1, -⟩ := cmp_v (Or.inl h)
  have a3 : (Term.int (Int32.ofNat k)).eval args s none [] s = some (.int (Int32.ofNat k)) := rfl
  have ha := A.fin (Vm.Alike.refl _)
  by_cases hl : c.slots.size < 2 ^ 31
  · rw [len_f ht ha hl] at a1
    cases a1
    have e : c.slots.size.toInt32 = Int32.ofNat k := by
      have b1 := len_f ht ha hl
      simpa [Cond.value, b1, a3] using h
    have e2 := congrArg Int32.toInt e
    rw [len_toInt hl] at e2
    have e3 : (Int32.ofNat k).toInt = k := Int32.toInt_ofNat_small hk
    rw [e3] at e2
    exact_mod_cast e2
  · simp [Term.eval, ht, ha, hl] at a1
theorem own_elem {args : Array Value} {s : State} {t t' : Term} {x : Addr} {c : Cell} {ty : FieldType} {k : Nat} {w : Value} (ht : t.eval args s none [] s = some (.ref x)) (A : Arr s s.heap x c ty) (hk : (Int32.ofNat k).toNatClampNeg = k) (h : (Cond.eq (.elem t (.int (Int32.ofNat k))) t').value args s none s [] = some true) (hw : t'.eval args s none [] s = some w) (hr : w.isRef = true) : c.slots[k]? = some w := by
  obtain ⟨u, v, a1, a2, k1, -⟩ := cmp_v (Or.inl h)
  cases hw.symm.trans a2
  have a3 : (Term.int (Int32.ofNat k)).eval args s none [] s = some (.int (Int32.ofNat k)) := rfl
  have e := (elem_in a1 ht a3 A.1).2
  rw [hk] at e
  have hu : u.isRef = true := by
    rcases ref_cases hr with rfl | ⟨b, rfl⟩ <;> cases u <;> simp_all [Kin, Value.isRef]
  have q := gotT (eq_R a1 hw hu hr) h
  rw [e, q]
section Own
variable {p : Program} {l : Launch} {e : Env} {R : Room} {s : State} {m : MethodId} {args : Array Value} {below : List Frame} {meth : Method} {c : Code} {T : State} {locs : List Loc} {cells slots : Nat} {Z : State} {h : Heap} {a : Addr}
theorem own_gcls (X : Stand p l e R s m args below meth c T locs cells slots) (hx : p.tables.exec = Jvm.exec) (hZ : Z.Warmed39 s.vm) {a0 : Array Value} {own C : String} {index : Nat} (hown : s.vm.findClass own = some m.cls)
    (w1 : (Cond.methodLink own index ⟨"java/lang/Object", "getClass", "()Ljava/lang/Class;"⟩).before a0 Z = true) (w2 : (Cond.declares ⟨"java/lang/Object", "getClass", "()Ljava/lang/Class;"⟩).before a0 Z = true) (w3 : (Cond.noSuperclass "java/lang/Object").before a0 Z = true) (w4 : (Cond.selects C ⟨"java/lang/Object", "getClass", "()Ljava/lang/Class;"⟩ ⟨"java/lang/Object", "getClass", "()Ljava/lang/Class;"⟩).before a0 Z = true)
    (w5 : (Cond.instanceMethod ⟨"java/lang/Object", "getClass", "()Ljava/lang/Class;"⟩).before a0 Z = true) (w6 : (Cond.native ⟨"java/lang/Object", "getClass", "()Ljava/lang/Class;"⟩).before a0 Z = true) (eT : T.heap = h) (E : Exa Z h a C) {mr : Addr} (M : MirW Z C mr)
    {g : JFrame} (hg : g.method = m) (hsize : g.locals.size = c.maxLocals) {rest : List Value} (hs : g.stack = .ref a :: rest) (hd : decode c.code g.pc = .ok (.invokevirtual index, 3)) (hf : 1 ≤ R.frames) {W : Nat} (hW : 2 * g.monitorRoom + (rest.map fun v => v.category).sum ≤ W) (hl : W + (nativeFrameWords "java/lang/Object" "getClass" 1 + 11) ≤ R.locals) :
    ∃ T', Stand p l e R s m args below meth c T' locs cells slots ∧ T'.heap = h ∧ ∀ target, Steps p.tables e below (T'.setTop { g with pc := g.pc + 3, stack := .ref mr :: rest }) target → Steps p.tables e below (T.setTop g) target := by
  obtain ⟨cB, kB, i1, i2, i3⟩ := isOf hZ eT E
  obtain ⟨cc, kc, m1, m2, m3⟩ := M
  rw [hZ.alike.findClass] at i1
  cases i1.symm.trans m1
  obtain ⟨k', q, ek⟩ := hZ.alike.2.2 _ _ m2
  obtain ⟨vm', X', st⟩ := X.getClassOf hx hown (mvT hZ w1) (mvT hZ w2) (nf_top (args := #[]) (mvT hZ w3)) (mvT hZ w4) (mvT hZ w5) (mvT hZ w6) (by rw [hZ.alike.findClass]; exact m1) i3 q (by rw [ek]; exact m3) hg hsize hs hd hf (by omega)
  exact ⟨_, X', eT, st⟩
theorem own_ldcM (X : Stand p l e R s m args below meth c T locs cells slots) (hx : p.tables.exec = Jvm.exec) (hZ : Z.Warmed39 s.vm) {a0 : Array Value} {own C : String} {index : Nat} (hown : s.vm.findClass own = some m.cls) (w : (Cond.classLink own index C).before a0 Z = true) (eT : T.heap = h) {mr : Addr} (M : MirW Z C mr)
    {g : JFrame} (hg : g.method = m) (hd : decode c.code g.pc = .ok (.ldc index, 2)) :
    ∃ T', Stand p l e R s m args below meth c T' locs cells slots ∧ T'.heap = h ∧ ∀ target, Steps p.tables e below (T'.setTop { g with pc := g.pc + 2, stack := .ref mr :: g.stack }) target → Steps p.tables e below (T.setTop g) target := by
  obtain ⟨cc, kc, m1, m2, m3⟩ := M
  obtain ⟨k', q, ek⟩ := hZ.alike.2.2 _ _ m2
  have f1 : s.vm.findClass C = some cc := by rw [hZ.alike.findClass]; exact m1
  have f2 : k'.mirror = some mr := by rw [ek]; exact m3
  obtain ⟨vm', X', st⟩ := X.ldcMirror hx hown (mvT hZ w) (a := mr) (by simp [Term.eval, f1, q, f2]) hg hd
  exact ⟨_, X', eT, st⟩
theorem own_root {a0 : Array Value} {O K : String} {t : ClassId} (w : (Cond.noSuperclass O).before a0 Z = true) (g1 : Z.vm.findClass K = some t) (hn : O ≠ K) : NS Z O K := by
  obtain ⟨c, k, h1, h2, h3, -, -⟩ := Cond.noSuperclass_spec w
  have ne := ids_ne h1 g1 hn
  refine ⟨c, t, h1, g1, fun fuel => ?_⟩
  cases fuel with
  | zero => rfl
  | succ f => simp [Vm.isSubclassAux, ne, h2, h3]
theorem own_no {a0 : Array Value} {C S K : String} {x y : MethodName} (w : (Cond.superclass C S).before a0 Z = true) (wk : (Cond.selects K x y).before a0 Z = true) (hy : y.cls = K) (n : NS Z C K) (hn : C ≠ K) : ∃ c t, Z.vm.findClass C = some c ∧ Z.vm.findClass K = some t ∧ Z.vm.assignable c t = false := by
  obtain ⟨c, t, h0, g0, n3⟩ := n
  obtain ⟨p, k, kp, h1, h2, h3, h4, h5, -, h7⟩ := Cond.superclass_spec h0 w
  obtain ⟨c2, r, m2, q1, q2, q3, q4, mk, q5, q6⟩ := Cond.selects_spec wk
  cases g0.symm.trans q1
  have q7 : m2.cls = t := by
    have e := findClass_of_methodNamed q3
    rw [hy] at e
    exact Option.some.inj (e.symm.trans g0)
  rw [q7] at q5
  have ne := ids_ne h0 g0 hn
  refine ⟨c, t, h0, g0, ?_⟩
  show Z.vm.assignableAux (255 + 1) c t = false
  cases hk : mk.kind <;> simp [Vm.assignableAux, ne, h2, q5, h5, hk, q6, Vm.isSubclass, n3]
end Own
def EL : List (String × Nat) := []
theorem own_EW {Z : State} {ar0 : Array Value} (hw : ∀ d ∈ tables_1, d.before ar0 Z = true) : EW Z ar0 EL := EW.nil
theorem own_wS {Z : State} {ar0 : Array Value} (hw : ∀ d ∈ tables_1, d.before ar0 Z = true) : ∀ a ∈ Bundle.stringAtoms, a.before ar0 Z = true := fun d hd => hw d ((by decide +kernel : ∀ d ∈ Bundle.stringAtoms, d ∈ tables_1) d hd)
theorem own_rw_mono {s t : State} {o : Outcome} {L : List Loc} {k n k' n' : Nat} (h : ReturnedEndW s o t L k n) (hk : k ≤ k') (hn : n ≤ n') : ReturnedEndW s o t L k' n' := ⟨h.1, h.2.1, h.2.2.1, h.2.2.2.mono hk hn⟩
theorem own_safe_arv {Z : State} {vm : Vm} {h : Heap} {x : Addr} {k : ClassId} {ty : FieldType} {z : Int32} {vs : List Value} {dv : Value} (hal : Z.vm.Alike vm) (F : Arv Z h x k ty z vs dv) (ht : ty ≠ .byte) : Safe Z EL vm h x := by
  obtain ⟨c, A, -⟩ := F
  exact Safe.arr hal A ht
theorem own_safe_nil {Z : State} (vm : Vm) (h : Heap) (x : Addr) : Safe Z EL vm h x := fun B => by
  obtain ⟨p, hp, -⟩ := B
  cases hp
theorem own_nol_L12 {Z : State} {ar0 : Array Value} (hw : ∀ d ∈ tables_1, d.before ar0 Z = true) : ∃ c t, Z.vm.findClass "java/util/ArrayList" = some c ∧ Z.vm.findClass "java/util/ImmutableCollections$List12" = some t ∧ Z.vm.assignable c t = false := by
  have ws := (hw _ (List.mem_of_getElem? (i := 210) rfl))
  obtain ⟨c, r, m, q1, -⟩ := Cond.selects_spec ws
  exact own_no (hw _ (List.mem_of_getElem? (i := 67) rfl)) ws rfl (NS.step (hw _ (List.mem_of_getElem? (i := 67) rfl)) (NS.step (hw _ (List.mem_of_getElem? (i := 68) rfl)) (NS.step (hw _ (List.mem_of_getElem? (i := 69) rfl)) (own_root (hw _ (List.mem_of_getElem? (i := 70) rfl)) q1 (by decide)) (by decide)) (by decide)) (by decide)) (by decide)
theorem own_nol_LN {Z : State} {ar0 : Array Value} (hw : ∀ d ∈ tables_1, d.before ar0 Z = true) : ∃ c t, Z.vm.findClass "java/util/ArrayList" = some c ∧ Z.vm.findClass "java/util/ImmutableCollections$ListN" = some t ∧ Z.vm.assignable c t = false := by
  have ws := (hw _ (List.mem_of_getElem? (i := 99) rfl))
  obtain ⟨c, r, m, q1, -⟩ := Cond.selects_spec ws
  exact own_no (hw _ (List.mem_of_getElem? (i := 67) rfl)) ws rfl (NS.step (hw _ (List.mem_of_getElem? (i := 67) rfl)) (NS.step (hw _ (List.mem_of_getElem? (i := 68) rfl)) (NS.step (hw _ (List.mem_of_getElem? (i := 69) rfl)) (own_root (hw _ (List.mem_of_getElem? (i := 70) rfl)) q1 (by decide)) (by decide)) (by decide)) (by decide)) (by decide)

theorem d3_0 : decode jdk_22_method_1_code 0 = .ok (.aload_n 0, 1) := by decide +kernel
theorem d3_1 : decode jdk_22_method_1_code 1 = .ok (.invokespecial 1, 3) := by decide +kernel
theorem d3_4 : decode jdk_22_method_1_code 4 = .ok (.return_, 1) := by decide +kernel
theorem pn_3 : plainName "java/util/AbstractCollection" = true := by first | (simp [plainName, overriddenIn]; done) | decide +kernel
theorem ef_3 (m : MethodId) (a0 : Addr) : entryFrame m #[(.ref a0)] 1 = mkF m 0 #[.val (.ref a0)] [] := by first | (simp [entryFrame, mkF, argsToLocals, Value.category]; done) | rfl
def Q3 (Z : State) (a0 : Addr) (w_STRING : Addr) (w_OBJECT : Addr) (w_INT : Addr) (w_MAP : Addr) (w_BIGDECIMAL : Addr) (w_DATE : Addr) (w_LONG : Addr) (w_LIST : Addr) (w_BOOLEAN : Addr) (w_DEFAULTCAPACITY_EMPTY_ELEMENTDATA : Addr) (c_DEFAULTCAPACITY_EMPTY_ELEMENTDATA : Cell) (w_EMPTY_LIST : Addr) (w_EMPTY : Addr) (w_ELEMS : Addr) (c_ELEMS : Cell) (w_MIR : Addr)  (h0 : Heap) (n0 : Nat) (v : Option Value) (h : Heap) (L : List Loc) : Prop := v = none ∧ Fr n0 L ∧ Old Z n0 h ∧ Keep h0 h []
set_option maxRecDepth 65536 in
set_option maxHeartbeats 40000000 in
theorem rm3 (l : Launch) (Z : State) (ar0 : Array Value) (hw : ∀ d ∈ tables_1, d.before ar0 Z = true) (ws : List Jvm.Cond) (a0 : Addr) (w_STRING : Addr) (w_OBJECT : Addr) (w_INT : Addr) (w_MAP : Addr) (w_BIGDECIMAL : Addr) (w_DATE : Addr) (w_LONG : Addr) (w_LIST : Addr) (w_BOOLEAN : Addr) (w_DEFAULTCAPACITY_EMPTY_ELEMENTDATA : Addr) (c_DEFAULTCAPACITY_EMPTY_ELEMENTDATA : Cell) (w_EMPTY_LIST : Addr) (w_EMPTY : Addr) (w_ELEMS : Addr) (c_ELEMS : Cell) (w_MIR : Addr)  (h0 : Heap) (n0 : Nat) (O0 : Old Z n0 h0) (F : Fx Z Z.heap w_STRING w_OBJECT w_INT w_MAP w_BIGDECIMAL w_DATE w_LONG w_LIST w_BOOLEAN w_DEFAULTCAPACITY_EMPTY_ELEMENTDATA c_DEFAULTCAPACITY_EMPTY_ELEMENTDATA w_EMPTY_LIST w_EMPTY w_ELEMS c_ELEMS w_MIR)  :
    MetFree l (⟨"java/util/AbstractCollection", "<init>", "()V"⟩ : MethodName) (head1 ((Jvm.Cond.code (⟨"java/util/AbstractCollection", "<init>", "()V"⟩ : MethodName) jdk_22_method_1_code 1 none) :: ws) ({ frames := 1, cells := 0, slots := 0, locals := 12 } : Room)) (fun a U => a = #[(.ref a0)] ∧ Z.Warmed39 U.vm ∧ U.heap = h0) (fun _ _ _ _ _ => True) (fun _ U o U' => ∃ v L, o = .returned v ∧ Q3 Z a0 w_STRING w_OBJECT w_INT w_MAP w_BIGDECIMAL w_DATE w_LONG w_LIST w_BOOLEAN w_DEFAULTCAPACITY_EMPTY_ELEMENTDATA c_DEFAULTCAPACITY_EMPTY_ELEMENTDATA w_EMPTY_LIST w_EMPTY w_ELEMS c_ELEMS w_MIR  h0 n0 v U'.heap L ∧ FrameEnd U o U' L ({ frames := 1, cells := 0, slots := 0, locals := 12 } : Room).cells ({ frames := 1, cells := 0, slots := 0, locals := 12 } : Room).slots) := by
  obtain ⟨S_STRING, E_STRING, S_OBJECT, E_OBJECT, F_ordinal_STRING, F_ordinal_OBJECT, S_INT, E_INT, F_ordinal_INT, S_MAP, E_MAP, S_BIGDECIMAL, E_BIGDECIMAL, S_DATE, E_DATE, S_LONG, E_LONG, F_ordinal_LONG, F_ordinal_BIGDECIMAL, S_LIST, E_LIST, S_BOOLEAN, E_BOOLEAN, F_ordinal_BOOLEAN, F_ordinal_DATE, S_DEFAULTCAPACITY_EMPTY_ELEMENTDATA, E_DEFAULTCAPACITY_EMPTY_ELEMENTDATA, A_DEFAULTCAPACITY_EMPTY_ELEMENTDATA, L_DEFAULTCAPACITY_EMPTY_ELEMENTDATA, S_EMPTY_LIST, E_EMPTY_LIST, S_EMPTY, E_EMPTY, F_elements_EMPTY_LIST, A_ELEMS, L_ELEMS, M_MIR⟩ := id F
  refine MetFree.of_bodySF (plainFor_of_name pn_3) hisR ?_
  intro p e s m args below meth c s₁ Bd hml0 hP hK
  obtain ⟨rfl, hZ, hh⟩ := hP
  have hx := Bd.exec
  have hby := Bd.bytes
  have hml : c.maxLocals = 1 := hml0
  have hown : s.vm.findClass "java/util/AbstractCollection" = some m.cls := findClass_of_methodNamed Bd.named
  have hnm := (name_of_methodNamed Bd.named Bd.method).1
  have X0 : Stand p l e ({ frames := 1, cells := 0, slots := 0, locals := 12 } : Room) s m #[(.ref a0)] below meth c s₁ [] 0 0 := Stand.of_body Bd
  have e0 : s₁.heap = h0 := by rw [← hh, Bd.state]; rfl
  have N0 := Fr.nil n0
  have K0 : Keep h0 h0 [] := Keep.refl _ _
  have pre0 : ∀ t, Steps p.tables e below (s₁.setTop (mkF m 0 #[.val (.ref a0)] [])) t → Steps p.tables e below (s₁.setTop (entryFrame m #[(.ref a0)] 1)) t := fun t k => castTop (ef_3 m a0) k
  obtain ⟨T1, X1, e1, st1⟩ := initO X0 hx hZ hown (hw _ (List.mem_of_getElem? (i := 19) rfl)) (hw _ (List.mem_of_getElem? (i := 20) rfl)) (hw _ (List.mem_of_getElem? (i := 21) rfl)) e0 (g := (mkF m 1 #[.val (.ref a0)] [(.ref a0)])) rfl (by rw [hml]; rfl) rfl (hb hby d3_1) (by decide) (W := 0) (by show 2 * 0 + _ ≤ _; exact Nat.le_of_eq rfl) (by decide)
  obtain ⟨fs, hr, hrun, hended, hW, hsame⟩ := X1.leave (v := none) (fun h => rfl)
  refine ⟨_, _, pre0 _ ?_, hrun, hended, _, _, rfl, ?_, ⟨_, rfl⟩, hW, hsame.mono (by decide) (by decide)⟩
  · show Steps p.tables e below (s₁.setTop (mkF m 0 #[.val (.ref a0)] [])) _
    refine XS.aloadN X0.here hx rfl (hb hby d3_0) rfl rfl ?_
    show Steps p.tables e below (s₁.setTop (mkF m 1 #[.val (.ref a0)] [(.ref a0)])) _
    refine st1 _ ?_
    show Steps p.tables e below (T1.setTop (mkF m 4 #[.val (.ref a0)] [])) _
    exact X1.returnOut hx Bd.returns (hb hby d3_4) hr
  · show Q3 Z a0 w_STRING w_OBJECT w_INT w_MAP w_BIGDECIMAL w_DATE w_LONG w_LIST w_BOOLEAN w_DEFAULTCAPACITY_EMPTY_ELEMENTDATA c_DEFAULTCAPACITY_EMPTY_ELEMENTDATA w_EMPTY_LIST w_EMPTY w_ELEMS c_ELEMS w_MIR  h0 n0 _ T1.heap _
    rw [e1]
    exact ⟨rfl, N0, O0, K0⟩

theorem d2_0 : decode jdk_39_method_1_code 0 = .ok (.aload_n 0, 1) := by decide +kernel
theorem d2_1 : decode jdk_39_method_1_code 1 = .ok (.invokespecial 1, 3) := by decide +kernel
theorem d2_4 : decode jdk_39_method_1_code 4 = .ok (.aload_n 0, 1) := by decide +kernel
theorem d2_5 : decode jdk_39_method_1_code 5 = .ok (.iconst 0, 1) := by decide +kernel
theorem d2_6 : decode jdk_39_method_1_code 6 = .ok (.putfield 7, 3) := by decide +kernel
theorem d2_9 : decode jdk_39_method_1_code 9 = .ok (.return_, 1) := by decide +kernel
theorem pn_2 : plainName "java/util/AbstractList" = true := by first | (simp [plainName, overriddenIn]; done) | decide +kernel
theorem pd_2_1 : parseMethodDescriptor "()V" = some ⟨[], none⟩ := by decide +kernel
theorem ef_2 (m : MethodId) (a0 : Addr) : entryFrame m #[(.ref a0)] 1 = mkF m 0 #[.val (.ref a0)] [] := by first | (simp [entryFrame, mkF, argsToLocals, Value.category]; done) | rfl
def Q2 (Z : State) (a0 : Addr) (w_STRING : Addr) (w_OBJECT : Addr) (w_INT : Addr) (w_MAP : Addr) (w_BIGDECIMAL : Addr) (w_DATE : Addr) (w_LONG : Addr) (w_LIST : Addr) (w_BOOLEAN : Addr) (w_DEFAULTCAPACITY_EMPTY_ELEMENTDATA : Addr) (c_DEFAULTCAPACITY_EMPTY_ELEMENTDATA : Cell) (w_EMPTY_LIST : Addr) (w_EMPTY : Addr) (w_ELEMS : Addr) (c_ELEMS : Cell) (w_MIR : Addr) (u_elementData_a0 : Value) (u_size_a0 : Value) (u_modCount_a0 : Value) (h0 : Heap) (n0 : Nat) (v : Option Value) (h : Heap) (L : List Loc) : Prop := v = none ∧ Fr n0 L ∧ Old Z n0 h ∧ Keep h0 h [a0] ∧ (Fld Z h a0 "java/util/ArrayList" "elementData" "[Ljava/lang/Object;" u_elementData_a0) ∧ (Fld Z h a0 "java/util/ArrayList" "size" "I" u_size_a0) ∧ (Fld Z h a0 "java/util/AbstractList" "modCount" "I" (.int (0 : Int32)))
set_option maxRecDepth 65536 in
set_option maxHeartbeats 40000000 in
theorem rm2 (l : Launch) (Z : State) (ar0 : Array Value) (hw : ∀ d ∈ tables_1, d.before ar0 Z = true) (ws : List Jvm.Cond) (a0 : Addr) (w_STRING : Addr) (w_OBJECT : Addr) (w_INT : Addr) (w_MAP : Addr) (w_BIGDECIMAL : Addr) (w_DATE : Addr) (w_LONG : Addr) (w_LIST : Addr) (w_BOOLEAN : Addr) (w_DEFAULTCAPACITY_EMPTY_ELEMENTDATA : Addr) (c_DEFAULTCAPACITY_EMPTY_ELEMENTDATA : Cell) (w_EMPTY_LIST : Addr) (w_EMPTY : Addr) (w_ELEMS : Addr) (c_ELEMS : Cell) (w_MIR : Addr) (u_elementData_a0 : Value) (u_size_a0 : Value) (u_modCount_a0 : Value) (h0 : Heap) (n0 : Nat) (O0 : Old Z n0 h0) (F : Fx Z Z.heap w_STRING w_OBJECT w_INT w_MAP w_BIGDECIMAL w_DATE w_LONG w_LIST w_BOOLEAN w_DEFAULTCAPACITY_EMPTY_ELEMENTDATA c_DEFAULTCAPACITY_EMPTY_ELEMENTDATA w_EMPTY_LIST w_EMPTY w_ELEMS c_ELEMS w_MIR) (E_a00 : Exa Z h0 a0 "java/util/ArrayList") (F_elementData_a00 : Fld Z h0 a0 "java/util/ArrayList" "elementData" "[Ljava/lang/Object;" u_elementData_a0) (F_size_a00 : Fld Z h0 a0 "java/util/ArrayList" "size" "I" u_size_a0) (F_modCount_a00 : Fld Z h0 a0 "java/util/AbstractList" "modCount" "I" u_modCount_a0) (g_a0 : n0 ≤ a0) :
    MetFree l (⟨"java/util/AbstractList", "<init>", "()V"⟩ : MethodName) (head1 ((Jvm.Cond.code (⟨"java/util/AbstractList", "<init>", "()V"⟩ : MethodName) jdk_39_method_1_code 1 none) :: ws) ({ frames := 2, cells := 0, slots := 0, locals := 24 } : Room)) (fun a U => a = #[(.ref a0)] ∧ Z.Warmed39 U.vm ∧ U.heap = h0) (fun _ _ _ _ _ => True) (fun _ U o U' => ∃ v L, o = .returned v ∧ Q2 Z a0 w_STRING w_OBJECT w_INT w_MAP w_BIGDECIMAL w_DATE w_LONG w_LIST w_BOOLEAN w_DEFAULTCAPACITY_EMPTY_ELEMENTDATA c_DEFAULTCAPACITY_EMPTY_ELEMENTDATA w_EMPTY_LIST w_EMPTY w_ELEMS c_ELEMS w_MIR u_elementData_a0 u_size_a0 u_modCount_a0 h0 n0 v U'.heap L ∧ FrameEnd U o U' L ({ frames := 2, cells := 0, slots := 0, locals := 24 } : Room).cells ({ frames := 2, cells := 0, slots := 0, locals := 24 } : Room).slots) := by
  obtain ⟨S_STRING, E_STRING, S_OBJECT, E_OBJECT, F_ordinal_STRING, F_ordinal_OBJECT, S_INT, E_INT, F_ordinal_INT, S_MAP, E_MAP, S_BIGDECIMAL, E_BIGDECIMAL, S_DATE, E_DATE, S_LONG, E_LONG, F_ordinal_LONG, F_ordinal_BIGDECIMAL, S_LIST, E_LIST, S_BOOLEAN, E_BOOLEAN, F_ordinal_BOOLEAN, F_ordinal_DATE, S_DEFAULTCAPACITY_EMPTY_ELEMENTDATA, E_DEFAULTCAPACITY_EMPTY_ELEMENTDATA, A_DEFAULTCAPACITY_EMPTY_ELEMENTDATA, L_DEFAULTCAPACITY_EMPTY_ELEMENTDATA, S_EMPTY_LIST, E_EMPTY_LIST, S_EMPTY, E_EMPTY, F_elements_EMPTY_LIST, A_ELEMS, L_ELEMS, M_MIR⟩ := id F
  refine MetFree.of_bodySF (plainFor_of_name pn_2) hisR ?_
  intro p e s m args below meth c s₁ Bd hml0 hP hK
  obtain ⟨rfl, hZ, hh⟩ := hP
  have hx := Bd.exec
  have hby := Bd.bytes
  have hml : c.maxLocals = 1 := hml0
  have hown : s.vm.findClass "java/util/AbstractList" = some m.cls := findClass_of_methodNamed Bd.named
  have hnm := (name_of_methodNamed Bd.named Bd.method).1
  have X0 : Stand p l e ({ frames := 2, cells := 0, slots := 0, locals := 24 } : Room) s m #[(.ref a0)] below meth c s₁ [] 0 0 := Stand.of_body Bd
  have e0 : s₁.heap = h0 := by rw [← hh, Bd.state]; rfl
  have N0 := Fr.nil n0
  have K0 : Keep h0 h0 [a0] := Keep.refl _ _
  have pre0 : ∀ t, Steps p.tables e below (s₁.setTop (mkF m 0 #[.val (.ref a0)] [])) t → Steps p.tables e below (s₁.setTop (entryFrame m #[(.ref a0)] 1)) t := fun t k => castTop (ef_2 m a0) k
  have E_a0 := E_a00
  have F_elementData_a0 := F_elementData_a00
  have F_size_a0 := F_size_a00
  obtain ⟨_, _, ⟨T1, L1, k1, n1⟩, -, X1, ⟨Lc1, hQ1, l1, y1, z1⟩, st1⟩ := X0.specialBack hx (y := (⟨"java/util/AbstractCollection", "<init>", "()V"⟩ : MethodName)) rfl hown (mvT hZ (hw _ (List.mem_of_getElem? (i := 13) rfl))) (mvT hZ (hw _ (List.mem_of_getElem? (i := 14) rfl))) (mvT hZ (hw _ (List.mem_of_getElem? (i := 18) rfl))) (by decide) (backOf (W := 0) (rm3 l Z ar0 hw [] a0 w_STRING w_OBJECT w_INT w_MAP w_BIGDECIMAL w_DATE w_LONG w_LIST w_BOOLEAN w_DEFAULTCAPACITY_EMPTY_ELEMENTDATA c_DEFAULTCAPACITY_EMPTY_ELEMENTDATA w_EMPTY_LIST w_EMPTY w_ELEMS c_ELEMS w_MIR  h0 n0 O0 F ) hZ (hw _ (List.mem_of_getElem? (i := 18) rfl)) (hw _ (List.mem_of_getElem? (i := 17) rfl)) (by decide) (by decide)) (g := (mkF m 1 #[.val (.ref a0)] [(.ref a0)])) rfl (by rw [hml]; rfl) (Steps.refl _) (a := a0) (argsL := []) (rest := []) (lenOf pd_2_1 rfl) rfl (by show 2 * 0 + _ ≤ _; exact Nat.le_of_eq rfl) (hb hby d2_1) (fun _ _ => ⟨rfl, e0, (by decide : 0 + 0 ≤ _), (by decide : 0 + 0 ≤ _)⟩)
  dsimp only [Pt.U, Pt.locs, Pt.cells, Pt.slots] at X1 l1 y1 z1 st1 hQ1
  subst l1 y1 z1
  obtain ⟨rfl, N1q, O1, Kc1⟩ := hQ1
  have N1 := Fr.app N0 N1q
  have K1 : Keep h0 T1.heap [a0] := K0.trans Kc1 all0
  have E_a0 := (E_a0.keep Kc1)
  have F_elementData_a0 := (F_elementData_a0.keep Kc1 nin0)
  have F_size_a0 := (F_size_a0.keep Kc1 nin0)
  have F_modCount_a0 := (F_modCount_a00.keep Kc1 nin0)
  obtain ⟨T2, h2, X2, e2, W2, st2⟩ := putF X1 hx hZ hown (host := "") (Or.inl (hw _ (List.mem_of_getElem? (i := 22) rfl))) Via.refl rfl F_modCount_a0 E_a0 (Or.inl (hw _ (List.mem_of_getElem? (i := 23) rfl))) (hw _ (List.mem_of_getElem? (i := 2) rfl)) (ty := .int) (by decide) rfl rfl (g := (mkF m 6 #[.val (.ref a0)] [(.int (0 : Int32)), (.ref a0)])) rfl rfl (hb hby d2_6)
  have N2 := Fr.snoc X2 N1 g_a0
  have O2 : Old Z n0 h2 := O1.wr W2 g_a0
  have K2 : Keep h0 h2 [a0] := K1.wr W2 (Or.inl (List.mem_of_getElem? (i := 0) rfl))
  have E_a0 := (E_a0.wr W2)
  have F_elementData_a0 := (F_elementData_a0.other W2 (Or.inr (slot_ne (Or.inl (hw _ (List.mem_of_getElem? (i := 26) rfl))) (Or.inl (hw _ (List.mem_of_getElem? (i := 23) rfl))) (by decide) (t := (.array (.object "java/lang/Object"))) (t' := .int) (by decide) (by decide))))
  have F_size_a0 := (F_size_a0.other W2 (Or.inr (slot_ne (Or.inl (hw _ (List.mem_of_getElem? (i := 82) rfl))) (Or.inl (hw _ (List.mem_of_getElem? (i := 23) rfl))) (by decide) (t := .int) (t' := .int) (by decide) (by decide))))
  have F_modCount_a0 := F_modCount_a0.same W2
  obtain ⟨fs, hr, hrun, hended, hW, hsame⟩ := X2.leave (v := none) (fun h => rfl)
  refine ⟨_, _, pre0 _ ?_, hrun, hended, _, _, rfl, ?_, ⟨_, rfl⟩, hW, hsame.mono (by decide) (by decide)⟩
  · show Steps p.tables e below (s₁.setTop (mkF m 0 #[.val (.ref a0)] [])) _
    refine XS.aloadN X0.here hx rfl (hb hby d2_0) rfl rfl ?_
    show Steps p.tables e below (s₁.setTop (mkF m 1 #[.val (.ref a0)] [(.ref a0)])) _
    refine st1.trans ?_
    show Steps p.tables e below (T1.setTop (mkF m 4 #[.val (.ref a0)] [])) _
    refine XS.aloadN X1.here hx rfl (hb hby d2_4) rfl rfl ?_
    show Steps p.tables e below (T1.setTop (mkF m 5 #[.val (.ref a0)] [(.ref a0)])) _
    refine XS.iconst X1.here hx rfl (hb hby d2_5) ?_
    show Steps p.tables e below (T1.setTop (mkF m 6 #[.val (.ref a0)] [(.int (0 : Int32)), (.ref a0)])) _
    refine st2 _ ?_
    show Steps p.tables e below (T2.setTop (mkF m 9 #[.val (.ref a0)] [])) _
    exact X2.returnOut hx Bd.returns (hb hby d2_9) hr
  · show Q2 Z a0 w_STRING w_OBJECT w_INT w_MAP w_BIGDECIMAL w_DATE w_LONG w_LIST w_BOOLEAN w_DEFAULTCAPACITY_EMPTY_ELEMENTDATA c_DEFAULTCAPACITY_EMPTY_ELEMENTDATA w_EMPTY_LIST w_EMPTY w_ELEMS c_ELEMS w_MIR u_elementData_a0 u_size_a0 u_modCount_a0 h0 n0 _ T2.heap _
    rw [e2]
    exact ⟨rfl, N2, O2, K2, F_elementData_a0, F_size_a0, F_modCount_a0⟩

theorem d1_0 : decode jdk_38_method_2_code 0 = .ok (.aload_n 0, 1) := by decide +kernel
theorem d1_1 : decode jdk_38_method_2_code 1 = .ok (.invokespecial 1, 3) := by decide +kernel
theorem d1_4 : decode jdk_38_method_2_code 4 = .ok (.aload_n 0, 1) := by decide +kernel
theorem d1_5 : decode jdk_38_method_2_code 5 = .ok (.getstatic 39, 3) := by decide +kernel
theorem d1_8 : decode jdk_38_method_2_code 8 = .ok (.putfield 9, 3) := by decide +kernel
theorem d1_11 : decode jdk_38_method_2_code 11 = .ok (.return_, 1) := by decide +kernel
theorem pn_1 : plainName "java/util/ArrayList" = true := by first | (simp [plainName, overriddenIn]; done) | decide +kernel
theorem pd_1_1 : parseMethodDescriptor "()V" = some ⟨[], none⟩ := by decide +kernel
theorem ef_1 (m : MethodId) (a0 : Addr) : entryFrame m #[(.ref a0)] 1 = mkF m 0 #[.val (.ref a0)] [] := by first | (simp [entryFrame, mkF, argsToLocals, Value.category]; done) | rfl
def Q1 (Z : State) (a0 : Addr) (w_STRING : Addr) (w_OBJECT : Addr) (w_INT : Addr) (w_MAP : Addr) (w_BIGDECIMAL : Addr) (w_DATE : Addr) (w_LONG : Addr) (w_LIST : Addr) (w_BOOLEAN : Addr) (w_DEFAULTCAPACITY_EMPTY_ELEMENTDATA : Addr) (c_DEFAULTCAPACITY_EMPTY_ELEMENTDATA : Cell) (w_EMPTY_LIST : Addr) (w_EMPTY : Addr) (w_ELEMS : Addr) (c_ELEMS : Cell) (w_MIR : Addr) (u_size_a0 : Value) (x_elementData_a0 : Value) (x_modCount_a0 : Value) (h0 : Heap) (n0 : Nat) (v : Option Value) (h : Heap) (L : List Loc) : Prop := v = none ∧ Fr n0 L ∧ Old Z n0 h ∧ Keep h0 h [a0] ∧ (Fld Z h a0 "java/util/ArrayList" "elementData" "[Ljava/lang/Object;" (.ref w_DEFAULTCAPACITY_EMPTY_ELEMENTDATA)) ∧ (Fld Z h a0 "java/util/ArrayList" "size" "I" u_size_a0) ∧ (Fld Z h a0 "java/util/AbstractList" "modCount" "I" (.int (0 : Int32)))
set_option maxRecDepth 65536 in
set_option maxHeartbeats 40000000 in
theorem rm1 (l : Launch) (Z : State) (ar0 : Array Value) (hw : ∀ d ∈ tables_1, d.before ar0 Z = true) (ws : List Jvm.Cond) (a0 : Addr) (w_STRING : Addr) (w_OBJECT : Addr) (w_INT : Addr) (w_MAP : Addr) (w_BIGDECIMAL : Addr) (w_DATE : Addr) (w_LONG : Addr) (w_LIST : Addr) (w_BOOLEAN : Addr) (w_DEFAULTCAPACITY_EMPTY_ELEMENTDATA : Addr) (c_DEFAULTCAPACITY_EMPTY_ELEMENTDATA : Cell) (w_EMPTY_LIST : Addr) (w_EMPTY : Addr) (w_ELEMS : Addr) (c_ELEMS : Cell) (w_MIR : Addr) (u_size_a0 : Value) (x_elementData_a0 : Value) (x_modCount_a0 : Value) (h0 : Heap) (n0 : Nat) (O0 : Old Z n0 h0) (F : Fx Z Z.heap w_STRING w_OBJECT w_INT w_MAP w_BIGDECIMAL w_DATE w_LONG w_LIST w_BOOLEAN w_DEFAULTCAPACITY_EMPTY_ELEMENTDATA c_DEFAULTCAPACITY_EMPTY_ELEMENTDATA w_EMPTY_LIST w_EMPTY w_ELEMS c_ELEMS w_MIR) (E_a00 : Exa Z h0 a0 "java/util/ArrayList") (F_size_a00 : Fld Z h0 a0 "java/util/ArrayList" "size" "I" u_size_a0) (F_elementData_a00 : Fld Z h0 a0 "java/util/ArrayList" "elementData" "[Ljava/lang/Object;" x_elementData_a0) (F_modCount_a00 : Fld Z h0 a0 "java/util/AbstractList" "modCount" "I" x_modCount_a0) (g_a0 : n0 ≤ a0) :
    MetFree l (⟨"java/util/ArrayList", "<init>", "()V"⟩ : MethodName) (head1 ((Jvm.Cond.code (⟨"java/util/ArrayList", "<init>", "()V"⟩ : MethodName) jdk_38_method_2_code 1 none) :: ws) ({ frames := 3, cells := 0, slots := 0, locals := 36 } : Room)) (fun a U => a = #[(.ref a0)] ∧ Z.Warmed39 U.vm ∧ U.heap = h0) (fun _ _ _ _ _ => True) (fun _ U o U' => ∃ v L, o = .returned v ∧ Q1 Z a0 w_STRING w_OBJECT w_INT w_MAP w_BIGDECIMAL w_DATE w_LONG w_LIST w_BOOLEAN w_DEFAULTCAPACITY_EMPTY_ELEMENTDATA c_DEFAULTCAPACITY_EMPTY_ELEMENTDATA w_EMPTY_LIST w_EMPTY w_ELEMS c_ELEMS w_MIR u_size_a0 x_elementData_a0 x_modCount_a0 h0 n0 v U'.heap L ∧ FrameEnd U o U' L ({ frames := 3, cells := 0, slots := 0, locals := 36 } : Room).cells ({ frames := 3, cells := 0, slots := 0, locals := 36 } : Room).slots) := by
  obtain ⟨S_STRING, E_STRING, S_OBJECT, E_OBJECT, F_ordinal_STRING, F_ordinal_OBJECT, S_INT, E_INT, F_ordinal_INT, S_MAP, E_MAP, S_BIGDECIMAL, E_BIGDECIMAL, S_DATE, E_DATE, S_LONG, E_LONG, F_ordinal_LONG, F_ordinal_BIGDECIMAL, S_LIST, E_LIST, S_BOOLEAN, E_BOOLEAN, F_ordinal_BOOLEAN, F_ordinal_DATE, S_DEFAULTCAPACITY_EMPTY_ELEMENTDATA, E_DEFAULTCAPACITY_EMPTY_ELEMENTDATA, A_DEFAULTCAPACITY_EMPTY_ELEMENTDATA, L_DEFAULTCAPACITY_EMPTY_ELEMENTDATA, S_EMPTY_LIST, E_EMPTY_LIST, S_EMPTY, E_EMPTY, F_elements_EMPTY_LIST, A_ELEMS, L_ELEMS, M_MIR⟩ := id F
  refine MetFree.of_bodySF (plainFor_of_name pn_1) hisR ?_
  intro p e s m args below meth c s₁ Bd hml0 hP hK
  obtain ⟨rfl, hZ, hh⟩ := hP
  have hx := Bd.exec
  have hby := Bd.bytes
  have hml : c.maxLocals = 1 := hml0
  have hown : s.vm.findClass "java/util/ArrayList" = some m.cls := findClass_of_methodNamed Bd.named
  have hnm := (name_of_methodNamed Bd.named Bd.method).1
  have X0 : Stand p l e ({ frames := 3, cells := 0, slots := 0, locals := 36 } : Room) s m #[(.ref a0)] below meth c s₁ [] 0 0 := Stand.of_body Bd
  have e0 : s₁.heap = h0 := by rw [← hh, Bd.state]; rfl
  have N0 := Fr.nil n0
  have K0 : Keep h0 h0 [a0] := Keep.refl _ _
  have pre0 : ∀ t, Steps p.tables e below (s₁.setTop (mkF m 0 #[.val (.ref a0)] [])) t → Steps p.tables e below (s₁.setTop (entryFrame m #[(.ref a0)] 1)) t := fun t k => castTop (ef_1 m a0) k
  have E_a0 := E_a00
  have F_size_a0 := F_size_a00
  have F_elementData_a0 := F_elementData_a00
  have F_modCount_a0 := F_modCount_a00
  obtain ⟨_, _, ⟨T1, L1, k1, n1⟩, -, X1, ⟨Lc1, hQ1, l1, y1, z1⟩, st1⟩ := X0.specialBack hx (y := (⟨"java/util/AbstractList", "<init>", "()V"⟩ : MethodName)) rfl hown (mvT hZ (hw _ (List.mem_of_getElem? (i := 7) rfl))) (mvT hZ (hw _ (List.mem_of_getElem? (i := 8) rfl))) (mvT hZ (hw _ (List.mem_of_getElem? (i := 12) rfl))) (by decide) (backOf (W := 0) (rm2 l Z ar0 hw [] a0 w_STRING w_OBJECT w_INT w_MAP w_BIGDECIMAL w_DATE w_LONG w_LIST w_BOOLEAN w_DEFAULTCAPACITY_EMPTY_ELEMENTDATA c_DEFAULTCAPACITY_EMPTY_ELEMENTDATA w_EMPTY_LIST w_EMPTY w_ELEMS c_ELEMS w_MIR x_elementData_a0 u_size_a0 x_modCount_a0 h0 n0 O0 F E_a0 F_elementData_a0 F_size_a0 F_modCount_a0 g_a0) hZ (hw _ (List.mem_of_getElem? (i := 12) rfl)) (hw _ (List.mem_of_getElem? (i := 11) rfl)) (by decide) (by decide)) (g := (mkF m 1 #[.val (.ref a0)] [(.ref a0)])) rfl (by rw [hml]; rfl) (Steps.refl _) (a := a0) (argsL := []) (rest := []) (lenOf pd_1_1 rfl) rfl (by show 2 * 0 + _ ≤ _; exact Nat.le_of_eq rfl) (hb hby d1_1) (fun _ _ => ⟨rfl, e0, (by decide : 0 + 0 ≤ _), (by decide : 0 + 0 ≤ _)⟩)
  dsimp only [Pt.U, Pt.locs, Pt.cells, Pt.slots] at X1 l1 y1 z1 st1 hQ1
  subst l1 y1 z1
  obtain ⟨rfl, N1q, O1, Kc1, fq1_0, fq1_1, fq1_2⟩ := hQ1
  have N1 := Fr.app N0 N1q
  have K1 : Keep h0 T1.heap [a0] := K0.trans Kc1 (allS (Or.inl (List.mem_of_getElem? (i := 0) rfl)) all0)
  have E_a0 := (E_a0.keep Kc1)
  have F_elementData_a0 := fq1_0
  have F_size_a0 := fq1_1
  have F_modCount_a0 := fq1_2
  obtain ⟨T2, X2, e2, st2⟩ := getS2 X1 hx hZ hown (host := "") (Or.inl (hw _ (List.mem_of_getElem? (i := 24) rfl))) Via.refl rfl (S_DEFAULTCAPACITY_EMPTY_ELEMENTDATA.ext O1.2) (g := (mkF m 5 #[.val (.ref a0)] [(.ref a0)])) rfl (hb hby d1_5)
  obtain ⟨T3, h3, X3, e3, W3, st3⟩ := putF X2 hx hZ hown (host := "") (Or.inl (hw _ (List.mem_of_getElem? (i := 25) rfl))) Via.refl e2 F_elementData_a0 E_a0 (Or.inl (hw _ (List.mem_of_getElem? (i := 26) rfl))) (hw _ (List.mem_of_getElem? (i := 2) rfl)) (ty := (.array (.object "java/lang/Object"))) (by decide) rfl rfl (g := (mkF m 8 #[.val (.ref a0)] [(.ref w_DEFAULTCAPACITY_EMPTY_ELEMENTDATA), (.ref a0)])) rfl rfl (hb hby d1_8)
  have N3 := Fr.snoc X3 N1 g_a0
  have O3 : Old Z n0 h3 := O1.wr W3 g_a0
  have K3 : Keep h0 h3 [a0] := K1.wr W3 (Or.inl (List.mem_of_getElem? (i := 0) rfl))
  have E_a0 := (E_a0.wr W3)
  have F_size_a0 := (F_size_a0.other W3 (Or.inr (slot_ne (Or.inl (hw _ (List.mem_of_getElem? (i := 82) rfl))) (Or.inl (hw _ (List.mem_of_getElem? (i := 26) rfl))) (by decide) (t := .int) (t' := (.array (.object "java/lang/Object"))) (by decide) (by decide))))
  have F_modCount_a0 := (F_modCount_a0.other W3 (Or.inr (slot_ne (Or.inl (hw _ (List.mem_of_getElem? (i := 23) rfl))) (Or.inl (hw _ (List.mem_of_getElem? (i := 26) rfl))) (by decide) (t := .int) (t' := (.array (.object "java/lang/Object"))) (by decide) (by decide))))
  have F_elementData_a0 := F_elementData_a0.same W3
  obtain ⟨fs, hr, hrun, hended, hW, hsame⟩ := X3.leave (v := none) (fun h => rfl)
  refine ⟨_, _, pre0 _ ?_, hrun, hended, _, _, rfl, ?_, ⟨_, rfl⟩, hW, hsame.mono (by decide) (by decide)⟩
  · show Steps p.tables e below (s₁.setTop (mkF m 0 #[.val (.ref a0)] [])) _
    refine XS.aloadN X0.here hx rfl (hb hby d1_0) rfl rfl ?_
    show Steps p.tables e below (s₁.setTop (mkF m 1 #[.val (.ref a0)] [(.ref a0)])) _
    refine st1.trans ?_
    show Steps p.tables e below (T1.setTop (mkF m 4 #[.val (.ref a0)] [])) _
    refine XS.aloadN X1.here hx rfl (hb hby d1_4) rfl rfl ?_
    show Steps p.tables e below (T1.setTop (mkF m 5 #[.val (.ref a0)] [(.ref a0)])) _
    refine st2 _ ?_
    show Steps p.tables e below (T2.setTop (mkF m 8 #[.val (.ref a0)] [(.ref w_DEFAULTCAPACITY_EMPTY_ELEMENTDATA), (.ref a0)])) _
    refine st3 _ ?_
    show Steps p.tables e below (T3.setTop (mkF m 11 #[.val (.ref a0)] [])) _
    exact X3.returnOut hx Bd.returns (hb hby d1_11) hr
  · show Q1 Z a0 w_STRING w_OBJECT w_INT w_MAP w_BIGDECIMAL w_DATE w_LONG w_LIST w_BOOLEAN w_DEFAULTCAPACITY_EMPTY_ELEMENTDATA c_DEFAULTCAPACITY_EMPTY_ELEMENTDATA w_EMPTY_LIST w_EMPTY w_ELEMS c_ELEMS w_MIR u_size_a0 x_elementData_a0 x_modCount_a0 h0 n0 _ T3.heap _
    rw [e3]
    exact ⟨rfl, N3, O3, K3, F_elementData_a0, F_size_a0, F_modCount_a0⟩

theorem d5_0 : decode method_2_code 0 = .ok (.iload_n 0, 1) := by decide +kernel
theorem d5_1 : decode method_2_code 1 = .ok (.ifCond .ne 7, 3) := by decide +kernel
theorem d5_4 : decode method_2_code 4 = .ok (.getstatic 7, 3) := by decide +kernel
theorem d5_7 : decode method_2_code 7 = .ok (.areturn, 1) := by decide +kernel
theorem d5_8 : decode method_2_code 8 = .ok (.iload_n 0, 1) := by decide +kernel
theorem d5_9 : decode method_2_code 9 = .ok (.iconst 1, 1) := by decide +kernel
theorem d5_10 : decode method_2_code 10 = .ok (.if_icmp .ne 7, 3) := by decide +kernel
theorem d5_13 : decode method_2_code 13 = .ok (.getstatic 13, 3) := by decide +kernel
theorem d5_16 : decode method_2_code 16 = .ok (.areturn, 1) := by decide +kernel
theorem d5_17 : decode method_2_code 17 = .ok (.iload_n 0, 1) := by decide +kernel
theorem d5_18 : decode method_2_code 18 = .ok (.iconst 2, 1) := by decide +kernel
theorem d5_19 : decode method_2_code 19 = .ok (.if_icmp .ne 7, 3) := by decide +kernel
theorem d5_22 : decode method_2_code 22 = .ok (.getstatic 16, 3) := by decide +kernel
theorem d5_25 : decode method_2_code 25 = .ok (.areturn, 1) := by decide +kernel
theorem d5_26 : decode method_2_code 26 = .ok (.iload_n 0, 1) := by decide +kernel
theorem d5_27 : decode method_2_code 27 = .ok (.iconst 3, 1) := by decide +kernel
theorem d5_28 : decode method_2_code 28 = .ok (.if_icmp .ne 7, 3) := by decide +kernel
theorem d5_31 : decode method_2_code 31 = .ok (.getstatic 19, 3) := by decide +kernel
theorem d5_34 : decode method_2_code 34 = .ok (.areturn, 1) := by decide +kernel
theorem d5_35 : decode method_2_code 35 = .ok (.iload_n 0, 1) := by decide +kernel
theorem d5_36 : decode method_2_code 36 = .ok (.iconst 4, 1) := by decide +kernel
theorem d5_37 : decode method_2_code 37 = .ok (.if_icmp .ne 7, 3) := by decide +kernel
theorem d5_40 : decode method_2_code 40 = .ok (.getstatic 22, 3) := by decide +kernel
theorem d5_43 : decode method_2_code 43 = .ok (.areturn, 1) := by decide +kernel
theorem d5_44 : decode method_2_code 44 = .ok (.iload_n 0, 1) := by decide +kernel
theorem d5_45 : decode method_2_code 45 = .ok (.iconst 5, 1) := by decide +kernel
theorem d5_46 : decode method_2_code 46 = .ok (.if_icmp .ne 7, 3) := by decide +kernel
theorem d5_49 : decode method_2_code 49 = .ok (.getstatic 25, 3) := by decide +kernel
theorem d5_52 : decode method_2_code 52 = .ok (.areturn, 1) := by decide +kernel
theorem d5_53 : decode method_2_code 53 = .ok (.getstatic 28, 3) := by decide +kernel
theorem d5_56 : decode method_2_code 56 = .ok (.areturn, 1) := by decide +kernel
theorem pn_5 : plainName "com/example/declared_endpoints/declaredendpoints/model/FieldTypeScalarPinLaw" = true := by first | (simp [plainName, overriddenIn]; done) | decide +kernel
theorem ef_5 (m : MethodId) (p0 : Int32) : entryFrame m #[(.int p0)] 1 = mkF m 0 #[.val (.int p0)] [] := by first | (simp [entryFrame, mkF, argsToLocals, Value.category]; done) | rfl
def v5 (p0 : Int32) (w_STRING : Addr) (w_OBJECT : Addr) (w_INT : Addr) (w_MAP : Addr) (w_BIGDECIMAL : Addr) (w_DATE : Addr) (w_LONG : Addr) (w_LIST : Addr) (w_BOOLEAN : Addr) (w_DEFAULTCAPACITY_EMPTY_ELEMENTDATA : Addr) (w_EMPTY_LIST : Addr) (w_EMPTY : Addr) (w_ELEMS : Addr) (w_MIR : Addr) : Addr := if p0 = (0 : Int32) then w_STRING else if p0 = (1 : Int32) then w_INT else if p0 = (2 : Int32) then w_LONG else if p0 = (3 : Int32) then w_BIGDECIMAL else if p0 = (4 : Int32) then w_BOOLEAN else if p0 = (5 : Int32) then w_DATE else w_OBJECT
def Q5 (Z : State) (p0 : Int32) (w_STRING : Addr) (w_OBJECT : Addr) (w_INT : Addr) (w_MAP : Addr) (w_BIGDECIMAL : Addr) (w_DATE : Addr) (w_LONG : Addr) (w_LIST : Addr) (w_BOOLEAN : Addr) (w_DEFAULTCAPACITY_EMPTY_ELEMENTDATA : Addr) (c_DEFAULTCAPACITY_EMPTY_ELEMENTDATA : Cell) (w_EMPTY_LIST : Addr) (w_EMPTY : Addr) (w_ELEMS : Addr) (c_ELEMS : Cell) (w_MIR : Addr)  (h0 : Heap) (n0 : Nat) (v : Option Value) (h : Heap) (L : List Loc) : Prop := v = some (.ref (v5 p0 w_STRING w_OBJECT w_INT w_MAP w_BIGDECIMAL w_DATE w_LONG w_LIST w_BOOLEAN w_DEFAULTCAPACITY_EMPTY_ELEMENTDATA w_EMPTY_LIST w_EMPTY w_ELEMS w_MIR)) ∧ Fr n0 L ∧ Old Z n0 h ∧ Keep h0 h []
set_option maxRecDepth 65536 in
set_option maxHeartbeats 40000000 in
theorem rm5 (l : Launch) (Z : State) (ar0 : Array Value) (hw : ∀ d ∈ tables_1, d.before ar0 Z = true) (ws : List Jvm.Cond) (p0 : Int32) (w_STRING : Addr) (w_OBJECT : Addr) (w_INT : Addr) (w_MAP : Addr) (w_BIGDECIMAL : Addr) (w_DATE : Addr) (w_LONG : Addr) (w_LIST : Addr) (w_BOOLEAN : Addr) (w_DEFAULTCAPACITY_EMPTY_ELEMENTDATA : Addr) (c_DEFAULTCAPACITY_EMPTY_ELEMENTDATA : Cell) (w_EMPTY_LIST : Addr) (w_EMPTY : Addr) (w_ELEMS : Addr) (c_ELEMS : Cell) (w_MIR : Addr)  (h0 : Heap) (n0 : Nat) (O0 : Old Z n0 h0) (F : Fx Z Z.heap w_STRING w_OBJECT w_INT w_MAP w_BIGDECIMAL w_DATE w_LONG w_LIST w_BOOLEAN w_DEFAULTCAPACITY_EMPTY_ELEMENTDATA c_DEFAULTCAPACITY_EMPTY_ELEMENTDATA w_EMPTY_LIST w_EMPTY w_ELEMS c_ELEMS w_MIR)  :
    MetFree l (⟨"com/example/declared_endpoints/declaredendpoints/model/FieldTypeScalarPinLaw", "base", "(I)Lcom/example/declared_endpoints/declaredendpoints/model/FieldType$Base;"⟩ : MethodName) (head1 ((Jvm.Cond.code (⟨"com/example/declared_endpoints/declaredendpoints/model/FieldTypeScalarPinLaw", "base", "(I)Lcom/example/declared_endpoints/declaredendpoints/model/FieldType$Base;"⟩ : MethodName) method_2_code 1 (some (.object "com/example/declared_endpoints/declaredendpoints/model/FieldType$Base"))) :: ws) ({ frames := 0, cells := 0, slots := 0, locals := 0 } : Room)) (fun a U => a = #[(.int p0)] ∧ Z.Warmed39 U.vm ∧ U.heap = h0) (fun _ _ _ _ _ => True) (fun _ U o U' => ∃ v L, o = .returned v ∧ Q5 Z p0 w_STRING w_OBJECT w_INT w_MAP w_BIGDECIMAL w_DATE w_LONG w_LIST w_BOOLEAN w_DEFAULTCAPACITY_EMPTY_ELEMENTDATA c_DEFAULTCAPACITY_EMPTY_ELEMENTDATA w_EMPTY_LIST w_EMPTY w_ELEMS c_ELEMS w_MIR  h0 n0 v U'.heap L ∧ FrameEnd U o U' L ({ frames := 0, cells := 0, slots := 0, locals := 0 } : Room).cells ({ frames := 0, cells := 0, slots := 0, locals := 0 } : Room).slots) := by
  obtain ⟨S_STRING, E_STRING, S_OBJECT, E_OBJECT, F_ordinal_STRING, F_ordinal_OBJECT, S_INT, E_INT, F_ordinal_INT, S_MAP, E_MAP, S_BIGDECIMAL, E_BIGDECIMAL, S_DATE, E_DATE, S_LONG, E_LONG, F_ordinal_LONG, F_ordinal_BIGDECIMAL, S_LIST, E_LIST, S_BOOLEAN, E_BOOLEAN, F_ordinal_BOOLEAN, F_ordinal_DATE, S_DEFAULTCAPACITY_EMPTY_ELEMENTDATA, E_DEFAULTCAPACITY_EMPTY_ELEMENTDATA, A_DEFAULTCAPACITY_EMPTY_ELEMENTDATA, L_DEFAULTCAPACITY_EMPTY_ELEMENTDATA, S_EMPTY_LIST, E_EMPTY_LIST, S_EMPTY, E_EMPTY, F_elements_EMPTY_LIST, A_ELEMS, L_ELEMS, M_MIR⟩ := id F
  refine MetFree.of_bodySF (plainFor_of_name pn_5) hisR ?_
  intro p e s m args below meth c s₁ Bd hml0 hP hK
  obtain ⟨rfl, hZ, hh⟩ := hP
  have hx := Bd.exec
  have hby := Bd.bytes
  have hml : c.maxLocals = 1 := hml0
  have hown : s.vm.findClass "com/example/declared_endpoints/declaredendpoints/model/FieldTypeScalarPinLaw" = some m.cls := findClass_of_methodNamed Bd.named
  have hnm := (name_of_methodNamed Bd.named Bd.method).1
  have X0 : Stand p l e ({ frames := 0, cells := 0, slots := 0, locals := 0 } : Room) s m #[(.int p0)] below meth c s₁ [] 0 0 := Stand.of_body Bd
  have e0 : s₁.heap = h0 := by rw [← hh, Bd.state]; rfl
  have N0 := Fr.nil n0
  have K0 : Keep h0 h0 [] := Keep.refl _ _
  have pre0 : ∀ t, Steps p.tables e below (s₁.setTop (mkF m 0 #[.val (.int p0)] [])) t → Steps p.tables e below (s₁.setTop (entryFrame m #[(.int p0)] 1)) t := fun t k => castTop (ef_5 m p0) k
  have pre1 : ∀ t, Steps p.tables e below (s₁.setTop (mkF m 1 #[.val (.int p0)] [(.int p0)])) t → Steps p.tables e below (s₁.setTop (entryFrame m #[(.int p0)] 1)) t := by
    intro t k
    refine pre0 _ ?_
    show Steps p.tables e below (s₁.setTop (mkF m 0 #[.val (.int p0)] [])) _
    refine XS.iloadN X0.here hx rfl (hb hby d5_0) rfl ?_
    exact k
  by_cases hc2 : p0 = (0 : Int32)
  ·
    obtain ⟨T3, X3, e3, st3⟩ := getS2 X0 hx hZ hown (host := "") (Or.inl (hw _ (List.mem_of_getElem? (i := 34) rfl))) Via.refl e0 (S_STRING.ext O0.2) (g := (mkF m 4 #[.val (.int p0)] [])) rfl (hb hby d5_4)
    obtain ⟨fs, hr, hrun, hended, hW, hsame⟩ := X3.leave (v := some (.ref w_STRING)) (fun h => by rw [Bd.returns] at h; cases h)
    refine ⟨_, _, pre1 _ ?_, hrun, hended, _, _, rfl, ?_, ⟨_, rfl⟩, hW, hsame.mono (by decide) (by decide)⟩
    · show Steps p.tables e below (s₁.setTop (mkF m 1 #[.val (.int p0)] [(.int p0)])) _
      refine XS.ifNo X0.here hx rfl (hb hby d5_1) rfl ((if0 _ _).trans (teq hc2).2) ?_
      show Steps p.tables e below (s₁.setTop (mkF m 4 #[.val (.int p0)] [])) _
      refine st3 _ ?_
      show Steps p.tables e below (T3.setTop (mkF m 7 #[.val (.int p0)] [(.ref w_STRING)])) _
      exact retOut X3 hx Bd.returns rfl (Or.inr (Or.inr (Or.inr (Or.inr ⟨rfl, rfl, rfl⟩)))) (hb hby d5_7) hr
    · show Q5 Z p0 w_STRING w_OBJECT w_INT w_MAP w_BIGDECIMAL w_DATE w_LONG w_LIST w_BOOLEAN w_DEFAULTCAPACITY_EMPTY_ELEMENTDATA c_DEFAULTCAPACITY_EMPTY_ELEMENTDATA w_EMPTY_LIST w_EMPTY w_ELEMS c_ELEMS w_MIR  h0 n0 _ T3.heap _
      rw [e3]
      exact ⟨by unfold v5; rw [if_pos hc2], N0, O0, K0⟩
  ·
    have pre4 : ∀ t, Steps p.tables e below (s₁.setTop (mkF m 10 #[.val (.int p0)] [(.int (1 : Int32)), (.int p0)])) t → Steps p.tables e below (s₁.setTop (entryFrame m #[(.int p0)] 1)) t := by
      intro t k
      refine pre1 _ ?_
      show Steps p.tables e below (s₁.setTop (mkF m 1 #[.val (.int p0)] [(.int p0)])) _
      refine XS.ifYes X0.here hx rfl (pc0 := 1) (pc' := 8) rfl (hb hby d5_1) rfl ((if0 _ _).trans (feq hc2).2) (by decide) (by decide) ?_
      show Steps p.tables e below (s₁.setTop (mkF m 8 #[.val (.int p0)] [])) _
      refine XS.iloadN X0.here hx rfl (hb hby d5_8) rfl ?_
      show Steps p.tables e below (s₁.setTop (mkF m 9 #[.val (.int p0)] [(.int p0)])) _
      refine XS.iconst X0.here hx rfl (hb hby d5_9) ?_
      exact k
    by_cases hc5 : p0 = (1 : Int32)
    ·
      obtain ⟨T6, X6, e6, st6⟩ := getS2 X0 hx hZ hown (host := "") (Or.inl (hw _ (List.mem_of_getElem? (i := 110) rfl))) Via.refl e0 (S_INT.ext O0.2) (g := (mkF m 13 #[.val (.int p0)] [])) rfl (hb hby d5_13)
      obtain ⟨fs, hr, hrun, hended, hW, hsame⟩ := X6.leave (v := some (.ref w_INT)) (fun h => by rw [Bd.returns] at h; cases h)
      refine ⟨_, _, pre4 _ ?_, hrun, hended, _, _, rfl, ?_, ⟨_, rfl⟩, hW, hsame.mono (by decide) (by decide)⟩
      · show Steps p.tables e below (s₁.setTop (mkF m 10 #[.val (.int p0)] [(.int (1 : Int32)), (.int p0)])) _
        refine XS.icmpNo X0.here hx rfl (hb hby d5_10) rfl (teq hc5).2 ?_
        show Steps p.tables e below (s₁.setTop (mkF m 13 #[.val (.int p0)] [])) _
        refine st6 _ ?_
        show Steps p.tables e below (T6.setTop (mkF m 16 #[.val (.int p0)] [(.ref w_INT)])) _
        exact retOut X6 hx Bd.returns rfl (Or.inr (Or.inr (Or.inr (Or.inr ⟨rfl, rfl, rfl⟩)))) (hb hby d5_16) hr
      · show Q5 Z p0 w_STRING w_OBJECT w_INT w_MAP w_BIGDECIMAL w_DATE w_LONG w_LIST w_BOOLEAN w_DEFAULTCAPACITY_EMPTY_ELEMENTDATA c_DEFAULTCAPACITY_EMPTY_ELEMENTDATA w_EMPTY_LIST w_EMPTY w_ELEMS c_ELEMS w_MIR  h0 n0 _ T6.heap _
        rw [e6]
        exact ⟨by unfold v5; rw [if_neg hc2, if_pos hc5], N0, O0, K0⟩
    ·
      have pre7 : ∀ t, Steps p.tables e below (s₁.setTop (mkF m 19 #[.val (.int p0)] [(.int (2 : Int32)), (.int p0)])) t → Steps p.tables e below (s₁.setTop (entryFrame m #[(.int p0)] 1)) t := by
        intro t k
        refine pre4 _ ?_
        show Steps p.tables e below (s₁.setTop (mkF m 10 #[.val (.int p0)] [(.int (1 : Int32)), (.int p0)])) _
        refine XS.icmpYes X0.here hx rfl (pc0 := 10) (pc' := 17) rfl (hb hby d5_10) rfl (feq hc5).2 (by decide) (by decide) ?_
        show Steps p.tables e below (s₁.setTop (mkF m 17 #[.val (.int p0)] [])) _
        refine XS.iloadN X0.here hx rfl (hb hby d5_17) rfl ?_
        show Steps p.tables e below (s₁.setTop (mkF m 18 #[.val (.int p0)] [(.int p0)])) _
        refine XS.iconst X0.here hx rfl (hb hby d5_18) ?_
        exact k
      by_cases hc8 : p0 = (2 : Int32)
      ·
        obtain ⟨T9, X9, e9, st9⟩ := getS2 X0 hx hZ hown (host := "") (Or.inl (hw _ (List.mem_of_getElem? (i := 222) rfl))) Via.refl e0 (S_LONG.ext O0.2) (g := (mkF m 22 #[.val (.int p0)] [])) rfl (hb hby d5_22)
        obtain ⟨fs, hr, hrun, hended, hW, hsame⟩ := X9.leave (v := some (.ref w_LONG)) (fun h => by rw [Bd.returns] at h; cases h)
        refine ⟨_, _, pre7 _ ?_, hrun, hended, _, _, rfl, ?_, ⟨_, rfl⟩, hW, hsame.mono (by decide) (by decide)⟩
        · show Steps p.tables e below (s₁.setTop (mkF m 19 #[.val (.int p0)] [(.int (2 : Int32)), (.int p0)])) _
          refine XS.icmpNo X0.here hx rfl (hb hby d5_19) rfl (teq hc8).2 ?_
          show Steps p.tables e below (s₁.setTop (mkF m 22 #[.val (.int p0)] [])) _
          refine st9 _ ?_
          show Steps p.tables e below (T9.setTop (mkF m 25 #[.val (.int p0)] [(.ref w_LONG)])) _
          exact retOut X9 hx Bd.returns rfl (Or.inr (Or.inr (Or.inr (Or.inr ⟨rfl, rfl, rfl⟩)))) (hb hby d5_25) hr
        · show Q5 Z p0 w_STRING w_OBJECT w_INT w_MAP w_BIGDECIMAL w_DATE w_LONG w_LIST w_BOOLEAN w_DEFAULTCAPACITY_EMPTY_ELEMENTDATA c_DEFAULTCAPACITY_EMPTY_ELEMENTDATA w_EMPTY_LIST w_EMPTY w_ELEMS c_ELEMS w_MIR  h0 n0 _ T9.heap _
          rw [e9]
          exact ⟨by unfold v5; rw [if_neg hc2, if_neg hc5, if_pos hc8], N0, O0, K0⟩
      ·
        have pre10 : ∀ t, Steps p.tables e below (s₁.setTop (mkF m 28 #[.val (.int p0)] [(.int (3 : Int32)), (.int p0)])) t → Steps p.tables e below (s₁.setTop (entryFrame m #[(.int p0)] 1)) t := by
          intro t k
          refine pre7 _ ?_
          show Steps p.tables e below (s₁.setTop (mkF m 19 #[.val (.int p0)] [(.int (2 : Int32)), (.int p0)])) _
          refine XS.icmpYes X0.here hx rfl (pc0 := 19) (pc' := 26) rfl (hb hby d5_19) rfl (feq hc8).2 (by decide) (by decide) ?_
          show Steps p.tables e below (s₁.setTop (mkF m 26 #[.val (.int p0)] [])) _
          refine XS.iloadN X0.here hx rfl (hb hby d5_26) rfl ?_
          show Steps p.tables e below (s₁.setTop (mkF m 27 #[.val (.int p0)] [(.int p0)])) _
          refine XS.iconst X0.here hx rfl (hb hby d5_27) ?_
          exact k
        by_cases hc11 : p0 = (3 : Int32)
        ·
          obtain ⟨T12, X12, e12, st12⟩ := getS2 X0 hx hZ hown (host := "") (Or.inl (hw _ (List.mem_of_getElem? (i := 147) rfl))) Via.refl e0 (S_BIGDECIMAL.ext O0.2) (g := (mkF m 31 #[.val (.int p0)] [])) rfl (hb hby d5_31)
          obtain ⟨fs, hr, hrun, hended, hW, hsame⟩ := X12.leave (v := some (.ref w_BIGDECIMAL)) (fun h => by rw [Bd.returns] at h; cases h)
          refine ⟨_, _, pre10 _ ?_, hrun, hended, _, _, rfl, ?_, ⟨_, rfl⟩, hW, hsame.mono (by decide) (by decide)⟩
          · show Steps p.tables e below (s₁.setTop (mkF m 28 #[.val (.int p0)] [(.int (3 : Int32)), (.int p0)])) _
            refine XS.icmpNo X0.here hx rfl (hb hby d5_28) rfl (teq hc11).2 ?_
            show Steps p.tables e below (s₁.setTop (mkF m 31 #[.val (.int p0)] [])) _
            refine st12 _ ?_
            show Steps p.tables e below (T12.setTop (mkF m 34 #[.val (.int p0)] [(.ref w_BIGDECIMAL)])) _
            exact retOut X12 hx Bd.returns rfl (Or.inr (Or.inr (Or.inr (Or.inr ⟨rfl, rfl, rfl⟩)))) (hb hby d5_34) hr
          · show Q5 Z p0 w_STRING w_OBJECT w_INT w_MAP w_BIGDECIMAL w_DATE w_LONG w_LIST w_BOOLEAN w_DEFAULTCAPACITY_EMPTY_ELEMENTDATA c_DEFAULTCAPACITY_EMPTY_ELEMENTDATA w_EMPTY_LIST w_EMPTY w_ELEMS c_ELEMS w_MIR  h0 n0 _ T12.heap _
            rw [e12]
            exact ⟨by unfold v5; rw [if_neg hc2, if_neg hc5, if_neg hc8, if_pos hc11], N0, O0, K0⟩
        ·
          have pre13 : ∀ t, Steps p.tables e below (s₁.setTop (mkF m 37 #[.val (.int p0)] [(.int (4 : Int32)), (.int p0)])) t → Steps p.tables e below (s₁.setTop (entryFrame m #[(.int p0)] 1)) t := by
            intro t k
            refine pre10 _ ?_
            show Steps p.tables e below (s₁.setTop (mkF m 28 #[.val (.int p0)] [(.int (3 : Int32)), (.int p0)])) _
            refine XS.icmpYes X0.here hx rfl (pc0 := 28) (pc' := 35) rfl (hb hby d5_28) rfl (feq hc11).2 (by decide) (by decide) ?_
            show Steps p.tables e below (s₁.setTop (mkF m 35 #[.val (.int p0)] [])) _
            refine XS.iloadN X0.here hx rfl (hb hby d5_35) rfl ?_
            show Steps p.tables e below (s₁.setTop (mkF m 36 #[.val (.int p0)] [(.int p0)])) _
            refine XS.iconst X0.here hx rfl (hb hby d5_36) ?_
            exact k
          by_cases hc14 : p0 = (4 : Int32)
          ·
            obtain ⟨T15, X15, e15, st15⟩ := getS2 X0 hx hZ hown (host := "") (Or.inl (hw _ (List.mem_of_getElem? (i := 226) rfl))) Via.refl e0 (S_BOOLEAN.ext O0.2) (g := (mkF m 40 #[.val (.int p0)] [])) rfl (hb hby d5_40)
            obtain ⟨fs, hr, hrun, hended, hW, hsame⟩ := X15.leave (v := some (.ref w_BOOLEAN)) (fun h => by rw [Bd.returns] at h; cases h)
            refine ⟨_, _, pre13 _ ?_, hrun, hended, _, _, rfl, ?_, ⟨_, rfl⟩, hW, hsame.mono (by decide) (by decide)⟩
            · show Steps p.tables e below (s₁.setTop (mkF m 37 #[.val (.int p0)] [(.int (4 : Int32)), (.int p0)])) _
              refine XS.icmpNo X0.here hx rfl (hb hby d5_37) rfl (teq hc14).2 ?_
              show Steps p.tables e below (s₁.setTop (mkF m 40 #[.val (.int p0)] [])) _
              refine st15 _ ?_
              show Steps p.tables e below (T15.setTop (mkF m 43 #[.val (.int p0)] [(.ref w_BOOLEAN)])) _
              exact retOut X15 hx Bd.returns rfl (Or.inr (Or.inr (Or.inr (Or.inr ⟨rfl, rfl, rfl⟩)))) (hb hby d5_43) hr
            · show Q5 Z p0 w_STRING w_OBJECT w_INT w_MAP w_BIGDECIMAL w_DATE w_LONG w_LIST w_BOOLEAN w_DEFAULTCAPACITY_EMPTY_ELEMENTDATA c_DEFAULTCAPACITY_EMPTY_ELEMENTDATA w_EMPTY_LIST w_EMPTY w_ELEMS c_ELEMS w_MIR  h0 n0 _ T15.heap _
              rw [e15]
              exact ⟨by unfold v5; rw [if_neg hc2, if_neg hc5, if_neg hc8, if_neg hc11, if_pos hc14], N0, O0, K0⟩
          ·
            have pre16 : ∀ t, Steps p.tables e below (s₁.setTop (mkF m 46 #[.val (.int p0)] [(.int (5 : Int32)), (.int p0)])) t → Steps p.tables e below (s₁.setTop (entryFrame m #[(.int p0)] 1)) t := by
              intro t k
              refine pre13 _ ?_
              show Steps p.tables e below (s₁.setTop (mkF m 37 #[.val (.int p0)] [(.int (4 : Int32)), (.int p0)])) _
              refine XS.icmpYes X0.here hx rfl (pc0 := 37) (pc' := 44) rfl (hb hby d5_37) rfl (feq hc14).2 (by decide) (by decide) ?_
              show Steps p.tables e below (s₁.setTop (mkF m 44 #[.val (.int p0)] [])) _
              refine XS.iloadN X0.here hx rfl (hb hby d5_44) rfl ?_
              show Steps p.tables e below (s₁.setTop (mkF m 45 #[.val (.int p0)] [(.int p0)])) _
              refine XS.iconst X0.here hx rfl (hb hby d5_45) ?_
              exact k
            by_cases hc17 : p0 = (5 : Int32)
            ·
              obtain ⟨T18, X18, e18, st18⟩ := getS2 X0 hx hZ hown (host := "") (Or.inl (hw _ (List.mem_of_getElem? (i := 216) rfl))) Via.refl e0 (S_DATE.ext O0.2) (g := (mkF m 49 #[.val (.int p0)] [])) rfl (hb hby d5_49)
              obtain ⟨fs, hr, hrun, hended, hW, hsame⟩ := X18.leave (v := some (.ref w_DATE)) (fun h => by rw [Bd.returns] at h; cases h)
              refine ⟨_, _, pre16 _ ?_, hrun, hended, _, _, rfl, ?_, ⟨_, rfl⟩, hW, hsame.mono (by decide) (by decide)⟩
              · show Steps p.tables e below (s₁.setTop (mkF m 46 #[.val (.int p0)] [(.int (5 : Int32)), (.int p0)])) _
                refine XS.icmpNo X0.here hx rfl (hb hby d5_46) rfl (teq hc17).2 ?_
                show Steps p.tables e below (s₁.setTop (mkF m 49 #[.val (.int p0)] [])) _
                refine st18 _ ?_
                show Steps p.tables e below (T18.setTop (mkF m 52 #[.val (.int p0)] [(.ref w_DATE)])) _
                exact retOut X18 hx Bd.returns rfl (Or.inr (Or.inr (Or.inr (Or.inr ⟨rfl, rfl, rfl⟩)))) (hb hby d5_52) hr
              · show Q5 Z p0 w_STRING w_OBJECT w_INT w_MAP w_BIGDECIMAL w_DATE w_LONG w_LIST w_BOOLEAN w_DEFAULTCAPACITY_EMPTY_ELEMENTDATA c_DEFAULTCAPACITY_EMPTY_ELEMENTDATA w_EMPTY_LIST w_EMPTY w_ELEMS c_ELEMS w_MIR  h0 n0 _ T18.heap _
                rw [e18]
                exact ⟨by unfold v5; rw [if_neg hc2, if_neg hc5, if_neg hc8, if_neg hc11, if_neg hc14, if_pos hc17], N0, O0, K0⟩
            ·
              obtain ⟨T19, X19, e19, st19⟩ := getS2 X0 hx hZ hown (host := "") (Or.inl (hw _ (List.mem_of_getElem? (i := 228) rfl))) Via.refl e0 (S_OBJECT.ext O0.2) (g := (mkF m 53 #[.val (.int p0)] [])) rfl (hb hby d5_53)
              obtain ⟨fs, hr, hrun, hended, hW, hsame⟩ := X19.leave (v := some (.ref w_OBJECT)) (fun h => by rw [Bd.returns] at h; cases h)
              refine ⟨_, _, pre16 _ ?_, hrun, hended, _, _, rfl, ?_, ⟨_, rfl⟩, hW, hsame.mono (by decide) (by decide)⟩
              · show Steps p.tables e below (s₁.setTop (mkF m 46 #[.val (.int p0)] [(.int (5 : Int32)), (.int p0)])) _
                refine XS.icmpYes X0.here hx rfl (pc0 := 46) (pc' := 53) rfl (hb hby d5_46) rfl (feq hc17).2 (by decide) (by decide) ?_
                show Steps p.tables e below (s₁.setTop (mkF m 53 #[.val (.int p0)] [])) _
                refine st19 _ ?_
                show Steps p.tables e below (T19.setTop (mkF m 56 #[.val (.int p0)] [(.ref w_OBJECT)])) _
                exact retOut X19 hx Bd.returns rfl (Or.inr (Or.inr (Or.inr (Or.inr ⟨rfl, rfl, rfl⟩)))) (hb hby d5_56) hr
              · show Q5 Z p0 w_STRING w_OBJECT w_INT w_MAP w_BIGDECIMAL w_DATE w_LONG w_LIST w_BOOLEAN w_DEFAULTCAPACITY_EMPTY_ELEMENTDATA c_DEFAULTCAPACITY_EMPTY_ELEMENTDATA w_EMPTY_LIST w_EMPTY w_ELEMS c_ELEMS w_MIR  h0 n0 _ T19.heap _
                rw [e19]
                exact ⟨by unfold v5; rw [if_neg hc2, if_neg hc5, if_neg hc8, if_neg hc11, if_neg hc14, if_neg hc17], N0, O0, K0⟩

theorem d15_0 : decode method_3_code 0 = .ok (.iload_n 0, 1) := by decide +kernel
theorem d15_1 : decode method_3_code 1 = .ok (.ifCond .ne 7, 3) := by decide +kernel
theorem d15_4 : decode method_3_code 4 = .ok (.getstatic 31, 3) := by decide +kernel
theorem d15_7 : decode method_3_code 7 = .ok (.areturn, 1) := by decide +kernel
theorem d15_8 : decode method_3_code 8 = .ok (.getstatic 37, 3) := by decide +kernel
theorem d15_11 : decode method_3_code 11 = .ok (.areturn, 1) := by decide +kernel
theorem pn_15 : plainName "com/example/declared_endpoints/declaredendpoints/model/FieldTypeScalarPinLaw" = true := by first | (simp [plainName, overriddenIn]; done) | decide +kernel
theorem ef_15 (m : MethodId) (p0 : Int32) : entryFrame m #[(.int p0)] 1 = mkF m 0 #[.val (.int p0)] [] := by first | (simp [entryFrame, mkF, argsToLocals, Value.category]; done) | rfl
def v15 (p0 : Int32) (w_STRING : Addr) (w_OBJECT : Addr) (w_INT : Addr) (w_MAP : Addr) (w_BIGDECIMAL : Addr) (w_DATE : Addr) (w_LONG : Addr) (w_LIST : Addr) (w_BOOLEAN : Addr) (w_DEFAULTCAPACITY_EMPTY_ELEMENTDATA : Addr) (w_EMPTY_LIST : Addr) (w_EMPTY : Addr) (w_ELEMS : Addr) (w_MIR : Addr) : Addr := if p0 = (0 : Int32) then w_LIST else w_MAP
def Q15 (Z : State) (p0 : Int32) (w_STRING : Addr) (w_OBJECT : Addr) (w_INT : Addr) (w_MAP : Addr) (w_BIGDECIMAL : Addr) (w_DATE : Addr) (w_LONG : Addr) (w_LIST : Addr) (w_BOOLEAN : Addr) (w_DEFAULTCAPACITY_EMPTY_ELEMENTDATA : Addr) (c_DEFAULTCAPACITY_EMPTY_ELEMENTDATA : Cell) (w_EMPTY_LIST : Addr) (w_EMPTY : Addr) (w_ELEMS : Addr) (c_ELEMS : Cell) (w_MIR : Addr)  (h0 : Heap) (n0 : Nat) (v : Option Value) (h : Heap) (L : List Loc) : Prop := v = some (.ref (v15 p0 w_STRING w_OBJECT w_INT w_MAP w_BIGDECIMAL w_DATE w_LONG w_LIST w_BOOLEAN w_DEFAULTCAPACITY_EMPTY_ELEMENTDATA w_EMPTY_LIST w_EMPTY w_ELEMS w_MIR)) ∧ Fr n0 L ∧ Old Z n0 h ∧ Keep h0 h []
set_option maxRecDepth 65536 in
set_option maxHeartbeats 40000000 in
theorem rm15 (l : Launch) (Z : State) (ar0 : Array Value) (hw : ∀ d ∈ tables_1, d.before ar0 Z = true) (ws : List Jvm.Cond) (p0 : Int32) (w_STRING : Addr) (w_OBJECT : Addr) (w_INT : Addr) (w_MAP : Addr) (w_BIGDECIMAL : Addr) (w_DATE : Addr) (w_LONG : Addr) (w_LIST : Addr) (w_BOOLEAN : Addr) (w_DEFAULTCAPACITY_EMPTY_ELEMENTDATA : Addr) (c_DEFAULTCAPACITY_EMPTY_ELEMENTDATA : Cell) (w_EMPTY_LIST : Addr) (w_EMPTY : Addr) (w_ELEMS : Addr) (c_ELEMS : Cell) (w_MIR : Addr)  (h0 : Heap) (n0 : Nat) (O0 : Old Z n0 h0) (F : Fx Z Z.heap w_STRING w_OBJECT w_INT w_MAP w_BIGDECIMAL w_DATE w_LONG w_LIST w_BOOLEAN w_DEFAULTCAPACITY_EMPTY_ELEMENTDATA c_DEFAULTCAPACITY_EMPTY_ELEMENTDATA w_EMPTY_LIST w_EMPTY w_ELEMS c_ELEMS w_MIR)  :
    MetFree l (⟨"com/example/declared_endpoints/declaredendpoints/model/FieldTypeScalarPinLaw", "container", "(I)Lcom/example/declared_endpoints/declaredendpoints/model/FieldType$Container;"⟩ : MethodName) (head1 ((Jvm.Cond.code (⟨"com/example/declared_endpoints/declaredendpoints/model/FieldTypeScalarPinLaw", "container", "(I)Lcom/example/declared_endpoints/declaredendpoints/model/FieldType$Container;"⟩ : MethodName) method_3_code 1 (some (.object "com/example/declared_endpoints/declaredendpoints/model/FieldType$Container"))) :: ws) ({ frames := 0, cells := 0, slots := 0, locals := 0 } : Room)) (fun a U => a = #[(.int p0)] ∧ Z.Warmed39 U.vm ∧ U.heap = h0) (fun _ _ _ _ _ => True) (fun _ U o U' => ∃ v L, o = .returned v ∧ Q15 Z p0 w_STRING w_OBJECT w_INT w_MAP w_BIGDECIMAL w_DATE w_LONG w_LIST w_BOOLEAN w_DEFAULTCAPACITY_EMPTY_ELEMENTDATA c_DEFAULTCAPACITY_EMPTY_ELEMENTDATA w_EMPTY_LIST w_EMPTY w_ELEMS c_ELEMS w_MIR  h0 n0 v U'.heap L ∧ FrameEnd U o U' L ({ frames := 0, cells := 0, slots := 0, locals := 0 } : Room).cells ({ frames := 0, cells := 0, slots := 0, locals := 0 } : Room).slots) := by
  obtain ⟨S_STRING, E_STRING, S_OBJECT, E_OBJECT, F_ordinal_STRING, F_ordinal_OBJECT, S_INT, E_INT, F_ordinal_INT, S_MAP, E_MAP, S_BIGDECIMAL, E_BIGDECIMAL, S_DATE, E_DATE, S_LONG, E_LONG, F_ordinal_LONG, F_ordinal_BIGDECIMAL, S_LIST, E_LIST, S_BOOLEAN, E_BOOLEAN, F_ordinal_BOOLEAN, F_ordinal_DATE, S_DEFAULTCAPACITY_EMPTY_ELEMENTDATA, E_DEFAULTCAPACITY_EMPTY_ELEMENTDATA, A_DEFAULTCAPACITY_EMPTY_ELEMENTDATA, L_DEFAULTCAPACITY_EMPTY_ELEMENTDATA, S_EMPTY_LIST, E_EMPTY_LIST, S_EMPTY, E_EMPTY, F_elements_EMPTY_LIST, A_ELEMS, L_ELEMS, M_MIR⟩ := id F
  refine MetFree.of_bodySF (plainFor_of_name pn_15) hisR ?_
  intro p e s m args below meth c s₁ Bd hml0 hP hK
  obtain ⟨rfl, hZ, hh⟩ := hP
  have hx := Bd.exec
  have hby := Bd.bytes
  have hml : c.maxLocals = 1 := hml0
  have hown : s.vm.findClass "com/example/declared_endpoints/declaredendpoints/model/FieldTypeScalarPinLaw" = some m.cls := findClass_of_methodNamed Bd.named
  have hnm := (name_of_methodNamed Bd.named Bd.method).1
  have X0 : Stand p l e ({ frames := 0, cells := 0, slots := 0, locals := 0 } : Room) s m #[(.int p0)] below meth c s₁ [] 0 0 := Stand.of_body Bd
  have e0 : s₁.heap = h0 := by rw [← hh, Bd.state]; rfl
  have N0 := Fr.nil n0
  have K0 : Keep h0 h0 [] := Keep.refl _ _
  have pre0 : ∀ t, Steps p.tables e below (s₁.setTop (mkF m 0 #[.val (.int p0)] [])) t → Steps p.tables e below (s₁.setTop (entryFrame m #[(.int p0)] 1)) t := fun t k => castTop (ef_15 m p0) k
  have pre1 : ∀ t, Steps p.tables e below (s₁.setTop (mkF m 1 #[.val (.int p0)] [(.int p0)])) t → Steps p.tables e below (s₁.setTop (entryFrame m #[(.int p0)] 1)) t := by
    intro t k
    refine pre0 _ ?_
    show Steps p.tables e below (s₁.setTop (mkF m 0 #[.val (.int p0)] [])) _
    refine XS.iloadN X0.here hx rfl (hb hby d15_0) rfl ?_
    exact k
  by_cases hc2 : p0 = (0 : Int32)
  ·
    obtain ⟨T3, X3, e3, st3⟩ := getS2 X0 hx hZ hown (host := "") (Or.inl (hw _ (List.mem_of_getElem? (i := 224) rfl))) Via.refl e0 (S_LIST.ext O0.2) (g := (mkF m 4 #[.val (.int p0)] [])) rfl (hb hby d15_4)
    obtain ⟨fs, hr, hrun, hended, hW, hsame⟩ := X3.leave (v := some (.ref w_LIST)) (fun h => by rw [Bd.returns] at h; cases h)
    refine ⟨_, _, pre1 _ ?_, hrun, hended, _, _, rfl, ?_, ⟨_, rfl⟩, hW, hsame.mono (by decide) (by decide)⟩
    · show Steps p.tables e below (s₁.setTop (mkF m 1 #[.val (.int p0)] [(.int p0)])) _
      refine XS.ifNo X0.here hx rfl (hb hby d15_1) rfl ((if0 _ _).trans (teq hc2).2) ?_
      show Steps p.tables e below (s₁.setTop (mkF m 4 #[.val (.int p0)] [])) _
      refine st3 _ ?_
      show Steps p.tables e below (T3.setTop (mkF m 7 #[.val (.int p0)] [(.ref w_LIST)])) _
      exact retOut X3 hx Bd.returns rfl (Or.inr (Or.inr (Or.inr (Or.inr ⟨rfl, rfl, rfl⟩)))) (hb hby d15_7) hr
    · show Q15 Z p0 w_STRING w_OBJECT w_INT w_MAP w_BIGDECIMAL w_DATE w_LONG w_LIST w_BOOLEAN w_DEFAULTCAPACITY_EMPTY_ELEMENTDATA c_DEFAULTCAPACITY_EMPTY_ELEMENTDATA w_EMPTY_LIST w_EMPTY w_ELEMS c_ELEMS w_MIR  h0 n0 _ T3.heap _
      rw [e3]
      exact ⟨by unfold v15; rw [if_pos hc2], N0, O0, K0⟩
  ·
    obtain ⟨T4, X4, e4, st4⟩ := getS2 X0 hx hZ hown (host := "") (Or.inl (hw _ (List.mem_of_getElem? (i := 115) rfl))) Via.refl e0 (S_MAP.ext O0.2) (g := (mkF m 8 #[.val (.int p0)] [])) rfl (hb hby d15_8)
    obtain ⟨fs, hr, hrun, hended, hW, hsame⟩ := X4.leave (v := some (.ref w_MAP)) (fun h => by rw [Bd.returns] at h; cases h)
    refine ⟨_, _, pre1 _ ?_, hrun, hended, _, _, rfl, ?_, ⟨_, rfl⟩, hW, hsame.mono (by decide) (by decide)⟩
    · show Steps p.tables e below (s₁.setTop (mkF m 1 #[.val (.int p0)] [(.int p0)])) _
      refine XS.ifYes X0.here hx rfl (pc0 := 1) (pc' := 8) rfl (hb hby d15_1) rfl ((if0 _ _).trans (feq hc2).2) (by decide) (by decide) ?_
      show Steps p.tables e below (s₁.setTop (mkF m 8 #[.val (.int p0)] [])) _
      refine st4 _ ?_
      show Steps p.tables e below (T4.setTop (mkF m 11 #[.val (.int p0)] [(.ref w_MAP)])) _
      exact retOut X4 hx Bd.returns rfl (Or.inr (Or.inr (Or.inr (Or.inr ⟨rfl, rfl, rfl⟩)))) (hb hby d15_11) hr
    · show Q15 Z p0 w_STRING w_OBJECT w_INT w_MAP w_BIGDECIMAL w_DATE w_LONG w_LIST w_BOOLEAN w_DEFAULTCAPACITY_EMPTY_ELEMENTDATA c_DEFAULTCAPACITY_EMPTY_ELEMENTDATA w_EMPTY_LIST w_EMPTY w_ELEMS c_ELEMS w_MIR  h0 n0 _ T4.heap _
      rw [e4]
      exact ⟨by unfold v15; rw [if_neg hc2], N0, O0, K0⟩

theorem d20_0 : decode jdk_29_method_65_code 0 = .ok (.iload_n 0, 1) := by decide +kernel
theorem d20_1 : decode jdk_29_method_65_code 1 = .ok (.iload_n 1, 1) := by decide +kernel
theorem d20_2 : decode jdk_29_method_65_code 2 = .ok (.if_icmp .lt 7, 3) := by decide +kernel
theorem d20_5 : decode jdk_29_method_65_code 5 = .ok (.iload_n 0, 1) := by decide +kernel
theorem d20_6 : decode jdk_29_method_65_code 6 = .ok (.goto 4, 3) := by decide +kernel
theorem d20_10 : decode jdk_29_method_65_code 10 = .ok (.ireturn, 1) := by decide +kernel
theorem pn_20 : plainFor (⟨"java/lang/Math", "max", "(II)I"⟩ : MethodName) = true := by decide +kernel
theorem ef_20 (m : MethodId)  : entryFrame m #[(.int (10 : Int32)), (.int ((0 : Int32) + (1 : Int32)))] 2 = mkF m 0 #[.val (.int (10 : Int32)), .val (.int ((0 : Int32) + (1 : Int32)))] [] := by first | (simp [entryFrame, mkF, argsToLocals, Value.category]; done) | rfl
def Q20 (Z : State)  (w_STRING : Addr) (w_OBJECT : Addr) (w_INT : Addr) (w_MAP : Addr) (w_BIGDECIMAL : Addr) (w_DATE : Addr) (w_LONG : Addr) (w_LIST : Addr) (w_BOOLEAN : Addr) (w_DEFAULTCAPACITY_EMPTY_ELEMENTDATA : Addr) (c_DEFAULTCAPACITY_EMPTY_ELEMENTDATA : Cell) (w_EMPTY_LIST : Addr) (w_EMPTY : Addr) (w_ELEMS : Addr) (c_ELEMS : Cell) (w_MIR : Addr)  (h0 : Heap) (n0 : Nat) (v : Option Value) (h : Heap) (L : List Loc) : Prop := v = some (.int (10 : Int32)) ∧ Fr n0 L ∧ Old Z n0 h ∧ Keep h0 h []
set_option maxRecDepth 65536 in
set_option maxHeartbeats 40000000 in
theorem rm20 (l : Launch) (Z : State) (ar0 : Array Value) (hw : ∀ d ∈ tables_1, d.before ar0 Z = true) (ws : List Jvm.Cond)  (w_STRING : Addr) (w_OBJECT : Addr) (w_INT : Addr) (w_MAP : Addr) (w_BIGDECIMAL : Addr) (w_DATE : Addr) (w_LONG : Addr) (w_LIST : Addr) (w_BOOLEAN : Addr) (w_DEFAULTCAPACITY_EMPTY_ELEMENTDATA : Addr) (c_DEFAULTCAPACITY_EMPTY_ELEMENTDATA : Cell) (w_EMPTY_LIST : Addr) (w_EMPTY : Addr) (w_ELEMS : Addr) (c_ELEMS : Cell) (w_MIR : Addr)  (h0 : Heap) (n0 : Nat) (O0 : Old Z n0 h0) (F : Fx Z Z.heap w_STRING w_OBJECT w_INT w_MAP w_BIGDECIMAL w_DATE w_LONG w_LIST w_BOOLEAN w_DEFAULTCAPACITY_EMPTY_ELEMENTDATA c_DEFAULTCAPACITY_EMPTY_ELEMENTDATA w_EMPTY_LIST w_EMPTY w_ELEMS c_ELEMS w_MIR)  :
    MetFree l (⟨"java/lang/Math", "max", "(II)I"⟩ : MethodName) (head1 ((Jvm.Cond.code (⟨"java/lang/Math", "max", "(II)I"⟩ : MethodName) jdk_29_method_65_code 2 (some .int)) :: ws) ({ frames := 0, cells := 0, slots := 0, locals := 0 } : Room)) (fun a U => a = #[(.int (10 : Int32)), (.int ((0 : Int32) + (1 : Int32)))] ∧ Z.Warmed39 U.vm ∧ U.heap = h0) (fun _ _ _ _ _ => True) (fun _ U o U' => ∃ v L, o = .returned v ∧ Q20 Z  w_STRING w_OBJECT w_INT w_MAP w_BIGDECIMAL w_DATE w_LONG w_LIST w_BOOLEAN w_DEFAULTCAPACITY_EMPTY_ELEMENTDATA c_DEFAULTCAPACITY_EMPTY_ELEMENTDATA w_EMPTY_LIST w_EMPTY w_ELEMS c_ELEMS w_MIR  h0 n0 v U'.heap L ∧ FrameEnd U o U' L ({ frames := 0, cells := 0, slots := 0, locals := 0 } : Room).cells ({ frames := 0, cells := 0, slots := 0, locals := 0 } : Room).slots) := by
  obtain ⟨S_STRING, E_STRING, S_OBJECT, E_OBJECT, F_ordinal_STRING, F_ordinal_OBJECT, S_INT, E_INT, F_ordinal_INT, S_MAP, E_MAP, S_BIGDECIMAL, E_BIGDECIMAL, S_DATE, E_DATE, S_LONG, E_LONG, F_ordinal_LONG, F_ordinal_BIGDECIMAL, S_LIST, E_LIST, S_BOOLEAN, E_BOOLEAN, F_ordinal_BOOLEAN, F_ordinal_DATE, S_DEFAULTCAPACITY_EMPTY_ELEMENTDATA, E_DEFAULTCAPACITY_EMPTY_ELEMENTDATA, A_DEFAULTCAPACITY_EMPTY_ELEMENTDATA, L_DEFAULTCAPACITY_EMPTY_ELEMENTDATA, S_EMPTY_LIST, E_EMPTY_LIST, S_EMPTY, E_EMPTY, F_elements_EMPTY_LIST, A_ELEMS, L_ELEMS, M_MIR⟩ := id F
  refine MetFree.of_bodySF pn_20 hisR ?_
  intro p e s m args below meth c s₁ Bd hml0 hP hK
  obtain ⟨rfl, hZ, hh⟩ := hP
  have hx := Bd.exec
  have hby := Bd.bytes
  have hml : c.maxLocals = 2 := hml0
  have hown : s.vm.findClass "java/lang/Math" = some m.cls := findClass_of_methodNamed Bd.named
  have hnm := (name_of_methodNamed Bd.named Bd.method).1
  have X0 : Stand p l e ({ frames := 0, cells := 0, slots := 0, locals := 0 } : Room) s m #[(.int (10 : Int32)), (.int ((0 : Int32) + (1 : Int32)))] below meth c s₁ [] 0 0 := Stand.of_body Bd
  have e0 : s₁.heap = h0 := by rw [← hh, Bd.state]; rfl
  have N0 := Fr.nil n0
  have K0 : Keep h0 h0 [] := Keep.refl _ _
  have pre0 : ∀ t, Steps p.tables e below (s₁.setTop (mkF m 0 #[.val (.int (10 : Int32)), .val (.int ((0 : Int32) + (1 : Int32)))] [])) t → Steps p.tables e below (s₁.setTop (entryFrame m #[(.int (10 : Int32)), (.int ((0 : Int32) + (1 : Int32)))] 2)) t := fun t k => castTop (ef_20 m ) k
  obtain ⟨fs, hr, hrun, hended, hW, hsame⟩ := X0.leave (v := some (.int (10 : Int32))) (fun h => by rw [Bd.returns] at h; cases h)
  refine ⟨_, _, pre0 _ ?_, hrun, hended, _, _, rfl, ?_, ⟨_, rfl⟩, hW, hsame.mono (by decide) (by decide)⟩
  · show Steps p.tables e below (s₁.setTop (mkF m 0 #[.val (.int (10 : Int32)), .val (.int ((0 : Int32) + (1 : Int32)))] [])) _
    refine XS.iloadN X0.here hx rfl (hb hby d20_0) rfl ?_
    show Steps p.tables e below (s₁.setTop (mkF m 1 #[.val (.int (10 : Int32)), .val (.int ((0 : Int32) + (1 : Int32)))] [(.int (10 : Int32))])) _
    refine XS.iloadN X0.here hx rfl (hb hby d20_1) rfl ?_
    show Steps p.tables e below (s₁.setTop (mkF m 2 #[.val (.int (10 : Int32)), .val (.int ((0 : Int32) + (1 : Int32)))] [(.int ((0 : Int32) + (1 : Int32))), (.int (10 : Int32))])) _
    refine XS.icmpNo X0.here hx rfl (hb hby d20_2) rfl (flt (by decide : ¬ ((10 : Int32) < ((0 : Int32) + (1 : Int32))))).1 ?_
    show Steps p.tables e below (s₁.setTop (mkF m 5 #[.val (.int (10 : Int32)), .val (.int ((0 : Int32) + (1 : Int32)))] [])) _
    refine XS.iloadN X0.here hx rfl (hb hby d20_5) rfl ?_
    show Steps p.tables e below (s₁.setTop (mkF m 6 #[.val (.int (10 : Int32)), .val (.int ((0 : Int32) + (1 : Int32)))] [(.int (10 : Int32))])) _
    refine XS.goto X0.here hx rfl (pc0 := 6) (pc' := 10) rfl (hb hby d20_6) (by decide) (by decide) ?_
    show Steps p.tables e below (s₁.setTop (mkF m 10 #[.val (.int (10 : Int32)), .val (.int ((0 : Int32) + (1 : Int32)))] [(.int (10 : Int32))])) _
    exact retI X0 hx Bd.returns (hb hby d20_10) hr
  · show Q20 Z  w_STRING w_OBJECT w_INT w_MAP w_BIGDECIMAL w_DATE w_LONG w_LIST w_BOOLEAN w_DEFAULTCAPACITY_EMPTY_ELEMENTDATA c_DEFAULTCAPACITY_EMPTY_ELEMENTDATA w_EMPTY_LIST w_EMPTY w_ELEMS c_ELEMS w_MIR  h0 n0 _ s₁.heap _
    rw [e0]
    exact ⟨rfl, N0, O0, K0⟩

theorem d19_0 : decode jdk_38_method_6_code 0 = .ok (.aload_n 0, 1) := by decide +kernel
theorem d19_1 : decode jdk_38_method_6_code 1 = .ok (.getfield 9, 3) := by decide +kernel
theorem d19_4 : decode jdk_38_method_6_code 4 = .ok (.arraylength, 1) := by decide +kernel
theorem d19_5 : decode jdk_38_method_6_code 5 = .ok (.istore_n 2, 1) := by decide +kernel
theorem d19_6 : decode jdk_38_method_6_code 6 = .ok (.iload_n 2, 1) := by decide +kernel
theorem d19_7 : decode jdk_38_method_6_code 7 = .ok (.ifCond .gt 13, 3) := by decide +kernel
theorem d19_10 : decode jdk_38_method_6_code 10 = .ok (.aload_n 0, 1) := by decide +kernel
theorem d19_11 : decode jdk_38_method_6_code 11 = .ok (.getfield 9, 3) := by decide +kernel
theorem d19_14 : decode jdk_38_method_6_code 14 = .ok (.getstatic 39, 3) := by decide +kernel
theorem d19_17 : decode jdk_38_method_6_code 17 = .ok (.if_acmp .eq 28, 3) := by decide +kernel
theorem d19_45 : decode jdk_38_method_6_code 45 = .ok (.aload_n 0, 1) := by decide +kernel
theorem d19_46 : decode jdk_38_method_6_code 46 = .ok (.bipush 10, 2) := by decide +kernel
theorem d19_48 : decode jdk_38_method_6_code 48 = .ok (.iload_n 1, 1) := by decide +kernel
theorem d19_49 : decode jdk_38_method_6_code 49 = .ok (.invokestatic 79, 3) := by decide +kernel
theorem d19_52 : decode jdk_38_method_6_code 52 = .ok (.anewarray 7, 3) := by decide +kernel
theorem d19_55 : decode jdk_38_method_6_code 55 = .ok (.dup_x1, 1) := by decide +kernel
theorem d19_56 : decode jdk_38_method_6_code 56 = .ok (.putfield 9, 3) := by decide +kernel
theorem d19_59 : decode jdk_38_method_6_code 59 = .ok (.areturn, 1) := by decide +kernel
theorem pn_19 : plainName "java/util/ArrayList" = true := by first | (simp [plainName, overriddenIn]; done) | decide +kernel
theorem pd_19_49 : parseMethodDescriptor "(II)I" = some ⟨[.int, .int], some .int⟩ := by decide +kernel
theorem ef_19 (m : MethodId) (a0 : Addr) : entryFrame m #[(.ref a0), (.int ((0 : Int32) + (1 : Int32)))] 4 = mkF m 0 #[.val (.ref a0), .val (.int ((0 : Int32) + (1 : Int32))), .unset, .unset] [] := by first | (simp [entryFrame, mkF, argsToLocals, Value.category]; done) | rfl
def Q19 (Z : State) (a0 : Addr) (w_STRING : Addr) (w_OBJECT : Addr) (w_INT : Addr) (w_MAP : Addr) (w_BIGDECIMAL : Addr) (w_DATE : Addr) (w_LONG : Addr) (w_LIST : Addr) (w_BOOLEAN : Addr) (w_DEFAULTCAPACITY_EMPTY_ELEMENTDATA : Addr) (c_DEFAULTCAPACITY_EMPTY_ELEMENTDATA : Cell) (w_EMPTY_LIST : Addr) (w_EMPTY : Addr) (w_ELEMS : Addr) (c_ELEMS : Cell) (w_MIR : Addr) (u_modCount_a0 : Value) (h0 : Heap) (n0 : Nat) (v : Option Value) (h : Heap) (L : List Loc) : Prop := ∃ (b5 : Addr) (k5 : ClassId), v = some (.ref b5) ∧ Fr n0 L ∧ Old Z n0 h ∧ Keep h0 h [a0] ∧ h0.size ≤ b5 ∧ (Fld Z h a0 "java/util/AbstractList" "modCount" "I" u_modCount_a0) ∧ (Fld Z h a0 "java/util/ArrayList" "elementData" "[Ljava/lang/Object;" (.ref b5)) ∧ (Fld Z h a0 "java/util/ArrayList" "size" "I" (.int (0 : Int32))) ∧ (Arv Z h b5 k5 (.object "java/lang/Object") (10 : Int32) [.null, .null, .null, .null, .null, .null, .null, .null, .null, .null] .null) ∧ (Exa Z h b5 "[Ljava/lang/Object;") ∧ (Ovr Z k5 "java/lang/Object")
set_option maxRecDepth 65536 in
set_option maxHeartbeats 40000000 in
theorem rm19 (l : Launch) (Z : State) (ar0 : Array Value) (hw : ∀ d ∈ tables_1, d.before ar0 Z = true) (ws : List Jvm.Cond) (a0 : Addr) (w_STRING : Addr) (w_OBJECT : Addr) (w_INT : Addr) (w_MAP : Addr) (w_BIGDECIMAL : Addr) (w_DATE : Addr) (w_LONG : Addr) (w_LIST : Addr) (w_BOOLEAN : Addr) (w_DEFAULTCAPACITY_EMPTY_ELEMENTDATA : Addr) (c_DEFAULTCAPACITY_EMPTY_ELEMENTDATA : Cell) (w_EMPTY_LIST : Addr) (w_EMPTY : Addr) (w_ELEMS : Addr) (c_ELEMS : Cell) (w_MIR : Addr) (u_modCount_a0 : Value) (h0 : Heap) (n0 : Nat) (O0 : Old Z n0 h0) (F : Fx Z Z.heap w_STRING w_OBJECT w_INT w_MAP w_BIGDECIMAL w_DATE w_LONG w_LIST w_BOOLEAN w_DEFAULTCAPACITY_EMPTY_ELEMENTDATA c_DEFAULTCAPACITY_EMPTY_ELEMENTDATA w_EMPTY_LIST w_EMPTY w_ELEMS c_ELEMS w_MIR) (E_a00 : Exa Z h0 a0 "java/util/ArrayList") (F_modCount_a00 : Fld Z h0 a0 "java/util/AbstractList" "modCount" "I" u_modCount_a0) (F_elementData_a00 : Fld Z h0 a0 "java/util/ArrayList" "elementData" "[Ljava/lang/Object;" (.ref w_DEFAULTCAPACITY_EMPTY_ELEMENTDATA)) (F_size_a00 : Fld Z h0 a0 "java/util/ArrayList" "size" "I" (.int (0 : Int32))) (g_a0 : n0 ≤ a0) :
    MetFree l (⟨"java/util/ArrayList", "grow", "(I)[Ljava/lang/Object;"⟩ : MethodName) (head1 ((Jvm.Cond.code (⟨"java/util/ArrayList", "grow", "(I)[Ljava/lang/Object;"⟩ : MethodName) jdk_38_method_6_code 4 (some (.array (.object "java/lang/Object")))) :: ws) ({ frames := 1, cells := 1, slots := 10, locals := 14 } : Room)) (fun a U => a = #[(.ref a0), (.int ((0 : Int32) + (1 : Int32)))] ∧ Z.Warmed39 U.vm ∧ U.heap = h0) (fun _ _ _ _ _ => True) (fun _ U o U' => ∃ v L, o = .returned v ∧ Q19 Z a0 w_STRING w_OBJECT w_INT w_MAP w_BIGDECIMAL w_DATE w_LONG w_LIST w_BOOLEAN w_DEFAULTCAPACITY_EMPTY_ELEMENTDATA c_DEFAULTCAPACITY_EMPTY_ELEMENTDATA w_EMPTY_LIST w_EMPTY w_ELEMS c_ELEMS w_MIR u_modCount_a0 h0 n0 v U'.heap L ∧ FrameEnd U o U' L ({ frames := 1, cells := 1, slots := 10, locals := 14 } : Room).cells ({ frames := 1, cells := 1, slots := 10, locals := 14 } : Room).slots) := by
  obtain ⟨S_STRING, E_STRING, S_OBJECT, E_OBJECT, F_ordinal_STRING, F_ordinal_OBJECT, S_INT, E_INT, F_ordinal_INT, S_MAP, E_MAP, S_BIGDECIMAL, E_BIGDECIMAL, S_DATE, E_DATE, S_LONG, E_LONG, F_ordinal_LONG, F_ordinal_BIGDECIMAL, S_LIST, E_LIST, S_BOOLEAN, E_BOOLEAN, F_ordinal_BOOLEAN, F_ordinal_DATE, S_DEFAULTCAPACITY_EMPTY_ELEMENTDATA, E_DEFAULTCAPACITY_EMPTY_ELEMENTDATA, A_DEFAULTCAPACITY_EMPTY_ELEMENTDATA, L_DEFAULTCAPACITY_EMPTY_ELEMENTDATA, S_EMPTY_LIST, E_EMPTY_LIST, S_EMPTY, E_EMPTY, F_elements_EMPTY_LIST, A_ELEMS, L_ELEMS, M_MIR⟩ := id F
  refine MetFree.of_bodySF (plainFor_of_name pn_19) hisR ?_
  intro p e s m args below meth c s₁ Bd hml0 hP hK
  obtain ⟨rfl, hZ, hh⟩ := hP
  have hx := Bd.exec
  have hby := Bd.bytes
  have hml : c.maxLocals = 4 := hml0
  have hown : s.vm.findClass "java/util/ArrayList" = some m.cls := findClass_of_methodNamed Bd.named
  have hnm := (name_of_methodNamed Bd.named Bd.method).1
  have X0 : Stand p l e ({ frames := 1, cells := 1, slots := 10, locals := 14 } : Room) s m #[(.ref a0), (.int ((0 : Int32) + (1 : Int32)))] below meth c s₁ [] 0 0 := Stand.of_body Bd
  have e0 : s₁.heap = h0 := by rw [← hh, Bd.state]; rfl
  have N0 := Fr.nil n0
  have K0 : Keep h0 h0 [a0] := Keep.refl _ _
  have pre0 : ∀ t, Steps p.tables e below (s₁.setTop (mkF m 0 #[.val (.ref a0), .val (.int ((0 : Int32) + (1 : Int32))), .unset, .unset] [])) t → Steps p.tables e below (s₁.setTop (entryFrame m #[(.ref a0), (.int ((0 : Int32) + (1 : Int32)))] 4)) t := fun t k => castTop (ef_19 m a0) k
  have E_a0 := E_a00
  have F_modCount_a0 := F_modCount_a00
  have F_elementData_a0 := F_elementData_a00
  have F_size_a0 := F_size_a00
  obtain ⟨T1, X1, e1, st1⟩ := getF X0 hx hZ hown (host := "") (Or.inl (hw _ (List.mem_of_getElem? (i := 25) rfl))) Via.refl e0 F_elementData_a0 (g := (mkF m 1 #[.val (.ref a0), .val (.int ((0 : Int32) + (1 : Int32))), .unset, .unset] [(.ref a0)])) rfl rfl (hb hby d19_1)
  obtain ⟨T2, X2, e2, st2⟩ := getF X1 hx hZ hown (host := "") (Or.inl (hw _ (List.mem_of_getElem? (i := 25) rfl))) Via.refl e1 F_elementData_a0 (g := (mkF m 11 #[.val (.ref a0), .val (.int ((0 : Int32) + (1 : Int32))), .val (.int (0 : Int32)), .unset] [(.ref a0)])) rfl rfl (hb hby d19_11)
  obtain ⟨T3, X3, e3, st3⟩ := getS2 X2 hx hZ hown (host := "") (Or.inl (hw _ (List.mem_of_getElem? (i := 24) rfl))) Via.refl e2 (S_DEFAULTCAPACITY_EMPTY_ELEMENTDATA.ext O0.2) (g := (mkF m 14 #[.val (.ref a0), .val (.int ((0 : Int32) + (1 : Int32))), .val (.int (0 : Int32)), .unset] [(.ref w_DEFAULTCAPACITY_EMPTY_ELEMENTDATA)])) rfl (hb hby d19_14)
  obtain ⟨_, _, ⟨T4, L4, k4, n4⟩, -, X4, ⟨Lc4, hQ4, l4, y4, z4⟩, st4⟩ := Jvm.LawKit.callS X3 hx (y := (⟨"java/lang/Math", "max", "(II)I"⟩ : MethodName)) hown (mvT hZ (hw _ (List.mem_of_getElem? (i := 140) rfl))) (mvT hZ (hw _ (List.mem_of_getElem? (i := 141) rfl))) (mvT hZ (hw _ (List.mem_of_getElem? (i := 142) rfl))) (mvT hZ (hw _ (List.mem_of_getElem? (i := 143) rfl))) (by decide) (backOf (W := 1) (rm20 l Z ar0 hw []  w_STRING w_OBJECT w_INT w_MAP w_BIGDECIMAL w_DATE w_LONG w_LIST w_BOOLEAN w_DEFAULTCAPACITY_EMPTY_ELEMENTDATA c_DEFAULTCAPACITY_EMPTY_ELEMENTDATA w_EMPTY_LIST w_EMPTY w_ELEMS c_ELEMS w_MIR  h0 n0 O0 F ) hZ (hw _ (List.mem_of_getElem? (i := 143) rfl)) (hw _ (List.mem_of_getElem? (i := 142) rfl)) (by decide) (by decide)) (g := (mkF m 49 #[.val (.ref a0), .val (.int ((0 : Int32) + (1 : Int32))), .val (.int (0 : Int32)), .unset] [(.int ((0 : Int32) + (1 : Int32))), (.int (10 : Int32)), (.ref a0)])) rfl (by rw [hml]; rfl) (argsL := [(.int (10 : Int32)), (.int ((0 : Int32) + (1 : Int32)))]) (rest := [(.ref a0)]) (lenOf pd_19_49 rfl) rfl (by show 2 * 0 + _ ≤ _; exact Nat.le_of_eq rfl) (hb hby d19_49) (fun _ _ => ⟨rfl, e3, (by decide : 0 + 0 ≤ _), (by decide : 0 + 0 ≤ _)⟩)
  dsimp only [Pt.U, Pt.locs, Pt.cells, Pt.slots] at X4 l4 y4 z4 st4 hQ4
  subst l4 y4 z4
  obtain ⟨rfl, N4q, O4, Kc4⟩ := hQ4
  have N4 := Fr.app N0 N4q
  have K4 : Keep h0 T4.heap [a0] := K0.trans Kc4 all0
  have E_a0 := (E_a0.keep Kc4)
  have F_modCount_a0 := (F_modCount_a0.keep Kc4 nin0)
  have F_elementData_a0 := (F_elementData_a0.keep Kc4 nin0)
  have F_size_a0 := (F_size_a0.keep Kc4 nin0)
  obtain ⟨T5, h5, k5, X5, e5, E5, A5, Ex5, Ov5, st5⟩ := newRE X4 hx hZ hown (hw _ (List.mem_of_getElem? (i := 144) rfl)) (hw _ (List.mem_of_getElem? (i := 145) rfl)) rfl (g := (mkF m 52 #[.val (.ref a0), .val (.int ((0 : Int32) + (1 : Int32))), .val (.int (0 : Int32)), .unset] [(.int (10 : Int32)), (.ref a0)])) rfl (hb hby d19_52) rfl (by decide) (cap := 10) (by decide) (by decide) (by decide) (by decide) (ad := "[Ljava/lang/Object;") (by decide)
  obtain ⟨b5, g5⟩ : ∃ z, z = T4.heap.size := ⟨_, rfl⟩
  rw [← g5] at A5 Ex5 st5
  have ne_a0_b5 : a0 ≠ b5 := Nat.ne_of_lt (Nat.lt_of_lt_of_le E_a0.lt (Nat.le_of_eq g5.symm))
  have g_b5 : n0 ≤ b5 := Nat.le_trans (own_old_le O4) (Nat.le_of_eq g5.symm)
  have sz_b5 : h0.size ≤ b5 := Nat.le_trans K4.1 (Nat.le_of_eq g5.symm)
  have O5 : Old Z n0 h5 := O4.ext E5
  have K5 : Keep h0 h5 [a0] := K4.ext E5
  have E_a0 := (E_a0.ext E5)
  have F_modCount_a0 := (F_modCount_a0.ext E5)
  have F_elementData_a0 := (F_elementData_a0.ext E5)
  have F_size_a0 := (F_size_a0.ext E5)
  have V_b5 : Arv Z h5 b5 k5 (.object "java/lang/Object") (10 : Int32) [.null, .null, .null, .null, .null, .null, .null, .null, .null, .null] .null := (Arv.new A5 (by decide)).pad (pad_rep [] .null 10)
  have E_b5 := Ex5
  have Ovr_b5 := Ov5
  obtain ⟨T6, h6, X6, e6, W6, st6⟩ := putF X5 hx hZ hown (host := "") (Or.inl (hw _ (List.mem_of_getElem? (i := 25) rfl))) Via.refl e5 F_elementData_a0 E_a0 (Or.inl (hw _ (List.mem_of_getElem? (i := 26) rfl))) (hw _ (List.mem_of_getElem? (i := 2) rfl)) (ty := (.array (.object "java/lang/Object"))) (by decide) rfl rfl (g := (mkF m 56 #[.val (.ref a0), .val (.int ((0 : Int32) + (1 : Int32))), .val (.int (0 : Int32)), .unset] [(.ref b5), (.ref a0), (.ref b5)])) rfl rfl (hb hby d19_56)
  have N6 := Fr.snoc X6 N4 g_a0
  have O6 : Old Z n0 h6 := O5.wr W6 g_a0
  have K6 : Keep h0 h6 [a0] := K5.wr W6 (Or.inl (List.mem_of_getElem? (i := 0) rfl))
  have E_a0 := (E_a0.wr W6)
  have F_modCount_a0 := (F_modCount_a0.other W6 (Or.inr (slot_ne (Or.inl (hw _ (List.mem_of_getElem? (i := 23) rfl))) (Or.inl (hw _ (List.mem_of_getElem? (i := 26) rfl))) (by decide) (t := .int) (t' := (.array (.object "java/lang/Object"))) (by decide) (by decide))))
  have F_size_a0 := (F_size_a0.other W6 (Or.inr (slot_ne (Or.inl (hw _ (List.mem_of_getElem? (i := 82) rfl))) (Or.inl (hw _ (List.mem_of_getElem? (i := 26) rfl))) (by decide) (t := .int) (t' := (.array (.object "java/lang/Object"))) (by decide) (by decide))))
  have V_b5 := (V_b5.other W6 (Ne.symm ne_a0_b5))
  have E_b5 := (E_b5.wr W6)
  have F_elementData_a0 := F_elementData_a0.same W6
  obtain ⟨fs, hr, hrun, hended, hW, hsame⟩ := X6.leave (v := some (.ref b5)) (fun h => by rw [Bd.returns] at h; cases h)
  refine ⟨_, _, pre0 _ ?_, hrun, hended, _, _, rfl, ?_, ⟨_, rfl⟩, hW, hsame.mono (by decide) (by decide)⟩
  · show Steps p.tables e below (s₁.setTop (mkF m 0 #[.val (.ref a0), .val (.int ((0 : Int32) + (1 : Int32))), .unset, .unset] [])) _
    refine XS.aloadN X0.here hx rfl (hb hby d19_0) rfl rfl ?_
    show Steps p.tables e below (s₁.setTop (mkF m 1 #[.val (.ref a0), .val (.int ((0 : Int32) + (1 : Int32))), .unset, .unset] [(.ref a0)])) _
    refine st1 _ ?_
    show Steps p.tables e below (T1.setTop (mkF m 4 #[.val (.ref a0), .val (.int ((0 : Int32) + (1 : Int32))), .unset, .unset] [(.ref w_DEFAULTCAPACITY_EMPTY_ELEMENTDATA)])) _
    refine X1.arraylength hx (by rw [e1]; exact (A_DEFAULTCAPACITY_EMPTY_ELEMENTDATA.ext O0.2).1) (State.isArrayOf_alike hZ.alike A_DEFAULTCAPACITY_EMPTY_ELEMENTDATA.2.1) (g := (mkF m 4 #[.val (.ref a0), .val (.int ((0 : Int32) + (1 : Int32))), .unset, .unset] [(.ref w_DEFAULTCAPACITY_EMPTY_ELEMENTDATA)])) rfl rfl (hb hby d19_4) _ ?_
    rw [show c_DEFAULTCAPACITY_EMPTY_ELEMENTDATA.slots.size.toInt32 = (0 : Int32) from by rw [L_DEFAULTCAPACITY_EMPTY_ELEMENTDATA]; rfl]
    show Steps p.tables e below (T1.setTop (mkF m 5 #[.val (.ref a0), .val (.int ((0 : Int32) + (1 : Int32))), .unset, .unset] [(.int (0 : Int32))])) _
    refine XS.istoreN X1.here hx rfl (hb hby d19_5) rfl (l' := #[.val (.ref a0), .val (.int ((0 : Int32) + (1 : Int32))), .val (.int (0 : Int32)), .unset]) rfl ?_
    show Steps p.tables e below (T1.setTop (mkF m 6 #[.val (.ref a0), .val (.int ((0 : Int32) + (1 : Int32))), .val (.int (0 : Int32)), .unset] [])) _
    refine XS.iloadN X1.here hx rfl (hb hby d19_6) rfl ?_
    show Steps p.tables e below (T1.setTop (mkF m 7 #[.val (.ref a0), .val (.int ((0 : Int32) + (1 : Int32))), .val (.int (0 : Int32)), .unset] [(.int (0 : Int32))])) _
    refine XS.ifNo X1.here hx rfl (hb hby d19_7) rfl ((if0 _ _).trans (flt (by decide : ¬ ((0 : Int32) < (0 : Int32)))).2.2.1) ?_
    show Steps p.tables e below (T1.setTop (mkF m 10 #[.val (.ref a0), .val (.int ((0 : Int32) + (1 : Int32))), .val (.int (0 : Int32)), .unset] [])) _
    refine XS.aloadN X1.here hx rfl (hb hby d19_10) rfl rfl ?_
    show Steps p.tables e below (T1.setTop (mkF m 11 #[.val (.ref a0), .val (.int ((0 : Int32) + (1 : Int32))), .val (.int (0 : Int32)), .unset] [(.ref a0)])) _
    refine st2 _ ?_
    show Steps p.tables e below (T2.setTop (mkF m 14 #[.val (.ref a0), .val (.int ((0 : Int32) + (1 : Int32))), .val (.int (0 : Int32)), .unset] [(.ref w_DEFAULTCAPACITY_EMPTY_ELEMENTDATA)])) _
    refine st3 _ ?_
    show Steps p.tables e below (T3.setTop (mkF m 17 #[.val (.ref a0), .val (.int ((0 : Int32) + (1 : Int32))), .val (.int (0 : Int32)), .unset] [(.ref w_DEFAULTCAPACITY_EMPTY_ELEMENTDATA), (.ref w_DEFAULTCAPACITY_EMPTY_ELEMENTDATA)])) _
    refine Jvm.RoadKit.acmp (g := (mkF m 17 #[.val (.ref a0), .val (.int ((0 : Int32) + (1 : Int32))), .val (.int (0 : Int32)), .unset] [(.ref w_DEFAULTCAPACITY_EMPTY_ELEMENTDATA), (.ref w_DEFAULTCAPACITY_EMPTY_ELEMENTDATA)])) X3 hx rfl rfl rfl (pc0 := 17) (pc' := 45) (same := true) rfl (hb hby d19_17) rfl (decide_eq_true rfl) (by decide) (by decide) ?_
    show Steps p.tables e below (T3.setTop (mkF m 45 #[.val (.ref a0), .val (.int ((0 : Int32) + (1 : Int32))), .val (.int (0 : Int32)), .unset] [])) _
    refine XS.aloadN X3.here hx rfl (hb hby d19_45) rfl rfl ?_
    show Steps p.tables e below (T3.setTop (mkF m 46 #[.val (.ref a0), .val (.int ((0 : Int32) + (1 : Int32))), .val (.int (0 : Int32)), .unset] [(.ref a0)])) _
    refine XS.bipush X3.here hx rfl (hb hby d19_46) ?_
    show Steps p.tables e below (T3.setTop (mkF m 48 #[.val (.ref a0), .val (.int ((0 : Int32) + (1 : Int32))), .val (.int (0 : Int32)), .unset] [(.int (10 : Int32)), (.ref a0)])) _
    refine XS.iloadN X3.here hx rfl (hb hby d19_48) rfl ?_
    show Steps p.tables e below (T3.setTop (mkF m 49 #[.val (.ref a0), .val (.int ((0 : Int32) + (1 : Int32))), .val (.int (0 : Int32)), .unset] [(.int ((0 : Int32) + (1 : Int32))), (.int (10 : Int32)), (.ref a0)])) _
    refine st4 _ ?_
    show Steps p.tables e below (T4.setTop (mkF m 52 #[.val (.ref a0), .val (.int ((0 : Int32) + (1 : Int32))), .val (.int (0 : Int32)), .unset] [(.int (10 : Int32)), (.ref a0)])) _
    refine st5 _ ?_
    show Steps p.tables e below (T5.setTop (mkF m 55 #[.val (.ref a0), .val (.int ((0 : Int32) + (1 : Int32))), .val (.int (0 : Int32)), .unset] [(.ref b5), (.ref a0)])) _
    refine XS.dupX1 X5.here hx rfl (hb hby d19_55) rfl rfl rfl ?_
    show Steps p.tables e below (T5.setTop (mkF m 56 #[.val (.ref a0), .val (.int ((0 : Int32) + (1 : Int32))), .val (.int (0 : Int32)), .unset] [(.ref b5), (.ref a0), (.ref b5)])) _
    refine st6 _ ?_
    show Steps p.tables e below (T6.setTop (mkF m 59 #[.val (.ref a0), .val (.int ((0 : Int32) + (1 : Int32))), .val (.int (0 : Int32)), .unset] [(.ref b5)])) _
    exact retOut X6 hx Bd.returns rfl (Or.inr (Or.inr (Or.inr (Or.inr ⟨rfl, rfl, rfl⟩)))) (hb hby d19_59) hr
  · show Q19 Z a0 w_STRING w_OBJECT w_INT w_MAP w_BIGDECIMAL w_DATE w_LONG w_LIST w_BOOLEAN w_DEFAULTCAPACITY_EMPTY_ELEMENTDATA c_DEFAULTCAPACITY_EMPTY_ELEMENTDATA w_EMPTY_LIST w_EMPTY w_ELEMS c_ELEMS w_MIR u_modCount_a0 h0 n0 _ T6.heap _
    rw [e6]
    exact ⟨b5, k5, rfl, N6, O6, K6, sz_b5, F_modCount_a0, F_elementData_a0, F_size_a0, V_b5, E_b5, Ovr_b5⟩

theorem d18_0 : decode jdk_38_method_7_code 0 = .ok (.aload_n 0, 1) := by decide +kernel
theorem d18_1 : decode jdk_38_method_7_code 1 = .ok (.aload_n 0, 1) := by decide +kernel
theorem d18_2 : decode jdk_38_method_7_code 2 = .ok (.getfield 48, 3) := by decide +kernel
theorem d18_5 : decode jdk_38_method_7_code 5 = .ok (.iconst 1, 1) := by decide +kernel
theorem d18_6 : decode jdk_38_method_7_code 6 = .ok (.iadd, 1) := by decide +kernel
theorem d18_7 : decode jdk_38_method_7_code 7 = .ok (.invokevirtual 69, 3) := by decide +kernel
theorem d18_10 : decode jdk_38_method_7_code 10 = .ok (.areturn, 1) := by decide +kernel
theorem pn_18 : plainName "java/util/ArrayList" = true := by first | (simp [plainName, overriddenIn]; done) | decide +kernel
theorem pd_18_7 : parseMethodDescriptor "(I)[Ljava/lang/Object;" = some ⟨[.int], some (.array (.object "java/lang/Object"))⟩ := by decide +kernel
theorem ef_18 (m : MethodId) (a0 : Addr) : entryFrame m #[(.ref a0)] 1 = mkF m 0 #[.val (.ref a0)] [] := by first | (simp [entryFrame, mkF, argsToLocals, Value.category]; done) | rfl
def Q18 (Z : State) (a0 : Addr) (w_STRING : Addr) (w_OBJECT : Addr) (w_INT : Addr) (w_MAP : Addr) (w_BIGDECIMAL : Addr) (w_DATE : Addr) (w_LONG : Addr) (w_LIST : Addr) (w_BOOLEAN : Addr) (w_DEFAULTCAPACITY_EMPTY_ELEMENTDATA : Addr) (c_DEFAULTCAPACITY_EMPTY_ELEMENTDATA : Cell) (w_EMPTY_LIST : Addr) (w_EMPTY : Addr) (w_ELEMS : Addr) (c_ELEMS : Cell) (w_MIR : Addr) (u_modCount_a0 : Value) (h0 : Heap) (n0 : Nat) (v : Option Value) (h : Heap) (L : List Loc) : Prop := ∃ (b2_5 : Addr) (k5_2 : ClassId), v = some (.ref b2_5) ∧ Fr n0 L ∧ Old Z n0 h ∧ Keep h0 h [a0] ∧ h0.size ≤ b2_5 ∧ (Fld Z h a0 "java/util/AbstractList" "modCount" "I" u_modCount_a0) ∧ (Fld Z h a0 "java/util/ArrayList" "elementData" "[Ljava/lang/Object;" (.ref b2_5)) ∧ (Fld Z h a0 "java/util/ArrayList" "size" "I" (.int (0 : Int32))) ∧ (Arv Z h b2_5 k5_2 (.object "java/lang/Object") (10 : Int32) [.null, .null, .null, .null, .null, .null, .null, .null, .null, .null] .null) ∧ (Exa Z h b2_5 "[Ljava/lang/Object;") ∧ (Ovr Z k5_2 "java/lang/Object")
set_option maxRecDepth 65536 in
set_option maxHeartbeats 40000000 in
theorem rm18 (l : Launch) (Z : State) (ar0 : Array Value) (hw : ∀ d ∈ tables_1, d.before ar0 Z = true) (ws : List Jvm.Cond) (a0 : Addr) (w_STRING : Addr) (w_OBJECT : Addr) (w_INT : Addr) (w_MAP : Addr) (w_BIGDECIMAL : Addr) (w_DATE : Addr) (w_LONG : Addr) (w_LIST : Addr) (w_BOOLEAN : Addr) (w_DEFAULTCAPACITY_EMPTY_ELEMENTDATA : Addr) (c_DEFAULTCAPACITY_EMPTY_ELEMENTDATA : Cell) (w_EMPTY_LIST : Addr) (w_EMPTY : Addr) (w_ELEMS : Addr) (c_ELEMS : Cell) (w_MIR : Addr) (u_modCount_a0 : Value) (h0 : Heap) (n0 : Nat) (O0 : Old Z n0 h0) (F : Fx Z Z.heap w_STRING w_OBJECT w_INT w_MAP w_BIGDECIMAL w_DATE w_LONG w_LIST w_BOOLEAN w_DEFAULTCAPACITY_EMPTY_ELEMENTDATA c_DEFAULTCAPACITY_EMPTY_ELEMENTDATA w_EMPTY_LIST w_EMPTY w_ELEMS c_ELEMS w_MIR) (E_a00 : Exa Z h0 a0 "java/util/ArrayList") (F_modCount_a00 : Fld Z h0 a0 "java/util/AbstractList" "modCount" "I" u_modCount_a0) (F_elementData_a00 : Fld Z h0 a0 "java/util/ArrayList" "elementData" "[Ljava/lang/Object;" (.ref w_DEFAULTCAPACITY_EMPTY_ELEMENTDATA)) (F_size_a00 : Fld Z h0 a0 "java/util/ArrayList" "size" "I" (.int (0 : Int32))) (g_a0 : n0 ≤ a0) :
    MetFree l (⟨"java/util/ArrayList", "grow", "()[Ljava/lang/Object;"⟩ : MethodName) (head1 ((Jvm.Cond.code (⟨"java/util/ArrayList", "grow", "()[Ljava/lang/Object;"⟩ : MethodName) jdk_38_method_7_code 1 (some (.array (.object "java/lang/Object")))) :: ws) ({ frames := 2, cells := 1, slots := 10, locals := 29 } : Room)) (fun a U => a = #[(.ref a0)] ∧ Z.Warmed39 U.vm ∧ U.heap = h0) (fun _ _ _ _ _ => True) (fun _ U o U' => ∃ v L, o = .returned v ∧ Q18 Z a0 w_STRING w_OBJECT w_INT w_MAP w_BIGDECIMAL w_DATE w_LONG w_LIST w_BOOLEAN w_DEFAULTCAPACITY_EMPTY_ELEMENTDATA c_DEFAULTCAPACITY_EMPTY_ELEMENTDATA w_EMPTY_LIST w_EMPTY w_ELEMS c_ELEMS w_MIR u_modCount_a0 h0 n0 v U'.heap L ∧ FrameEnd U o U' L ({ frames := 2, cells := 1, slots := 10, locals := 29 } : Room).cells ({ frames := 2, cells := 1, slots := 10, locals := 29 } : Room).slots) := by
  obtain ⟨S_STRING, E_STRING, S_OBJECT, E_OBJECT, F_ordinal_STRING, F_ordinal_OBJECT, S_INT, E_INT, F_ordinal_INT, S_MAP, E_MAP, S_BIGDECIMAL, E_BIGDECIMAL, S_DATE, E_DATE, S_LONG, E_LONG, F_ordinal_LONG, F_ordinal_BIGDECIMAL, S_LIST, E_LIST, S_BOOLEAN, E_BOOLEAN, F_ordinal_BOOLEAN, F_ordinal_DATE, S_DEFAULTCAPACITY_EMPTY_ELEMENTDATA, E_DEFAULTCAPACITY_EMPTY_ELEMENTDATA, A_DEFAULTCAPACITY_EMPTY_ELEMENTDATA, L_DEFAULTCAPACITY_EMPTY_ELEMENTDATA, S_EMPTY_LIST, E_EMPTY_LIST, S_EMPTY, E_EMPTY, F_elements_EMPTY_LIST, A_ELEMS, L_ELEMS, M_MIR⟩ := id F
  refine MetFree.of_bodySF (plainFor_of_name pn_18) hisR ?_
  intro p e s m args below meth c s₁ Bd hml0 hP hK
  obtain ⟨rfl, hZ, hh⟩ := hP
  have hx := Bd.exec
  have hby := Bd.bytes
  have hml : c.maxLocals = 1 := hml0
  have hown : s.vm.findClass "java/util/ArrayList" = some m.cls := findClass_of_methodNamed Bd.named
  have hnm := (name_of_methodNamed Bd.named Bd.method).1
  have X0 : Stand p l e ({ frames := 2, cells := 1, slots := 10, locals := 29 } : Room) s m #[(.ref a0)] below meth c s₁ [] 0 0 := Stand.of_body Bd
  have e0 : s₁.heap = h0 := by rw [← hh, Bd.state]; rfl
  have N0 := Fr.nil n0
  have K0 : Keep h0 h0 [a0] := Keep.refl _ _
  have pre0 : ∀ t, Steps p.tables e below (s₁.setTop (mkF m 0 #[.val (.ref a0)] [])) t → Steps p.tables e below (s₁.setTop (entryFrame m #[(.ref a0)] 1)) t := fun t k => castTop (ef_18 m a0) k
  have E_a0 := E_a00
  have F_modCount_a0 := F_modCount_a00
  have F_elementData_a0 := F_elementData_a00
  have F_size_a0 := F_size_a00
  obtain ⟨T1, X1, e1, st1⟩ := getF X0 hx hZ hown (host := "") (Or.inl (hw _ (List.mem_of_getElem? (i := 81) rfl))) Via.refl e0 F_size_a0 (g := (mkF m 2 #[.val (.ref a0)] [(.ref a0), (.ref a0)])) rfl rfl (hb hby d18_2)
  obtain ⟨cq2, q2, q2'⟩ := E_a0.cell
  obtain ⟨_, _, ⟨T2, L2, k2, n2⟩, -, X2, ⟨Lc2, hQ2, l2, y2, z2⟩, st2⟩ := X1.privateBack hx (y := (⟨"java/util/ArrayList", "grow", "(I)[Ljava/lang/Object;"⟩ : MethodName)) hown (mvT hZ (hw _ (List.mem_of_getElem? (i := 135) rfl))) (mvT hZ (hw _ (List.mem_of_getElem? (i := 136) rfl))) (mvT hZ (hw _ (List.mem_of_getElem? (i := 138) rfl))) (Cond.privateMethod_at (mvP hZ (hw _ (List.mem_of_getElem? (i := 137) rfl)) (args := #[]))) (mvT hZ (hw _ (List.mem_of_getElem? (i := 139) rfl))) (by decide) (backOf (W := 0) (rm19 l Z ar0 hw [] a0 w_STRING w_OBJECT w_INT w_MAP w_BIGDECIMAL w_DATE w_LONG w_LIST w_BOOLEAN w_DEFAULTCAPACITY_EMPTY_ELEMENTDATA c_DEFAULTCAPACITY_EMPTY_ELEMENTDATA w_EMPTY_LIST w_EMPTY w_ELEMS c_ELEMS w_MIR u_modCount_a0 h0 n0 O0 F E_a0 F_modCount_a0 F_elementData_a0 F_size_a0 g_a0) hZ (hw _ (List.mem_of_getElem? (i := 139) rfl)) (hw _ (List.mem_of_getElem? (i := 3) rfl)) (by decide) (by decide)) (g := (mkF m 7 #[.val (.ref a0)] [(.int ((0 : Int32) + (1 : Int32))), (.ref a0)])) rfl (by rw [hml]; rfl) (Steps.refl _) (a := a0) (by rw [e1]; exact q2) q2' (argsL := [(.int ((0 : Int32) + (1 : Int32)))]) (rest := []) (lenOf pd_18_7 rfl) rfl (by show 2 * 0 + _ ≤ _; exact Nat.le_of_eq rfl) (hb hby d18_7) (fun _ _ => ⟨rfl, e1, (by decide : 0 + 1 ≤ _), (by decide : 0 + 10 ≤ _)⟩)
  dsimp only [Pt.U, Pt.locs, Pt.cells, Pt.slots] at X2 l2 y2 z2 st2 hQ2
  subst l2 y2 z2
  obtain ⟨b2_5, k5_2, rfl, N2q, O2, Kc2, sz2_0, fq2_0, fq2_1, fq2_2, fq2_3, fq2_4, fq2_5⟩ := hQ2
  have N2 := Fr.app N0 N2q
  have ne_a0_b2_5 : a0 ≠ b2_5 := Nat.ne_of_lt (Nat.lt_of_lt_of_le E_a0.lt sz2_0)
  have g_b2_5 : n0 ≤ b2_5 := Nat.le_trans (own_old_le O0) sz2_0
  have sz_b2_5 : h0.size ≤ b2_5 := Nat.le_trans K0.1 sz2_0
  have K2 : Keep h0 T2.heap [a0] := K0.trans Kc2 (allS (Or.inl (List.mem_of_getElem? (i := 0) rfl)) all0)
  have E_a0 := (E_a0.keep Kc2)
  have F_modCount_a0 := fq2_0
  have F_elementData_a0 := fq2_1
  have F_size_a0 := fq2_2
  have V_b2_5 := fq2_3
  have E_b2_5 := fq2_4
  have Ovr_b2_5 := fq2_5
  obtain ⟨fs, hr, hrun, hended, hW, hsame⟩ := X2.leave (v := some (.ref b2_5)) (fun h => by rw [Bd.returns] at h; cases h)
  refine ⟨_, _, pre0 _ ?_, hrun, hended, _, _, rfl, ?_, ⟨_, rfl⟩, hW, hsame.mono (by decide) (by decide)⟩
  · show Steps p.tables e below (s₁.setTop (mkF m 0 #[.val (.ref a0)] [])) _
    refine XS.aloadN X0.here hx rfl (hb hby d18_0) rfl rfl ?_
    show Steps p.tables e below (s₁.setTop (mkF m 1 #[.val (.ref a0)] [(.ref a0)])) _
    refine XS.aloadN X0.here hx rfl (hb hby d18_1) rfl rfl ?_
    show Steps p.tables e below (s₁.setTop (mkF m 2 #[.val (.ref a0)] [(.ref a0), (.ref a0)])) _
    refine st1 _ ?_
    show Steps p.tables e below (T1.setTop (mkF m 5 #[.val (.ref a0)] [(.int (0 : Int32)), (.ref a0)])) _
    refine XS.iconst X1.here hx rfl (hb hby d18_5) ?_
    show Steps p.tables e below (T1.setTop (mkF m 6 #[.val (.ref a0)] [(.int (1 : Int32)), (.int (0 : Int32)), (.ref a0)])) _
    refine XS.iadd X1.here hx rfl (hb hby d18_6) rfl ?_
    show Steps p.tables e below (T1.setTop (mkF m 7 #[.val (.ref a0)] [(.int ((0 : Int32) + (1 : Int32))), (.ref a0)])) _
    refine st2.trans ?_
    show Steps p.tables e below (T2.setTop (mkF m 10 #[.val (.ref a0)] [(.ref b2_5)])) _
    exact retOut X2 hx Bd.returns rfl (Or.inr (Or.inr (Or.inr (Or.inr ⟨rfl, rfl, rfl⟩)))) (hb hby d18_10) hr
  · show Q18 Z a0 w_STRING w_OBJECT w_INT w_MAP w_BIGDECIMAL w_DATE w_LONG w_LIST w_BOOLEAN w_DEFAULTCAPACITY_EMPTY_ELEMENTDATA c_DEFAULTCAPACITY_EMPTY_ELEMENTDATA w_EMPTY_LIST w_EMPTY w_ELEMS c_ELEMS w_MIR u_modCount_a0 h0 n0 _ T2.heap _
    skip
    exact ⟨b2_5, k5_2, rfl, N2, O2, K2, sz_b2_5, F_modCount_a0, F_elementData_a0, F_size_a0, V_b2_5, E_b2_5, Ovr_b2_5⟩

theorem d17a_0 : decode jdk_38_method_24_code 0 = .ok (.iload_n 3, 1) := by decide +kernel
theorem d17a_1 : decode jdk_38_method_24_code 1 = .ok (.aload_n 2, 1) := by decide +kernel
theorem d17a_2 : decode jdk_38_method_24_code 2 = .ok (.arraylength, 1) := by decide +kernel
theorem d17a_3 : decode jdk_38_method_24_code 3 = .ok (.if_icmp .ne 8, 3) := by decide +kernel
theorem d17a_6 : decode jdk_38_method_24_code 6 = .ok (.aload_n 0, 1) := by decide +kernel
theorem d17a_7 : decode jdk_38_method_24_code 7 = .ok (.invokevirtual 129, 3) := by decide +kernel
theorem d17a_10 : decode jdk_38_method_24_code 10 = .ok (.astore_n 2, 1) := by decide +kernel
theorem d17a_11 : decode jdk_38_method_24_code 11 = .ok (.aload_n 2, 1) := by decide +kernel
theorem d17a_12 : decode jdk_38_method_24_code 12 = .ok (.iload_n 3, 1) := by decide +kernel
theorem d17a_13 : decode jdk_38_method_24_code 13 = .ok (.aload_n 1, 1) := by decide +kernel
theorem d17a_14 : decode jdk_38_method_24_code 14 = .ok (.aastore, 1) := by decide +kernel
theorem d17a_15 : decode jdk_38_method_24_code 15 = .ok (.aload_n 0, 1) := by decide +kernel
theorem d17a_16 : decode jdk_38_method_24_code 16 = .ok (.iload_n 3, 1) := by decide +kernel
theorem d17a_17 : decode jdk_38_method_24_code 17 = .ok (.iconst 1, 1) := by decide +kernel
theorem d17a_18 : decode jdk_38_method_24_code 18 = .ok (.iadd, 1) := by decide +kernel
theorem d17a_19 : decode jdk_38_method_24_code 19 = .ok (.putfield 48, 3) := by decide +kernel
theorem d17a_22 : decode jdk_38_method_24_code 22 = .ok (.return_, 1) := by decide +kernel
theorem pn_17a : plainName "java/util/ArrayList" = true := by first | (simp [plainName, overriddenIn]; done) | decide +kernel
theorem pd_17a_7 : parseMethodDescriptor "()[Ljava/lang/Object;" = some ⟨[], some (.array (.object "java/lang/Object"))⟩ := by decide +kernel
theorem ef_17a (m : MethodId) (a0 : Addr) (a1 : Addr) : entryFrame m #[(.ref a0), (.ref a1), (.ref w_DEFAULTCAPACITY_EMPTY_ELEMENTDATA), (.int (0 : Int32))] 4 = mkF m 0 #[.val (.ref a0), .val (.ref a1), .val (.ref w_DEFAULTCAPACITY_EMPTY_ELEMENTDATA), .val (.int (0 : Int32))] [] := by first | (simp [entryFrame, mkF, argsToLocals, Value.category]; done) | rfl
def Q17a (Z : State) (a0 : Addr) (a1 : Addr) (w_STRING : Addr) (w_OBJECT : Addr) (w_INT : Addr) (w_MAP : Addr) (w_BIGDECIMAL : Addr) (w_DATE : Addr) (w_LONG : Addr) (w_LIST : Addr) (w_BOOLEAN : Addr) (w_DEFAULTCAPACITY_EMPTY_ELEMENTDATA : Addr) (c_DEFAULTCAPACITY_EMPTY_ELEMENTDATA : Cell) (w_EMPTY_LIST : Addr) (w_EMPTY : Addr) (w_ELEMS : Addr) (c_ELEMS : Cell) (w_MIR : Addr) (u_modCount_a0 : Value) (h0 : Heap) (n0 : Nat) (v : Option Value) (h : Heap) (L : List Loc) : Prop := ∃ (b1_2_5 : Addr) (k5_2_1 : ClassId), v = none ∧ Fr n0 L ∧ Old Z n0 h ∧ Keep h0 h [a0] ∧ h0.size ≤ b1_2_5 ∧ (Fld Z h a0 "java/util/AbstractList" "modCount" "I" u_modCount_a0) ∧ (Fld Z h a0 "java/util/ArrayList" "elementData" "[Ljava/lang/Object;" (.ref b1_2_5)) ∧ (Fld Z h a0 "java/util/ArrayList" "size" "I" (.int ((0 : Int32) + (1 : Int32)))) ∧ (Arv Z h b1_2_5 k5_2_1 (.object "java/lang/Object") (10 : Int32) [(.ref a1), .null, .null, .null, .null, .null, .null, .null, .null, .null] .null) ∧ (Exa Z h b1_2_5 "[Ljava/lang/Object;") ∧ (Ovr Z k5_2_1 "java/lang/Object")
set_option maxRecDepth 65536 in
set_option maxHeartbeats 40000000 in
theorem rm17a (l : Launch) (Z : State) (ar0 : Array Value) (hw : ∀ d ∈ tables_1, d.before ar0 Z = true) (ws : List Jvm.Cond) (a0 : Addr) (a1 : Addr) (w_STRING : Addr) (w_OBJECT : Addr) (w_INT : Addr) (w_MAP : Addr) (w_BIGDECIMAL : Addr) (w_DATE : Addr) (w_LONG : Addr) (w_LIST : Addr) (w_BOOLEAN : Addr) (w_DEFAULTCAPACITY_EMPTY_ELEMENTDATA : Addr) (c_DEFAULTCAPACITY_EMPTY_ELEMENTDATA : Cell) (w_EMPTY_LIST : Addr) (w_EMPTY : Addr) (w_ELEMS : Addr) (c_ELEMS : Cell) (w_MIR : Addr) (u_modCount_a0 : Value) (h0 : Heap) (n0 : Nat) (O0 : Old Z n0 h0) (F : Fx Z Z.heap w_STRING w_OBJECT w_INT w_MAP w_BIGDECIMAL w_DATE w_LONG w_LIST w_BOOLEAN w_DEFAULTCAPACITY_EMPTY_ELEMENTDATA c_DEFAULTCAPACITY_EMPTY_ELEMENTDATA w_EMPTY_LIST w_EMPTY w_ELEMS c_ELEMS w_MIR) (E_a00 : Exa Z h0 a0 "java/util/ArrayList") (F_modCount_a00 : Fld Z h0 a0 "java/util/AbstractList" "modCount" "I" u_modCount_a0) (F_elementData_a00 : Fld Z h0 a0 "java/util/ArrayList" "elementData" "[Ljava/lang/Object;" (.ref w_DEFAULTCAPACITY_EMPTY_ELEMENTDATA)) (F_size_a00 : Fld Z h0 a0 "java/util/ArrayList" "size" "I" (.int (0 : Int32))) (E_a10 : Exa Z h0 a1 "com/example/declared_endpoints/declaredendpoints/model/FieldType$Container") (g_a0 : n0 ≤ a0) :
    MetFree l (⟨"java/util/ArrayList", "add", "(Ljava/lang/Object;[Ljava/lang/Object;I)V"⟩ : MethodName) (head1 ((Jvm.Cond.code (⟨"java/util/ArrayList", "add", "(Ljava/lang/Object;[Ljava/lang/Object;I)V"⟩ : MethodName) jdk_38_method_24_code 4 none) :: ws) ({ frames := 3, cells := 1, slots := 10, locals := 41 } : Room)) (fun a U => a = #[(.ref a0), (.ref a1), (.ref w_DEFAULTCAPACITY_EMPTY_ELEMENTDATA), (.int (0 : Int32))] ∧ Z.Warmed39 U.vm ∧ U.heap = h0) (fun _ _ _ _ _ => True) (fun _ U o U' => ∃ v L, o = .returned v ∧ Q17a Z a0 a1 w_STRING w_OBJECT w_INT w_MAP w_BIGDECIMAL w_DATE w_LONG w_LIST w_BOOLEAN w_DEFAULTCAPACITY_EMPTY_ELEMENTDATA c_DEFAULTCAPACITY_EMPTY_ELEMENTDATA w_EMPTY_LIST w_EMPTY w_ELEMS c_ELEMS w_MIR u_modCount_a0 h0 n0 v U'.heap L ∧ FrameEnd U o U' L ({ frames := 3, cells := 1, slots := 10, locals := 41 } : Room).cells ({ frames := 3, cells := 1, slots := 10, locals := 41 } : Room).slots) := by
  obtain ⟨S_STRING, E_STRING, S_OBJECT, E_OBJECT, F_ordinal_STRING, F_ordinal_OBJECT, S_INT, E_INT, F_ordinal_INT, S_MAP, E_MAP, S_BIGDECIMAL, E_BIGDECIMAL, S_DATE, E_DATE, S_LONG, E_LONG, F_ordinal_LONG, F_ordinal_BIGDECIMAL, S_LIST, E_LIST, S_BOOLEAN, E_BOOLEAN, F_ordinal_BOOLEAN, F_ordinal_DATE, S_DEFAULTCAPACITY_EMPTY_ELEMENTDATA, E_DEFAULTCAPACITY_EMPTY_ELEMENTDATA, A_DEFAULTCAPACITY_EMPTY_ELEMENTDATA, L_DEFAULTCAPACITY_EMPTY_ELEMENTDATA, S_EMPTY_LIST, E_EMPTY_LIST, S_EMPTY, E_EMPTY, F_elements_EMPTY_LIST, A_ELEMS, L_ELEMS, M_MIR⟩ := id F
  refine MetFree.of_bodySF (plainFor_of_name pn_17a) hisR ?_
  intro p e s m args below meth c s₁ Bd hml0 hP hK
  obtain ⟨rfl, hZ, hh⟩ := hP
  have hx := Bd.exec
  have hby := Bd.bytes
  have hml : c.maxLocals = 4 := hml0
  have hown : s.vm.findClass "java/util/ArrayList" = some m.cls := findClass_of_methodNamed Bd.named
  have hnm := (name_of_methodNamed Bd.named Bd.method).1
  have X0 : Stand p l e ({ frames := 3, cells := 1, slots := 10, locals := 41 } : Room) s m #[(.ref a0), (.ref a1), (.ref w_DEFAULTCAPACITY_EMPTY_ELEMENTDATA), (.int (0 : Int32))] below meth c s₁ [] 0 0 := Stand.of_body Bd
  have e0 : s₁.heap = h0 := by rw [← hh, Bd.state]; rfl
  have N0 := Fr.nil n0
  have K0 : Keep h0 h0 [a0] := Keep.refl _ _
  have pre0 : ∀ t, Steps p.tables e below (s₁.setTop (mkF m 0 #[.val (.ref a0), .val (.ref a1), .val (.ref w_DEFAULTCAPACITY_EMPTY_ELEMENTDATA), .val (.int (0 : Int32))] [])) t → Steps p.tables e below (s₁.setTop (entryFrame m #[(.ref a0), (.ref a1), (.ref w_DEFAULTCAPACITY_EMPTY_ELEMENTDATA), (.int (0 : Int32))] 4)) t := fun t k => castTop (ef_17a m a0 a1) k
  have E_a0 := E_a00
  have F_modCount_a0 := F_modCount_a00
  have F_elementData_a0 := F_elementData_a00
  have F_size_a0 := F_size_a00
  have E_a1 := E_a10
  obtain ⟨cq1, q1, q1'⟩ := E_a0.cell
  obtain ⟨_, _, ⟨T1, L1, k1, n1⟩, -, X1, ⟨Lc1, hQ1, l1, y1, z1⟩, st1⟩ := X0.privateBack hx (y := (⟨"java/util/ArrayList", "grow", "()[Ljava/lang/Object;"⟩ : MethodName)) hown (mvT hZ (hw _ (List.mem_of_getElem? (i := 130) rfl))) (mvT hZ (hw _ (List.mem_of_getElem? (i := 131) rfl))) (mvT hZ (hw _ (List.mem_of_getElem? (i := 133) rfl))) (Cond.privateMethod_at (mvP hZ (hw _ (List.mem_of_getElem? (i := 132) rfl)) (args := #[]))) (mvT hZ (hw _ (List.mem_of_getElem? (i := 134) rfl))) (by decide) (backOf (W := 0) (rm18 l Z ar0 hw [] a0 w_STRING w_OBJECT w_INT w_MAP w_BIGDECIMAL w_DATE w_LONG w_LIST w_BOOLEAN w_DEFAULTCAPACITY_EMPTY_ELEMENTDATA c_DEFAULTCAPACITY_EMPTY_ELEMENTDATA w_EMPTY_LIST w_EMPTY w_ELEMS c_ELEMS w_MIR u_modCount_a0 h0 n0 O0 F E_a0 F_modCount_a0 F_elementData_a0 F_size_a0 g_a0) hZ (hw _ (List.mem_of_getElem? (i := 134) rfl)) (hw _ (List.mem_of_getElem? (i := 3) rfl)) (by decide) (by decide)) (g := (mkF m 7 #[.val (.ref a0), .val (.ref a1), .val (.ref w_DEFAULTCAPACITY_EMPTY_ELEMENTDATA), .val (.int (0 : Int32))] [(.ref a0)])) rfl (by rw [hml]; rfl) (Steps.refl _) (a := a0) (by rw [e0]; exact q1) q1' (argsL := []) (rest := []) (lenOf pd_17a_7 rfl) rfl (by show 2 * 0 + _ ≤ _; exact Nat.le_of_eq rfl) (hb hby d17a_7) (fun _ _ => ⟨rfl, e0, (by decide : 0 + 1 ≤ _), (by decide : 0 + 10 ≤ _)⟩)
  dsimp only [Pt.U, Pt.locs, Pt.cells, Pt.slots] at X1 l1 y1 z1 st1 hQ1
  subst l1 y1 z1
  obtain ⟨b1_2_5, k5_2_1, rfl, N1q, O1, Kc1, sz1_0, fq1_0, fq1_1, fq1_2, fq1_3, fq1_4, fq1_5⟩ := hQ1
  have N1 := Fr.app N0 N1q
  have ne_a0_b1_2_5 : a0 ≠ b1_2_5 := Nat.ne_of_lt (Nat.lt_of_lt_of_le E_a0.lt sz1_0)
  have ne_a1_b1_2_5 : a1 ≠ b1_2_5 := Nat.ne_of_lt (Nat.lt_of_lt_of_le E_a1.lt sz1_0)
  have g_b1_2_5 : n0 ≤ b1_2_5 := Nat.le_trans (own_old_le O0) sz1_0
  have sz_b1_2_5 : h0.size ≤ b1_2_5 := Nat.le_trans K0.1 sz1_0
  have K1 : Keep h0 T1.heap [a0] := K0.trans Kc1 (allS (Or.inl (List.mem_of_getElem? (i := 0) rfl)) all0)
  have E_a0 := (E_a0.keep Kc1)
  have E_a1 := (E_a1.keep Kc1)
  have F_modCount_a0 := fq1_0
  have F_elementData_a0 := fq1_1
  have F_size_a0 := fq1_2
  have V_b1_2_5 := fq1_3
  have E_b1_2_5 := fq1_4
  have Ovr_b1_2_5 := fq1_5
  obtain ⟨c2, Ar2, q2, S2, M2, Ha2, G2⟩ := id V_b1_2_5
  obtain ⟨T3, h3, X3, e3, W3, st3⟩ := stR X1 hx hZ rfl Ar2 (j := (0 : Int32)) (inb_of S2 ⟨by decide, by decide⟩) rfl (Sto.ofV Ar2 q2 Ovr_b1_2_5 (Ins.of_exa E_a1 (hw _ (List.mem_of_getElem? (i := 146) rfl)))) (g := (mkF m 14 #[.val (.ref a0), .val (.ref a1), .val (.ref b1_2_5), .val (.int (0 : Int32))] [(.ref a1), (.int (0 : Int32)), (.ref b1_2_5)])) rfl rfl (hb hby d17a_14)
  have N3 := Fr.snoc X3 N1 g_b1_2_5
  have O3 : Old Z n0 h3 := O1.wr W3 g_b1_2_5
  have K3 : Keep h0 h3 [a0] := K1.wr W3 (Or.inr sz_b1_2_5)
  have E_a0 := (E_a0.wr W3)
  have E_a1 := (E_a1.wr W3)
  have F_modCount_a0 := (F_modCount_a0.other W3 (Or.inl ne_a0_b1_2_5))
  have F_elementData_a0 := (F_elementData_a0.other W3 (Or.inl ne_a0_b1_2_5))
  have F_size_a0 := (F_size_a0.other W3 (Or.inl ne_a0_b1_2_5))
  have E_b1_2_5 := (E_b1_2_5.wr W3)
  have V_b1_2_5 : Arv Z h3 b1_2_5 k5_2_1 (.object "java/lang/Object") (10 : Int32) [(.ref a1), .null, .null, .null, .null, .null, .null, .null, .null, .null] .null := Arv.set Ar2 q2 S2 M2 Ha2 G2 rfl W3 0 rfl (Nat.le_of_ble_eq_true rfl)
  obtain ⟨T4, h4, X4, e4, W4, st4⟩ := putF X3 hx hZ hown (host := "") (Or.inl (hw _ (List.mem_of_getElem? (i := 81) rfl))) Via.refl e3 F_size_a0 E_a0 (Or.inl (hw _ (List.mem_of_getElem? (i := 82) rfl))) (hw _ (List.mem_of_getElem? (i := 2) rfl)) (ty := .int) (by decide) rfl rfl (g := (mkF m 19 #[.val (.ref a0), .val (.ref a1), .val (.ref b1_2_5), .val (.int (0 : Int32))] [(.int ((0 : Int32) + (1 : Int32))), (.ref a0)])) rfl rfl (hb hby d17a_19)
  have N4 := Fr.snoc X4 N3 g_a0
  have O4 : Old Z n0 h4 := O3.wr W4 g_a0
  have K4 : Keep h0 h4 [a0] := K3.wr W4 (Or.inl (List.mem_of_getElem? (i := 0) rfl))
  have E_a0 := (E_a0.wr W4)
  have E_a1 := (E_a1.wr W4)
  have F_modCount_a0 := (F_modCount_a0.other W4 (Or.inr (slot_ne (Or.inl (hw _ (List.mem_of_getElem? (i := 23) rfl))) (Or.inl (hw _ (List.mem_of_getElem? (i := 82) rfl))) (by decide) (t := .int) (t' := .int) (by decide) (by decide))))
  have F_elementData_a0 := (F_elementData_a0.other W4 (Or.inr (slot_ne (Or.inl (hw _ (List.mem_of_getElem? (i := 26) rfl))) (Or.inl (hw _ (List.mem_of_getElem? (i := 82) rfl))) (by decide) (t := (.array (.object "java/lang/Object"))) (t' := .int) (by decide) (by decide))))
  have V_b1_2_5 := (V_b1_2_5.other W4 (Ne.symm ne_a0_b1_2_5))
  have E_b1_2_5 := (E_b1_2_5.wr W4)
  have F_size_a0 := F_size_a0.same W4
  obtain ⟨fs, hr, hrun, hended, hW, hsame⟩ := X4.leave (v := none) (fun h => rfl)
  refine ⟨_, _, pre0 _ ?_, hrun, hended, _, _, rfl, ?_, ⟨_, rfl⟩, hW, hsame.mono (by decide) (by decide)⟩
  · show Steps p.tables e below (s₁.setTop (mkF m 0 #[.val (.ref a0), .val (.ref a1), .val (.ref w_DEFAULTCAPACITY_EMPTY_ELEMENTDATA), .val (.int (0 : Int32))] [])) _
    refine XS.iloadN X0.here hx rfl (hb hby d17a_0) rfl ?_
    show Steps p.tables e below (s₁.setTop (mkF m 1 #[.val (.ref a0), .val (.ref a1), .val (.ref w_DEFAULTCAPACITY_EMPTY_ELEMENTDATA), .val (.int (0 : Int32))] [(.int (0 : Int32))])) _
    refine XS.aloadN X0.here hx rfl (hb hby d17a_1) rfl rfl ?_
    show Steps p.tables e below (s₁.setTop (mkF m 2 #[.val (.ref a0), .val (.ref a1), .val (.ref w_DEFAULTCAPACITY_EMPTY_ELEMENTDATA), .val (.int (0 : Int32))] [(.ref w_DEFAULTCAPACITY_EMPTY_ELEMENTDATA), (.int (0 : Int32))])) _
    refine X0.arraylength hx (by rw [e0]; exact (A_DEFAULTCAPACITY_EMPTY_ELEMENTDATA.ext O0.2).1) (State.isArrayOf_alike hZ.alike A_DEFAULTCAPACITY_EMPTY_ELEMENTDATA.2.1) (g := (mkF m 2 #[.val (.ref a0), .val (.ref a1), .val (.ref w_DEFAULTCAPACITY_EMPTY_ELEMENTDATA), .val (.int (0 : Int32))] [(.ref w_DEFAULTCAPACITY_EMPTY_ELEMENTDATA), (.int (0 : Int32))])) rfl rfl (hb hby d17a_2) _ ?_
    rw [show c_DEFAULTCAPACITY_EMPTY_ELEMENTDATA.slots.size.toInt32 = (0 : Int32) from by rw [L_DEFAULTCAPACITY_EMPTY_ELEMENTDATA]; rfl]
    show Steps p.tables e below (s₁.setTop (mkF m 3 #[.val (.ref a0), .val (.ref a1), .val (.ref w_DEFAULTCAPACITY_EMPTY_ELEMENTDATA), .val (.int (0 : Int32))] [(.int (0 : Int32)), (.int (0 : Int32))])) _
    refine XS.icmpNo X0.here hx rfl (hb hby d17a_3) rfl (teq (by decide : (0 : Int32) = (0 : Int32))).2 ?_
    show Steps p.tables e below (s₁.setTop (mkF m 6 #[.val (.ref a0), .val (.ref a1), .val (.ref w_DEFAULTCAPACITY_EMPTY_ELEMENTDATA), .val (.int (0 : Int32))] [])) _
    refine XS.aloadN X0.here hx rfl (hb hby d17a_6) rfl rfl ?_
    show Steps p.tables e below (s₁.setTop (mkF m 7 #[.val (.ref a0), .val (.ref a1), .val (.ref w_DEFAULTCAPACITY_EMPTY_ELEMENTDATA), .val (.int (0 : Int32))] [(.ref a0)])) _
    refine st1.trans ?_
    show Steps p.tables e below (T1.setTop (mkF m 10 #[.val (.ref a0), .val (.ref a1), .val (.ref w_DEFAULTCAPACITY_EMPTY_ELEMENTDATA), .val (.int (0 : Int32))] [(.ref b1_2_5)])) _
    refine XS.astoreN X1.here hx rfl (hb hby d17a_10) rfl rfl (l' := #[.val (.ref a0), .val (.ref a1), .val (.ref b1_2_5), .val (.int (0 : Int32))]) rfl ?_
    show Steps p.tables e below (T1.setTop (mkF m 11 #[.val (.ref a0), .val (.ref a1), .val (.ref b1_2_5), .val (.int (0 : Int32))] [])) _
    refine XS.aloadN X1.here hx rfl (hb hby d17a_11) rfl rfl ?_
    show Steps p.tables e below (T1.setTop (mkF m 12 #[.val (.ref a0), .val (.ref a1), .val (.ref b1_2_5), .val (.int (0 : Int32))] [(.ref b1_2_5)])) _
    refine XS.iloadN X1.here hx rfl (hb hby d17a_12) rfl ?_
    show Steps p.tables e below (T1.setTop (mkF m 13 #[.val (.ref a0), .val (.ref a1), .val (.ref b1_2_5), .val (.int (0 : Int32))] [(.int (0 : Int32)), (.ref b1_2_5)])) _
    refine XS.aloadN X1.here hx rfl (hb hby d17a_13) rfl rfl ?_
    show Steps p.tables e below (T1.setTop (mkF m 14 #[.val (.ref a0), .val (.ref a1), .val (.ref b1_2_5), .val (.int (0 : Int32))] [(.ref a1), (.int (0 : Int32)), (.ref b1_2_5)])) _
    refine st3 _ ?_
    show Steps p.tables e below (T3.setTop (mkF m 15 #[.val (.ref a0), .val (.ref a1), .val (.ref b1_2_5), .val (.int (0 : Int32))] [])) _
    refine XS.aloadN X3.here hx rfl (hb hby d17a_15) rfl rfl ?_
    show Steps p.tables e below (T3.setTop (mkF m 16 #[.val (.ref a0), .val (.ref a1), .val (.ref b1_2_5), .val (.int (0 : Int32))] [(.ref a0)])) _
    refine XS.iloadN X3.here hx rfl (hb hby d17a_16) rfl ?_
    show Steps p.tables e below (T3.setTop (mkF m 17 #[.val (.ref a0), .val (.ref a1), .val (.ref b1_2_5), .val (.int (0 : Int32))] [(.int (0 : Int32)), (.ref a0)])) _
    refine XS.iconst X3.here hx rfl (hb hby d17a_17) ?_
    show Steps p.tables e below (T3.setTop (mkF m 18 #[.val (.ref a0), .val (.ref a1), .val (.ref b1_2_5), .val (.int (0 : Int32))] [(.int (1 : Int32)), (.int (0 : Int32)), (.ref a0)])) _
    refine XS.iadd X3.here hx rfl (hb hby d17a_18) rfl ?_
    show Steps p.tables e below (T3.setTop (mkF m 19 #[.val (.ref a0), .val (.ref a1), .val (.ref b1_2_5), .val (.int (0 : Int32))] [(.int ((0 : Int32) + (1 : Int32))), (.ref a0)])) _
    refine st4 _ ?_
    show Steps p.tables e below (T4.setTop (mkF m 22 #[.val (.ref a0), .val (.ref a1), .val (.ref b1_2_5), .val (.int (0 : Int32))] [])) _
    exact X4.returnOut hx Bd.returns (hb hby d17a_22) hr
  · show Q17a Z a0 a1 w_STRING w_OBJECT w_INT w_MAP w_BIGDECIMAL w_DATE w_LONG w_LIST w_BOOLEAN w_DEFAULTCAPACITY_EMPTY_ELEMENTDATA c_DEFAULTCAPACITY_EMPTY_ELEMENTDATA w_EMPTY_LIST w_EMPTY w_ELEMS c_ELEMS w_MIR u_modCount_a0 h0 n0 _ T4.heap _
    rw [e4]
    exact ⟨b1_2_5, k5_2_1, rfl, N4, O4, K4, sz_b1_2_5, F_modCount_a0, F_elementData_a0, F_size_a0, V_b1_2_5, E_b1_2_5, Ovr_b1_2_5⟩

theorem d16a_0 : decode jdk_38_method_25_code 0 = .ok (.aload_n 0, 1) := by decide +kernel
theorem d16a_1 : decode jdk_38_method_25_code 1 = .ok (.dup, 1) := by decide +kernel
theorem d16a_2 : decode jdk_38_method_25_code 2 = .ok (.getfield 63, 3) := by decide +kernel
theorem d16a_5 : decode jdk_38_method_25_code 5 = .ok (.iconst 1, 1) := by decide +kernel
theorem d16a_6 : decode jdk_38_method_25_code 6 = .ok (.iadd, 1) := by decide +kernel
theorem d16a_7 : decode jdk_38_method_25_code 7 = .ok (.putfield 63, 3) := by decide +kernel
theorem d16a_10 : decode jdk_38_method_25_code 10 = .ok (.aload_n 0, 1) := by decide +kernel
theorem d16a_11 : decode jdk_38_method_25_code 11 = .ok (.aload_n 1, 1) := by decide +kernel
theorem d16a_12 : decode jdk_38_method_25_code 12 = .ok (.aload_n 0, 1) := by decide +kernel
theorem d16a_13 : decode jdk_38_method_25_code 13 = .ok (.getfield 9, 3) := by decide +kernel
theorem d16a_16 : decode jdk_38_method_25_code 16 = .ok (.aload_n 0, 1) := by decide +kernel
theorem d16a_17 : decode jdk_38_method_25_code 17 = .ok (.getfield 48, 3) := by decide +kernel
theorem d16a_20 : decode jdk_38_method_25_code 20 = .ok (.invokevirtual 131, 3) := by decide +kernel
theorem d16a_23 : decode jdk_38_method_25_code 23 = .ok (.iconst 1, 1) := by decide +kernel
theorem d16a_24 : decode jdk_38_method_25_code 24 = .ok (.ireturn, 1) := by decide +kernel
theorem pn_16a : plainName "java/util/ArrayList" = true := by first | (simp [plainName, overriddenIn]; done) | decide +kernel
theorem pd_16a_20 : parseMethodDescriptor "(Ljava/lang/Object;[Ljava/lang/Object;I)V" = some ⟨[(.object "java/lang/Object"), (.array (.object "java/lang/Object")), .int], none⟩ := by decide +kernel
theorem ef_16a (m : MethodId) (a0 : Addr) (a1 : Addr) : entryFrame m #[(.ref a0), (.ref a1)] 2 = mkF m 0 #[.val (.ref a0), .val (.ref a1)] [] := by first | (simp [entryFrame, mkF, argsToLocals, Value.category]; done) | rfl
def Q16a (Z : State) (a0 : Addr) (a1 : Addr) (w_STRING : Addr) (w_OBJECT : Addr) (w_INT : Addr) (w_MAP : Addr) (w_BIGDECIMAL : Addr) (w_DATE : Addr) (w_LONG : Addr) (w_LIST : Addr) (w_BOOLEAN : Addr) (w_DEFAULTCAPACITY_EMPTY_ELEMENTDATA : Addr) (c_DEFAULTCAPACITY_EMPTY_ELEMENTDATA : Cell) (w_EMPTY_LIST : Addr) (w_EMPTY : Addr) (w_ELEMS : Addr) (c_ELEMS : Cell) (w_MIR : Addr) (m0 : Int32) (h0 : Heap) (n0 : Nat) (v : Option Value) (h : Heap) (L : List Loc) : Prop := ∃ (b5_1_2_5 : Addr) (k5_2_1_5 : ClassId), v = some (.int (1 : Int32)) ∧ Fr n0 L ∧ Old Z n0 h ∧ Keep h0 h [a0] ∧ h0.size ≤ b5_1_2_5 ∧ (Fld Z h a0 "java/util/AbstractList" "modCount" "I" (.int (m0 + (1 : Int32)))) ∧ (Fld Z h a0 "java/util/ArrayList" "elementData" "[Ljava/lang/Object;" (.ref b5_1_2_5)) ∧ (Fld Z h a0 "java/util/ArrayList" "size" "I" (.int ((0 : Int32) + (1 : Int32)))) ∧ (Arv Z h b5_1_2_5 k5_2_1_5 (.object "java/lang/Object") (10 : Int32) [(.ref a1), .null, .null, .null, .null, .null, .null, .null, .null, .null] .null) ∧ (Exa Z h b5_1_2_5 "[Ljava/lang/Object;") ∧ (Ovr Z k5_2_1_5 "java/lang/Object")
set_option maxRecDepth 65536 in
set_option maxHeartbeats 40000000 in
theorem rm16a (l : Launch) (Z : State) (ar0 : Array Value) (hw : ∀ d ∈ tables_1, d.before ar0 Z = true) (ws : List Jvm.Cond) (a0 : Addr) (a1 : Addr) (w_STRING : Addr) (w_OBJECT : Addr) (w_INT : Addr) (w_MAP : Addr) (w_BIGDECIMAL : Addr) (w_DATE : Addr) (w_LONG : Addr) (w_LIST : Addr) (w_BOOLEAN : Addr) (w_DEFAULTCAPACITY_EMPTY_ELEMENTDATA : Addr) (c_DEFAULTCAPACITY_EMPTY_ELEMENTDATA : Cell) (w_EMPTY_LIST : Addr) (w_EMPTY : Addr) (w_ELEMS : Addr) (c_ELEMS : Cell) (w_MIR : Addr) (m0 : Int32) (h0 : Heap) (n0 : Nat) (O0 : Old Z n0 h0) (F : Fx Z Z.heap w_STRING w_OBJECT w_INT w_MAP w_BIGDECIMAL w_DATE w_LONG w_LIST w_BOOLEAN w_DEFAULTCAPACITY_EMPTY_ELEMENTDATA c_DEFAULTCAPACITY_EMPTY_ELEMENTDATA w_EMPTY_LIST w_EMPTY w_ELEMS c_ELEMS w_MIR) (E_a00 : Exa Z h0 a0 "java/util/ArrayList") (F_modCount_a00 : Fld Z h0 a0 "java/util/AbstractList" "modCount" "I" (.int m0)) (F_elementData_a00 : Fld Z h0 a0 "java/util/ArrayList" "elementData" "[Ljava/lang/Object;" (.ref w_DEFAULTCAPACITY_EMPTY_ELEMENTDATA)) (F_size_a00 : Fld Z h0 a0 "java/util/ArrayList" "size" "I" (.int (0 : Int32))) (E_a10 : Exa Z h0 a1 "com/example/declared_endpoints/declaredendpoints/model/FieldType$Container") (g_a0 : n0 ≤ a0) :
    MetFree l (⟨"java/util/ArrayList", "add", "(Ljava/lang/Object;)Z"⟩ : MethodName) (head1 ((Jvm.Cond.code (⟨"java/util/ArrayList", "add", "(Ljava/lang/Object;)Z"⟩ : MethodName) jdk_38_method_25_code 2 (some .boolean)) :: ws) ({ frames := 4, cells := 1, slots := 10, locals := 56 } : Room)) (fun a U => a = #[(.ref a0), (.ref a1)] ∧ Z.Warmed39 U.vm ∧ U.heap = h0) (fun _ _ _ _ _ => True) (fun _ U o U' => ∃ v L, o = .returned v ∧ Q16a Z a0 a1 w_STRING w_OBJECT w_INT w_MAP w_BIGDECIMAL w_DATE w_LONG w_LIST w_BOOLEAN w_DEFAULTCAPACITY_EMPTY_ELEMENTDATA c_DEFAULTCAPACITY_EMPTY_ELEMENTDATA w_EMPTY_LIST w_EMPTY w_ELEMS c_ELEMS w_MIR m0 h0 n0 v U'.heap L ∧ FrameEnd U o U' L ({ frames := 4, cells := 1, slots := 10, locals := 56 } : Room).cells ({ frames := 4, cells := 1, slots := 10, locals := 56 } : Room).slots) := by
  obtain ⟨S_STRING, E_STRING, S_OBJECT, E_OBJECT, F_ordinal_STRING, F_ordinal_OBJECT, S_INT, E_INT, F_ordinal_INT, S_MAP, E_MAP, S_BIGDECIMAL, E_BIGDECIMAL, S_DATE, E_DATE, S_LONG, E_LONG, F_ordinal_LONG, F_ordinal_BIGDECIMAL, S_LIST, E_LIST, S_BOOLEAN, E_BOOLEAN, F_ordinal_BOOLEAN, F_ordinal_DATE, S_DEFAULTCAPACITY_EMPTY_ELEMENTDATA, E_DEFAULTCAPACITY_EMPTY_ELEMENTDATA, A_DEFAULTCAPACITY_EMPTY_ELEMENTDATA, L_DEFAULTCAPACITY_EMPTY_ELEMENTDATA, S_EMPTY_LIST, E_EMPTY_LIST, S_EMPTY, E_EMPTY, F_elements_EMPTY_LIST, A_ELEMS, L_ELEMS, M_MIR⟩ := id F
  refine MetFree.of_bodySF (plainFor_of_name pn_16a) hisR ?_
  intro p e s m args below meth c s₁ Bd hml0 hP hK
  obtain ⟨rfl, hZ, hh⟩ := hP
  have hx := Bd.exec
  have hby := Bd.bytes
  have hml : c.maxLocals = 2 := hml0
  have hown : s.vm.findClass "java/util/ArrayList" = some m.cls := findClass_of_methodNamed Bd.named
  have hnm := (name_of_methodNamed Bd.named Bd.method).1
  have X0 : Stand p l e ({ frames := 4, cells := 1, slots := 10, locals := 56 } : Room) s m #[(.ref a0), (.ref a1)] below meth c s₁ [] 0 0 := Stand.of_body Bd
  have e0 : s₁.heap = h0 := by rw [← hh, Bd.state]; rfl
  have N0 := Fr.nil n0
  have K0 : Keep h0 h0 [a0] := Keep.refl _ _
  have pre0 : ∀ t, Steps p.tables e below (s₁.setTop (mkF m 0 #[.val (.ref a0), .val (.ref a1)] [])) t → Steps p.tables e below (s₁.setTop (entryFrame m #[(.ref a0), (.ref a1)] 2)) t := fun t k => castTop (ef_16a m a0 a1) k
  have E_a0 := E_a00
  have F_modCount_a0 := F_modCount_a00
  have F_elementData_a0 := F_elementData_a00
  have F_size_a0 := F_size_a00
  have E_a1 := E_a10
  obtain ⟨T1, X1, e1, st1⟩ := getF X0 hx hZ hown (host := "") (Or.inl (hw _ (List.mem_of_getElem? (i := 123) rfl))) (Via.of (hw _ (List.mem_of_getElem? (i := 124) rfl))) e0 F_modCount_a0 (g := (mkF m 2 #[.val (.ref a0), .val (.ref a1)] [(.ref a0), (.ref a0)])) rfl rfl (hb hby d16a_2)
  obtain ⟨T2, h2, X2, e2, W2, st2⟩ := putF X1 hx hZ hown (host := "") (Or.inl (hw _ (List.mem_of_getElem? (i := 123) rfl))) (Via.of (hw _ (List.mem_of_getElem? (i := 124) rfl))) e1 F_modCount_a0 E_a0 (Or.inl (hw _ (List.mem_of_getElem? (i := 23) rfl))) (hw _ (List.mem_of_getElem? (i := 2) rfl)) (ty := .int) (by decide) rfl rfl (g := (mkF m 7 #[.val (.ref a0), .val (.ref a1)] [(.int (m0 + (1 : Int32))), (.ref a0)])) rfl rfl (hb hby d16a_7)
  have N2 := Fr.snoc X2 N0 g_a0
  have O2 : Old Z n0 h2 := O0.wr W2 g_a0
  have K2 : Keep h0 h2 [a0] := K0.wr W2 (Or.inl (List.mem_of_getElem? (i := 0) rfl))
  have E_a0 := (E_a0.wr W2)
  have F_elementData_a0 := (F_elementData_a0.other W2 (Or.inr (slot_ne (Or.inl (hw _ (List.mem_of_getElem? (i := 26) rfl))) (Or.inl (hw _ (List.mem_of_getElem? (i := 23) rfl))) (by decide) (t := (.array (.object "java/lang/Object"))) (t' := .int) (by decide) (by decide))))
  have F_size_a0 := (F_size_a0.other W2 (Or.inr (slot_ne (Or.inl (hw _ (List.mem_of_getElem? (i := 82) rfl))) (Or.inl (hw _ (List.mem_of_getElem? (i := 23) rfl))) (by decide) (t := .int) (t' := .int) (by decide) (by decide))))
  have E_a1 := (E_a1.wr W2)
  have F_modCount_a0 := F_modCount_a0.same W2
  obtain ⟨T3, X3, e3, st3⟩ := getF X2 hx hZ hown (host := "") (Or.inl (hw _ (List.mem_of_getElem? (i := 25) rfl))) Via.refl e2 F_elementData_a0 (g := (mkF m 13 #[.val (.ref a0), .val (.ref a1)] [(.ref a0), (.ref a1), (.ref a0)])) rfl rfl (hb hby d16a_13)
  obtain ⟨T4, X4, e4, st4⟩ := getF X3 hx hZ hown (host := "") (Or.inl (hw _ (List.mem_of_getElem? (i := 81) rfl))) Via.refl e3 F_size_a0 (g := (mkF m 17 #[.val (.ref a0), .val (.ref a1)] [(.ref a0), (.ref w_DEFAULTCAPACITY_EMPTY_ELEMENTDATA), (.ref a1), (.ref a0)])) rfl rfl (hb hby d16a_17)
  obtain ⟨cq5, q5, q5'⟩ := E_a0.cell
  obtain ⟨_, _, ⟨T5, L5, k5, n5⟩, -, X5, ⟨Lc5, hQ5, l5, y5, z5⟩, st5⟩ := X4.privateBack hx (y := (⟨"java/util/ArrayList", "add", "(Ljava/lang/Object;[Ljava/lang/Object;I)V"⟩ : MethodName)) hown (mvT hZ (hw _ (List.mem_of_getElem? (i := 125) rfl))) (mvT hZ (hw _ (List.mem_of_getElem? (i := 126) rfl))) (mvT hZ (hw _ (List.mem_of_getElem? (i := 128) rfl))) (Cond.privateMethod_at (mvP hZ (hw _ (List.mem_of_getElem? (i := 127) rfl)) (args := #[]))) (mvT hZ (hw _ (List.mem_of_getElem? (i := 129) rfl))) (by decide) (backOf (W := 0) (rm17a l Z ar0 hw [] a0 a1 w_STRING w_OBJECT w_INT w_MAP w_BIGDECIMAL w_DATE w_LONG w_LIST w_BOOLEAN w_DEFAULTCAPACITY_EMPTY_ELEMENTDATA c_DEFAULTCAPACITY_EMPTY_ELEMENTDATA w_EMPTY_LIST w_EMPTY w_ELEMS c_ELEMS w_MIR (.int (m0 + (1 : Int32))) h2 n0 O2 F E_a0 F_modCount_a0 F_elementData_a0 F_size_a0 E_a1 g_a0) hZ (hw _ (List.mem_of_getElem? (i := 129) rfl)) (hw _ (List.mem_of_getElem? (i := 3) rfl)) (by decide) (by decide)) (g := (mkF m 20 #[.val (.ref a0), .val (.ref a1)] [(.int (0 : Int32)), (.ref w_DEFAULTCAPACITY_EMPTY_ELEMENTDATA), (.ref a1), (.ref a0)])) rfl (by rw [hml]; rfl) (Steps.refl _) (a := a0) (by rw [e4]; exact q5) q5' (argsL := [(.ref a1), (.ref w_DEFAULTCAPACITY_EMPTY_ELEMENTDATA), (.int (0 : Int32))]) (rest := []) (lenOf pd_16a_20 rfl) rfl (by show 2 * 0 + _ ≤ _; exact Nat.le_of_eq rfl) (hb hby d16a_20) (fun _ _ => ⟨rfl, e4, (by decide : 0 + 1 ≤ _), (by decide : 0 + 10 ≤ _)⟩)
  dsimp only [Pt.U, Pt.locs, Pt.cells, Pt.slots] at X5 l5 y5 z5 st5 hQ5
  subst l5 y5 z5
  obtain ⟨b5_1_2_5, k5_2_1_5, rfl, N5q, O5, Kc5, sz5_0, fq5_0, fq5_1, fq5_2, fq5_3, fq5_4, fq5_5⟩ := hQ5
  have N5 := Fr.app N2 N5q
  have ne_a0_b5_1_2_5 : a0 ≠ b5_1_2_5 := Nat.ne_of_lt (Nat.lt_of_lt_of_le E_a0.lt sz5_0)
  have ne_a1_b5_1_2_5 : a1 ≠ b5_1_2_5 := Nat.ne_of_lt (Nat.lt_of_lt_of_le E_a1.lt sz5_0)
  have g_b5_1_2_5 : n0 ≤ b5_1_2_5 := Nat.le_trans (own_old_le O2) sz5_0
  have sz_b5_1_2_5 : h0.size ≤ b5_1_2_5 := Nat.le_trans K2.1 sz5_0
  have K5 : Keep h0 T5.heap [a0] := K2.trans Kc5 (allS (Or.inl (List.mem_of_getElem? (i := 0) rfl)) all0)
  have E_a0 := (E_a0.keep Kc5)
  have E_a1 := (E_a1.keep Kc5)
  have F_modCount_a0 := fq5_0
  have F_elementData_a0 := fq5_1
  have F_size_a0 := fq5_2
  have V_b5_1_2_5 := fq5_3
  have E_b5_1_2_5 := fq5_4
  have Ovr_b5_1_2_5 := fq5_5
  obtain ⟨fs, hr, hrun, hended, hW, hsame⟩ := X5.leave (v := some (.int (1 : Int32))) (fun h => by rw [Bd.returns] at h; cases h)
  refine ⟨_, _, pre0 _ ?_, hrun, hended, _, _, rfl, ?_, ⟨_, rfl⟩, hW, hsame.mono (by decide) (by decide)⟩
  · show Steps p.tables e below (s₁.setTop (mkF m 0 #[.val (.ref a0), .val (.ref a1)] [])) _
    refine XS.aloadN X0.here hx rfl (hb hby d16a_0) rfl rfl ?_
    show Steps p.tables e below (s₁.setTop (mkF m 1 #[.val (.ref a0), .val (.ref a1)] [(.ref a0)])) _
    refine XS.dup X0.here hx rfl (hb hby d16a_1) rfl rfl ?_
    show Steps p.tables e below (s₁.setTop (mkF m 2 #[.val (.ref a0), .val (.ref a1)] [(.ref a0), (.ref a0)])) _
    refine st1 _ ?_
    show Steps p.tables e below (T1.setTop (mkF m 5 #[.val (.ref a0), .val (.ref a1)] [(.int m0), (.ref a0)])) _
    refine XS.iconst X1.here hx rfl (hb hby d16a_5) ?_
    show Steps p.tables e below (T1.setTop (mkF m 6 #[.val (.ref a0), .val (.ref a1)] [(.int (1 : Int32)), (.int m0), (.ref a0)])) _
    refine XS.iadd X1.here hx rfl (hb hby d16a_6) rfl ?_
    show Steps p.tables e below (T1.setTop (mkF m 7 #[.val (.ref a0), .val (.ref a1)] [(.int (m0 + (1 : Int32))), (.ref a0)])) _
    refine st2 _ ?_
    show Steps p.tables e below (T2.setTop (mkF m 10 #[.val (.ref a0), .val (.ref a1)] [])) _
    refine XS.aloadN X2.here hx rfl (hb hby d16a_10) rfl rfl ?_
    show Steps p.tables e below (T2.setTop (mkF m 11 #[.val (.ref a0), .val (.ref a1)] [(.ref a0)])) _
    refine XS.aloadN X2.here hx rfl (hb hby d16a_11) rfl rfl ?_
    show Steps p.tables e below (T2.setTop (mkF m 12 #[.val (.ref a0), .val (.ref a1)] [(.ref a1), (.ref a0)])) _
    refine XS.aloadN X2.here hx rfl (hb hby d16a_12) rfl rfl ?_
    show Steps p.tables e below (T2.setTop (mkF m 13 #[.val (.ref a0), .val (.ref a1)] [(.ref a0), (.ref a1), (.ref a0)])) _
    refine st3 _ ?_
    show Steps p.tables e below (T3.setTop (mkF m 16 #[.val (.ref a0), .val (.ref a1)] [(.ref w_DEFAULTCAPACITY_EMPTY_ELEMENTDATA), (.ref a1), (.ref a0)])) _
    refine XS.aloadN X3.here hx rfl (hb hby d16a_16) rfl rfl ?_
    show Steps p.tables e below (T3.setTop (mkF m 17 #[.val (.ref a0), .val (.ref a1)] [(.ref a0), (.ref w_DEFAULTCAPACITY_EMPTY_ELEMENTDATA), (.ref a1), (.ref a0)])) _
    refine st4 _ ?_
    show Steps p.tables e below (T4.setTop (mkF m 20 #[.val (.ref a0), .val (.ref a1)] [(.int (0 : Int32)), (.ref w_DEFAULTCAPACITY_EMPTY_ELEMENTDATA), (.ref a1), (.ref a0)])) _
    refine st5.trans ?_
    show Steps p.tables e below (T5.setTop (mkF m 23 #[.val (.ref a0), .val (.ref a1)] [])) _
    refine XS.iconst X5.here hx rfl (hb hby d16a_23) ?_
    show Steps p.tables e below (T5.setTop (mkF m 24 #[.val (.ref a0), .val (.ref a1)] [(.int (1 : Int32))])) _
    exact retN X5 hx (t := .boolean) Bd.returns (by simp) (hb hby d16a_24) hr
  · show Q16a Z a0 a1 w_STRING w_OBJECT w_INT w_MAP w_BIGDECIMAL w_DATE w_LONG w_LIST w_BOOLEAN w_DEFAULTCAPACITY_EMPTY_ELEMENTDATA c_DEFAULTCAPACITY_EMPTY_ELEMENTDATA w_EMPTY_LIST w_EMPTY w_ELEMS c_ELEMS w_MIR m0 h0 n0 _ T5.heap _
    skip
    exact ⟨b5_1_2_5, k5_2_1_5, rfl, N5, O5, K5, sz_b5_1_2_5, F_modCount_a0, F_elementData_a0, F_size_a0, V_b5_1_2_5, E_b5_1_2_5, Ovr_b5_1_2_5⟩

theorem d17b_0 : decode jdk_38_method_24_code 0 = .ok (.iload_n 3, 1) := by decide +kernel
theorem d17b_1 : decode jdk_38_method_24_code 1 = .ok (.aload_n 2, 1) := by decide +kernel
theorem d17b_2 : decode jdk_38_method_24_code 2 = .ok (.arraylength, 1) := by decide +kernel
theorem d17b_3 : decode jdk_38_method_24_code 3 = .ok (.if_icmp .ne 8, 3) := by decide +kernel
theorem d17b_11 : decode jdk_38_method_24_code 11 = .ok (.aload_n 2, 1) := by decide +kernel
theorem d17b_12 : decode jdk_38_method_24_code 12 = .ok (.iload_n 3, 1) := by decide +kernel
theorem d17b_13 : decode jdk_38_method_24_code 13 = .ok (.aload_n 1, 1) := by decide +kernel
theorem d17b_14 : decode jdk_38_method_24_code 14 = .ok (.aastore, 1) := by decide +kernel
theorem d17b_15 : decode jdk_38_method_24_code 15 = .ok (.aload_n 0, 1) := by decide +kernel
theorem d17b_16 : decode jdk_38_method_24_code 16 = .ok (.iload_n 3, 1) := by decide +kernel
theorem d17b_17 : decode jdk_38_method_24_code 17 = .ok (.iconst 1, 1) := by decide +kernel
theorem d17b_18 : decode jdk_38_method_24_code 18 = .ok (.iadd, 1) := by decide +kernel
theorem d17b_19 : decode jdk_38_method_24_code 19 = .ok (.putfield 48, 3) := by decide +kernel
theorem d17b_22 : decode jdk_38_method_24_code 22 = .ok (.return_, 1) := by decide +kernel
theorem pn_17b : plainName "java/util/ArrayList" = true := by first | (simp [plainName, overriddenIn]; done) | decide +kernel
theorem ef_17b (m : MethodId) (a0 : Addr) (a1 : Addr) (a2 : Addr) : entryFrame m #[(.ref a0), (.ref a1), (.ref a2), (.int (1 : Int32))] 4 = mkF m 0 #[.val (.ref a0), .val (.ref a1), .val (.ref a2), .val (.int (1 : Int32))] [] := by first | (simp [entryFrame, mkF, argsToLocals, Value.category]; done) | rfl
def Q17b (Z : State) (a0 : Addr) (a1 : Addr) (a2 : Addr) (w_STRING : Addr) (w_OBJECT : Addr) (w_INT : Addr) (w_MAP : Addr) (w_BIGDECIMAL : Addr) (w_DATE : Addr) (w_LONG : Addr) (w_LIST : Addr) (w_BOOLEAN : Addr) (w_DEFAULTCAPACITY_EMPTY_ELEMENTDATA : Addr) (c_DEFAULTCAPACITY_EMPTY_ELEMENTDATA : Cell) (w_EMPTY_LIST : Addr) (w_EMPTY : Addr) (w_ELEMS : Addr) (c_ELEMS : Cell) (w_MIR : Addr) (u_modCount_a0 : Value) (ka2 : ClassId) (el0 : Addr) (h0 : Heap) (n0 : Nat) (v : Option Value) (h : Heap) (L : List Loc) : Prop := v = none ∧ Fr n0 L ∧ Old Z n0 h ∧ Keep h0 h [a2, a0] ∧ (Fld Z h a0 "java/util/AbstractList" "modCount" "I" u_modCount_a0) ∧ (Fld Z h a0 "java/util/ArrayList" "elementData" "[Ljava/lang/Object;" (.ref a2)) ∧ (Fld Z h a0 "java/util/ArrayList" "size" "I" (.int ((1 : Int32) + (1 : Int32)))) ∧ (Arv Z h a2 ka2 (.object "java/lang/Object") (10 : Int32) [(.ref el0), (.ref a1), .null, .null, .null, .null, .null, .null, .null, .null] .null)
set_option maxRecDepth 65536 in
set_option maxHeartbeats 40000000 in
theorem rm17b (l : Launch) (Z : State) (ar0 : Array Value) (hw : ∀ d ∈ tables_1, d.before ar0 Z = true) (ws : List Jvm.Cond) (a0 : Addr) (a1 : Addr) (a2 : Addr) (w_STRING : Addr) (w_OBJECT : Addr) (w_INT : Addr) (w_MAP : Addr) (w_BIGDECIMAL : Addr) (w_DATE : Addr) (w_LONG : Addr) (w_LIST : Addr) (w_BOOLEAN : Addr) (w_DEFAULTCAPACITY_EMPTY_ELEMENTDATA : Addr) (c_DEFAULTCAPACITY_EMPTY_ELEMENTDATA : Cell) (w_EMPTY_LIST : Addr) (w_EMPTY : Addr) (w_ELEMS : Addr) (c_ELEMS : Cell) (w_MIR : Addr) (u_modCount_a0 : Value) (ka2 : ClassId) (el0 : Addr) (h0 : Heap) (n0 : Nat) (O0 : Old Z n0 h0) (F : Fx Z Z.heap w_STRING w_OBJECT w_INT w_MAP w_BIGDECIMAL w_DATE w_LONG w_LIST w_BOOLEAN w_DEFAULTCAPACITY_EMPTY_ELEMENTDATA c_DEFAULTCAPACITY_EMPTY_ELEMENTDATA w_EMPTY_LIST w_EMPTY w_ELEMS c_ELEMS w_MIR) (E_a00 : Exa Z h0 a0 "java/util/ArrayList") (F_modCount_a00 : Fld Z h0 a0 "java/util/AbstractList" "modCount" "I" u_modCount_a0) (F_elementData_a00 : Fld Z h0 a0 "java/util/ArrayList" "elementData" "[Ljava/lang/Object;" (.ref a2)) (F_size_a00 : Fld Z h0 a0 "java/util/ArrayList" "size" "I" (.int (1 : Int32))) (V_a20 : Arv Z h0 a2 ka2 (.object "java/lang/Object") (10 : Int32) [(.ref el0), .null, .null, .null, .null, .null, .null, .null, .null, .null] .null) (E_a20 : Exa Z h0 a2 "[Ljava/lang/Object;") (Ovr_a20 : Ovr Z ka2 "java/lang/Object") (E_a10 : Exa Z h0 a1 "com/example/declared_endpoints/declaredendpoints/model/FieldType$Container") (g_a2 : n0 ≤ a2) (g_a0 : n0 ≤ a0) :
    MetFree l (⟨"java/util/ArrayList", "add", "(Ljava/lang/Object;[Ljava/lang/Object;I)V"⟩ : MethodName) (head1 ((Jvm.Cond.code (⟨"java/util/ArrayList", "add", "(Ljava/lang/Object;[Ljava/lang/Object;I)V"⟩ : MethodName) jdk_38_method_24_code 4 none) :: ws) ({ frames := 0, cells := 0, slots := 0, locals := 0 } : Room)) (fun a U => a = #[(.ref a0), (.ref a1), (.ref a2), (.int (1 : Int32))] ∧ Z.Warmed39 U.vm ∧ U.heap = h0) (fun _ _ _ _ _ => True) (fun _ U o U' => ∃ v L, o = .returned v ∧ Q17b Z a0 a1 a2 w_STRING w_OBJECT w_INT w_MAP w_BIGDECIMAL w_DATE w_LONG w_LIST w_BOOLEAN w_DEFAULTCAPACITY_EMPTY_ELEMENTDATA c_DEFAULTCAPACITY_EMPTY_ELEMENTDATA w_EMPTY_LIST w_EMPTY w_ELEMS c_ELEMS w_MIR u_modCount_a0 ka2 el0 h0 n0 v U'.heap L ∧ FrameEnd U o U' L ({ frames := 0, cells := 0, slots := 0, locals := 0 } : Room).cells ({ frames := 0, cells := 0, slots := 0, locals := 0 } : Room).slots) := by
  obtain ⟨S_STRING, E_STRING, S_OBJECT, E_OBJECT, F_ordinal_STRING, F_ordinal_OBJECT, S_INT, E_INT, F_ordinal_INT, S_MAP, E_MAP, S_BIGDECIMAL, E_BIGDECIMAL, S_DATE, E_DATE, S_LONG, E_LONG, F_ordinal_LONG, F_ordinal_BIGDECIMAL, S_LIST, E_LIST, S_BOOLEAN, E_BOOLEAN, F_ordinal_BOOLEAN, F_ordinal_DATE, S_DEFAULTCAPACITY_EMPTY_ELEMENTDATA, E_DEFAULTCAPACITY_EMPTY_ELEMENTDATA, A_DEFAULTCAPACITY_EMPTY_ELEMENTDATA, L_DEFAULTCAPACITY_EMPTY_ELEMENTDATA, S_EMPTY_LIST, E_EMPTY_LIST, S_EMPTY, E_EMPTY, F_elements_EMPTY_LIST, A_ELEMS, L_ELEMS, M_MIR⟩ := id F
  refine MetFree.of_bodySF (plainFor_of_name pn_17b) hisR ?_
  intro p e s m args below meth c s₁ Bd hml0 hP hK
  obtain ⟨rfl, hZ, hh⟩ := hP
  have hx := Bd.exec
  have hby := Bd.bytes
  have hml : c.maxLocals = 4 := hml0
  have hown : s.vm.findClass "java/util/ArrayList" = some m.cls := findClass_of_methodNamed Bd.named
  have hnm := (name_of_methodNamed Bd.named Bd.method).1
  have X0 : Stand p l e ({ frames := 0, cells := 0, slots := 0, locals := 0 } : Room) s m #[(.ref a0), (.ref a1), (.ref a2), (.int (1 : Int32))] below meth c s₁ [] 0 0 := Stand.of_body Bd
  have e0 : s₁.heap = h0 := by rw [← hh, Bd.state]; rfl
  have N0 := Fr.nil n0
  have K0 : Keep h0 h0 [a2, a0] := Keep.refl _ _
  have pre0 : ∀ t, Steps p.tables e below (s₁.setTop (mkF m 0 #[.val (.ref a0), .val (.ref a1), .val (.ref a2), .val (.int (1 : Int32))] [])) t → Steps p.tables e below (s₁.setTop (entryFrame m #[(.ref a0), (.ref a1), (.ref a2), (.int (1 : Int32))] 4)) t := fun t k => castTop (ef_17b m a0 a1 a2) k
  have E_a0 := E_a00
  have F_modCount_a0 := F_modCount_a00
  have F_elementData_a0 := F_elementData_a00
  have F_size_a0 := F_size_a00
  have V_a2 := V_a20
  have E_a2 := E_a20
  have Ovr_a2 := Ovr_a20
  have E_a1 := E_a10
  obtain ⟨c1, Ar1, q1, S1, M1, Ha1, G1⟩ := id V_a2
  obtain ⟨c2, Ar2, q2, S2, M2, Ha2, G2⟩ := id V_a2
  obtain ⟨T3, h3, X3, e3, W3, st3⟩ := stR X0 hx hZ e0 Ar2 (j := (1 : Int32)) (inb_of S2 ⟨by decide, by decide⟩) rfl (Sto.ofV Ar2 q2 Ovr_a2 (Ins.of_exa E_a1 (hw _ (List.mem_of_getElem? (i := 146) rfl)))) (g := (mkF m 14 #[.val (.ref a0), .val (.ref a1), .val (.ref a2), .val (.int (1 : Int32))] [(.ref a1), (.int (1 : Int32)), (.ref a2)])) rfl rfl (hb hby d17b_14)
  have N3 := Fr.snoc X3 N0 g_a2
  have O3 : Old Z n0 h3 := O0.wr W3 g_a2
  have K3 : Keep h0 h3 [a2, a0] := K0.wr W3 (Or.inl (List.mem_of_getElem? (i := 0) rfl))
  have ne_a0_a2 : a0 ≠ a2 := (ne_exa E_a0 E_a2 (by decide))
  have E_a0 := (E_a0.wr W3)
  have F_modCount_a0 := (F_modCount_a0.other W3 (Or.inl ne_a0_a2))
  have F_elementData_a0 := (F_elementData_a0.other W3 (Or.inl ne_a0_a2))
  have F_size_a0 := (F_size_a0.other W3 (Or.inl ne_a0_a2))
  have E_a2 := (E_a2.wr W3)
  have E_a1 := (E_a1.wr W3)
  have V_a2 : Arv Z h3 a2 ka2 (.object "java/lang/Object") (10 : Int32) [(.ref el0), (.ref a1), .null, .null, .null, .null, .null, .null, .null, .null] .null := Arv.set Ar2 q2 S2 M2 Ha2 G2 rfl W3 1 rfl (Nat.le_of_ble_eq_true rfl)
  obtain ⟨T4, h4, X4, e4, W4, st4⟩ := putF X3 hx hZ hown (host := "") (Or.inl (hw _ (List.mem_of_getElem? (i := 81) rfl))) Via.refl e3 F_size_a0 E_a0 (Or.inl (hw _ (List.mem_of_getElem? (i := 82) rfl))) (hw _ (List.mem_of_getElem? (i := 2) rfl)) (ty := .int) (by decide) rfl rfl (g := (mkF m 19 #[.val (.ref a0), .val (.ref a1), .val (.ref a2), .val (.int (1 : Int32))] [(.int ((1 : Int32) + (1 : Int32))), (.ref a0)])) rfl rfl (hb hby d17b_19)
  have N4 := Fr.snoc X4 N3 g_a0
  have O4 : Old Z n0 h4 := O3.wr W4 g_a0
  have K4 : Keep h0 h4 [a2, a0] := K3.wr W4 (Or.inl (List.mem_of_getElem? (i := 1) rfl))
  have E_a0 := (E_a0.wr W4)
  have F_modCount_a0 := (F_modCount_a0.other W4 (Or.inr (slot_ne (Or.inl (hw _ (List.mem_of_getElem? (i := 23) rfl))) (Or.inl (hw _ (List.mem_of_getElem? (i := 82) rfl))) (by decide) (t := .int) (t' := .int) (by decide) (by decide))))
  have F_elementData_a0 := (F_elementData_a0.other W4 (Or.inr (slot_ne (Or.inl (hw _ (List.mem_of_getElem? (i := 26) rfl))) (Or.inl (hw _ (List.mem_of_getElem? (i := 82) rfl))) (by decide) (t := (.array (.object "java/lang/Object"))) (t' := .int) (by decide) (by decide))))
  have V_a2 := (V_a2.other W4 (Ne.symm ne_a0_a2))
  have E_a2 := (E_a2.wr W4)
  have E_a1 := (E_a1.wr W4)
  have F_size_a0 := F_size_a0.same W4
  obtain ⟨fs, hr, hrun, hended, hW, hsame⟩ := X4.leave (v := none) (fun h => rfl)
  refine ⟨_, _, pre0 _ ?_, hrun, hended, _, _, rfl, ?_, ⟨_, rfl⟩, hW, hsame.mono (by decide) (by decide)⟩
  · show Steps p.tables e below (s₁.setTop (mkF m 0 #[.val (.ref a0), .val (.ref a1), .val (.ref a2), .val (.int (1 : Int32))] [])) _
    refine XS.iloadN X0.here hx rfl (hb hby d17b_0) rfl ?_
    show Steps p.tables e below (s₁.setTop (mkF m 1 #[.val (.ref a0), .val (.ref a1), .val (.ref a2), .val (.int (1 : Int32))] [(.int (1 : Int32))])) _
    refine XS.aloadN X0.here hx rfl (hb hby d17b_1) rfl rfl ?_
    show Steps p.tables e below (s₁.setTop (mkF m 2 #[.val (.ref a0), .val (.ref a1), .val (.ref a2), .val (.int (1 : Int32))] [(.ref a2), (.int (1 : Int32))])) _
    refine X0.arraylength hx (by rw [e0]; exact Ar1.1) (State.isArrayOf_alike hZ.alike Ar1.2.1) (g := (mkF m 2 #[.val (.ref a0), .val (.ref a1), .val (.ref a2), .val (.int (1 : Int32))] [(.ref a2), (.int (1 : Int32))])) rfl rfl (hb hby d17b_2) _ ?_
    rw [len_of S1 M1]
    show Steps p.tables e below (s₁.setTop (mkF m 3 #[.val (.ref a0), .val (.ref a1), .val (.ref a2), .val (.int (1 : Int32))] [(.int (10 : Int32)), (.int (1 : Int32))])) _
    refine XS.icmpYes X0.here hx rfl (pc0 := 3) (pc' := 11) rfl (hb hby d17b_3) rfl (feq (by decide : ¬ ((1 : Int32) = (10 : Int32)))).2 (by decide) (by decide) ?_
    show Steps p.tables e below (s₁.setTop (mkF m 11 #[.val (.ref a0), .val (.ref a1), .val (.ref a2), .val (.int (1 : Int32))] [])) _
    refine XS.aloadN X0.here hx rfl (hb hby d17b_11) rfl rfl ?_
    show Steps p.tables e below (s₁.setTop (mkF m 12 #[.val (.ref a0), .val (.ref a1), .val (.ref a2), .val (.int (1 : Int32))] [(.ref a2)])) _
    refine XS.iloadN X0.here hx rfl (hb hby d17b_12) rfl ?_
    show Steps p.tables e below (s₁.setTop (mkF m 13 #[.val (.ref a0), .val (.ref a1), .val (.ref a2), .val (.int (1 : Int32))] [(.int (1 : Int32)), (.ref a2)])) _
    refine XS.aloadN X0.here hx rfl (hb hby d17b_13) rfl rfl ?_
    show Steps p.tables e below (s₁.setTop (mkF m 14 #[.val (.ref a0), .val (.ref a1), .val (.ref a2), .val (.int (1 : Int32))] [(.ref a1), (.int (1 : Int32)), (.ref a2)])) _
    refine st3 _ ?_
    show Steps p.tables e below (T3.setTop (mkF m 15 #[.val (.ref a0), .val (.ref a1), .val (.ref a2), .val (.int (1 : Int32))] [])) _
    refine XS.aloadN X3.here hx rfl (hb hby d17b_15) rfl rfl ?_
    show Steps p.tables e below (T3.setTop (mkF m 16 #[.val (.ref a0), .val (.ref a1), .val (.ref a2), .val (.int (1 : Int32))] [(.ref a0)])) _
    refine XS.iloadN X3.here hx rfl (hb hby d17b_16) rfl ?_
    show Steps p.tables e below (T3.setTop (mkF m 17 #[.val (.ref a0), .val (.ref a1), .val (.ref a2), .val (.int (1 : Int32))] [(.int (1 : Int32)), (.ref a0)])) _
    refine XS.iconst X3.here hx rfl (hb hby d17b_17) ?_
    show Steps p.tables e below (T3.setTop (mkF m 18 #[.val (.ref a0), .val (.ref a1), .val (.ref a2), .val (.int (1 : Int32))] [(.int (1 : Int32)), (.int (1 : Int32)), (.ref a0)])) _
    refine XS.iadd X3.here hx rfl (hb hby d17b_18) rfl ?_
    show Steps p.tables e below (T3.setTop (mkF m 19 #[.val (.ref a0), .val (.ref a1), .val (.ref a2), .val (.int (1 : Int32))] [(.int ((1 : Int32) + (1 : Int32))), (.ref a0)])) _
    refine st4 _ ?_
    show Steps p.tables e below (T4.setTop (mkF m 22 #[.val (.ref a0), .val (.ref a1), .val (.ref a2), .val (.int (1 : Int32))] [])) _
    exact X4.returnOut hx Bd.returns (hb hby d17b_22) hr
  · show Q17b Z a0 a1 a2 w_STRING w_OBJECT w_INT w_MAP w_BIGDECIMAL w_DATE w_LONG w_LIST w_BOOLEAN w_DEFAULTCAPACITY_EMPTY_ELEMENTDATA c_DEFAULTCAPACITY_EMPTY_ELEMENTDATA w_EMPTY_LIST w_EMPTY w_ELEMS c_ELEMS w_MIR u_modCount_a0 ka2 el0 h0 n0 _ T4.heap _
    rw [e4]
    exact ⟨rfl, N4, O4, K4, F_modCount_a0, F_elementData_a0, F_size_a0, V_a2⟩

theorem d16b_0 : decode jdk_38_method_25_code 0 = .ok (.aload_n 0, 1) := by decide +kernel
theorem d16b_1 : decode jdk_38_method_25_code 1 = .ok (.dup, 1) := by decide +kernel
theorem d16b_2 : decode jdk_38_method_25_code 2 = .ok (.getfield 63, 3) := by decide +kernel
theorem d16b_5 : decode jdk_38_method_25_code 5 = .ok (.iconst 1, 1) := by decide +kernel
theorem d16b_6 : decode jdk_38_method_25_code 6 = .ok (.iadd, 1) := by decide +kernel
theorem d16b_7 : decode jdk_38_method_25_code 7 = .ok (.putfield 63, 3) := by decide +kernel
theorem d16b_10 : decode jdk_38_method_25_code 10 = .ok (.aload_n 0, 1) := by decide +kernel
theorem d16b_11 : decode jdk_38_method_25_code 11 = .ok (.aload_n 1, 1) := by decide +kernel
theorem d16b_12 : decode jdk_38_method_25_code 12 = .ok (.aload_n 0, 1) := by decide +kernel
theorem d16b_13 : decode jdk_38_method_25_code 13 = .ok (.getfield 9, 3) := by decide +kernel
theorem d16b_16 : decode jdk_38_method_25_code 16 = .ok (.aload_n 0, 1) := by decide +kernel
theorem d16b_17 : decode jdk_38_method_25_code 17 = .ok (.getfield 48, 3) := by decide +kernel
theorem d16b_20 : decode jdk_38_method_25_code 20 = .ok (.invokevirtual 131, 3) := by decide +kernel
theorem d16b_23 : decode jdk_38_method_25_code 23 = .ok (.iconst 1, 1) := by decide +kernel
theorem d16b_24 : decode jdk_38_method_25_code 24 = .ok (.ireturn, 1) := by decide +kernel
theorem pn_16b : plainName "java/util/ArrayList" = true := by first | (simp [plainName, overriddenIn]; done) | decide +kernel
theorem pd_16b_20 : parseMethodDescriptor "(Ljava/lang/Object;[Ljava/lang/Object;I)V" = some ⟨[(.object "java/lang/Object"), (.array (.object "java/lang/Object")), .int], none⟩ := by decide +kernel
theorem ef_16b (m : MethodId) (a0 : Addr) (a1 : Addr) : entryFrame m #[(.ref a0), (.ref a1)] 2 = mkF m 0 #[.val (.ref a0), .val (.ref a1)] [] := by first | (simp [entryFrame, mkF, argsToLocals, Value.category]; done) | rfl
def Q16b (Z : State) (a0 : Addr) (a1 : Addr) (w_STRING : Addr) (w_OBJECT : Addr) (w_INT : Addr) (w_MAP : Addr) (w_BIGDECIMAL : Addr) (w_DATE : Addr) (w_LONG : Addr) (w_LIST : Addr) (w_BOOLEAN : Addr) (w_DEFAULTCAPACITY_EMPTY_ELEMENTDATA : Addr) (c_DEFAULTCAPACITY_EMPTY_ELEMENTDATA : Cell) (w_EMPTY_LIST : Addr) (w_EMPTY : Addr) (w_ELEMS : Addr) (c_ELEMS : Cell) (w_MIR : Addr) (m0 : Int32) (xa : Addr) (kxa : ClassId) (el0 : Addr) (h0 : Heap) (n0 : Nat) (v : Option Value) (h : Heap) (L : List Loc) : Prop := v = some (.int (1 : Int32)) ∧ Fr n0 L ∧ Old Z n0 h ∧ Keep h0 h [a0, xa] ∧ (Fld Z h a0 "java/util/AbstractList" "modCount" "I" (.int (m0 + (1 : Int32)))) ∧ (Fld Z h a0 "java/util/ArrayList" "elementData" "[Ljava/lang/Object;" (.ref xa)) ∧ (Fld Z h a0 "java/util/ArrayList" "size" "I" (.int ((1 : Int32) + (1 : Int32)))) ∧ (Arv Z h xa kxa (.object "java/lang/Object") (10 : Int32) [(.ref el0), (.ref a1), .null, .null, .null, .null, .null, .null, .null, .null] .null)
set_option maxRecDepth 65536 in
set_option maxHeartbeats 40000000 in
theorem rm16b (l : Launch) (Z : State) (ar0 : Array Value) (hw : ∀ d ∈ tables_1, d.before ar0 Z = true) (ws : List Jvm.Cond) (a0 : Addr) (a1 : Addr) (w_STRING : Addr) (w_OBJECT : Addr) (w_INT : Addr) (w_MAP : Addr) (w_BIGDECIMAL : Addr) (w_DATE : Addr) (w_LONG : Addr) (w_LIST : Addr) (w_BOOLEAN : Addr) (w_DEFAULTCAPACITY_EMPTY_ELEMENTDATA : Addr) (c_DEFAULTCAPACITY_EMPTY_ELEMENTDATA : Cell) (w_EMPTY_LIST : Addr) (w_EMPTY : Addr) (w_ELEMS : Addr) (c_ELEMS : Cell) (w_MIR : Addr) (m0 : Int32) (xa : Addr) (kxa : ClassId) (el0 : Addr) (h0 : Heap) (n0 : Nat) (O0 : Old Z n0 h0) (F : Fx Z Z.heap w_STRING w_OBJECT w_INT w_MAP w_BIGDECIMAL w_DATE w_LONG w_LIST w_BOOLEAN w_DEFAULTCAPACITY_EMPTY_ELEMENTDATA c_DEFAULTCAPACITY_EMPTY_ELEMENTDATA w_EMPTY_LIST w_EMPTY w_ELEMS c_ELEMS w_MIR) (E_a00 : Exa Z h0 a0 "java/util/ArrayList") (F_modCount_a00 : Fld Z h0 a0 "java/util/AbstractList" "modCount" "I" (.int m0)) (F_elementData_a00 : Fld Z h0 a0 "java/util/ArrayList" "elementData" "[Ljava/lang/Object;" (.ref xa)) (F_size_a00 : Fld Z h0 a0 "java/util/ArrayList" "size" "I" (.int (1 : Int32))) (V_xa0 : Arv Z h0 xa kxa (.object "java/lang/Object") (10 : Int32) [(.ref el0), .null, .null, .null, .null, .null, .null, .null, .null, .null] .null) (E_xa0 : Exa Z h0 xa "[Ljava/lang/Object;") (Ovr_xa0 : Ovr Z kxa "java/lang/Object") (E_a10 : Exa Z h0 a1 "com/example/declared_endpoints/declaredendpoints/model/FieldType$Container") (g_a0 : n0 ≤ a0) (g_xa : n0 ≤ xa) :
    MetFree l (⟨"java/util/ArrayList", "add", "(Ljava/lang/Object;)Z"⟩ : MethodName) (head1 ((Jvm.Cond.code (⟨"java/util/ArrayList", "add", "(Ljava/lang/Object;)Z"⟩ : MethodName) jdk_38_method_25_code 2 (some .boolean)) :: ws) ({ frames := 1, cells := 0, slots := 0, locals := 15 } : Room)) (fun a U => a = #[(.ref a0), (.ref a1)] ∧ Z.Warmed39 U.vm ∧ U.heap = h0) (fun _ _ _ _ _ => True) (fun _ U o U' => ∃ v L, o = .returned v ∧ Q16b Z a0 a1 w_STRING w_OBJECT w_INT w_MAP w_BIGDECIMAL w_DATE w_LONG w_LIST w_BOOLEAN w_DEFAULTCAPACITY_EMPTY_ELEMENTDATA c_DEFAULTCAPACITY_EMPTY_ELEMENTDATA w_EMPTY_LIST w_EMPTY w_ELEMS c_ELEMS w_MIR m0 xa kxa el0 h0 n0 v U'.heap L ∧ FrameEnd U o U' L ({ frames := 1, cells := 0, slots := 0, locals := 15 } : Room).cells ({ frames := 1, cells := 0, slots := 0, locals := 15 } : Room).slots) := by
  obtain ⟨S_STRING, E_STRING, S_OBJECT, E_OBJECT, F_ordinal_STRING, F_ordinal_OBJECT, S_INT, E_INT, F_ordinal_INT, S_MAP, E_MAP, S_BIGDECIMAL, E_BIGDECIMAL, S_DATE, E_DATE, S_LONG, E_LONG, F_ordinal_LONG, F_ordinal_BIGDECIMAL, S_LIST, E_LIST, S_BOOLEAN, E_BOOLEAN, F_ordinal_BOOLEAN, F_ordinal_DATE, S_DEFAULTCAPACITY_EMPTY_ELEMENTDATA, E_DEFAULTCAPACITY_EMPTY_ELEMENTDATA, A_DEFAULTCAPACITY_EMPTY_ELEMENTDATA, L_DEFAULTCAPACITY_EMPTY_ELEMENTDATA, S_EMPTY_LIST, E_EMPTY_LIST, S_EMPTY, E_EMPTY, F_elements_EMPTY_LIST, A_ELEMS, L_ELEMS, M_MIR⟩ := id F
  refine MetFree.of_bodySF (plainFor_of_name pn_16b) hisR ?_
  intro p e s m args below meth c s₁ Bd hml0 hP hK
  obtain ⟨rfl, hZ, hh⟩ := hP
  have hx := Bd.exec
  have hby := Bd.bytes
  have hml : c.maxLocals = 2 := hml0
  have hown : s.vm.findClass "java/util/ArrayList" = some m.cls := findClass_of_methodNamed Bd.named
  have hnm := (name_of_methodNamed Bd.named Bd.method).1
  have X0 : Stand p l e ({ frames := 1, cells := 0, slots := 0, locals := 15 } : Room) s m #[(.ref a0), (.ref a1)] below meth c s₁ [] 0 0 := Stand.of_body Bd
  have e0 : s₁.heap = h0 := by rw [← hh, Bd.state]; rfl
  have N0 := Fr.nil n0
  have K0 : Keep h0 h0 [a0, xa] := Keep.refl _ _
  have pre0 : ∀ t, Steps p.tables e below (s₁.setTop (mkF m 0 #[.val (.ref a0), .val (.ref a1)] [])) t → Steps p.tables e below (s₁.setTop (entryFrame m #[(.ref a0), (.ref a1)] 2)) t := fun t k => castTop (ef_16b m a0 a1) k
  have E_a0 := E_a00
  have F_modCount_a0 := F_modCount_a00
  have F_elementData_a0 := F_elementData_a00
  have F_size_a0 := F_size_a00
  have V_xa := V_xa0
  have E_xa := E_xa0
  have Ovr_xa := Ovr_xa0
  have E_a1 := E_a10
  obtain ⟨T1, X1, e1, st1⟩ := getF X0 hx hZ hown (host := "") (Or.inl (hw _ (List.mem_of_getElem? (i := 123) rfl))) (Via.of (hw _ (List.mem_of_getElem? (i := 124) rfl))) e0 F_modCount_a0 (g := (mkF m 2 #[.val (.ref a0), .val (.ref a1)] [(.ref a0), (.ref a0)])) rfl rfl (hb hby d16b_2)
  obtain ⟨T2, h2, X2, e2, W2, st2⟩ := putF X1 hx hZ hown (host := "") (Or.inl (hw _ (List.mem_of_getElem? (i := 123) rfl))) (Via.of (hw _ (List.mem_of_getElem? (i := 124) rfl))) e1 F_modCount_a0 E_a0 (Or.inl (hw _ (List.mem_of_getElem? (i := 23) rfl))) (hw _ (List.mem_of_getElem? (i := 2) rfl)) (ty := .int) (by decide) rfl rfl (g := (mkF m 7 #[.val (.ref a0), .val (.ref a1)] [(.int (m0 + (1 : Int32))), (.ref a0)])) rfl rfl (hb hby d16b_7)
  have N2 := Fr.snoc X2 N0 g_a0
  have O2 : Old Z n0 h2 := O0.wr W2 g_a0
  have K2 : Keep h0 h2 [a0, xa] := K0.wr W2 (Or.inl (List.mem_of_getElem? (i := 0) rfl))
  have ne_xa_a0 : xa ≠ a0 := (ne_exa E_xa E_a0 (by decide))
  have E_a0 := (E_a0.wr W2)
  have F_elementData_a0 := (F_elementData_a0.other W2 (Or.inr (slot_ne (Or.inl (hw _ (List.mem_of_getElem? (i := 26) rfl))) (Or.inl (hw _ (List.mem_of_getElem? (i := 23) rfl))) (by decide) (t := (.array (.object "java/lang/Object"))) (t' := .int) (by decide) (by decide))))
  have F_size_a0 := (F_size_a0.other W2 (Or.inr (slot_ne (Or.inl (hw _ (List.mem_of_getElem? (i := 82) rfl))) (Or.inl (hw _ (List.mem_of_getElem? (i := 23) rfl))) (by decide) (t := .int) (t' := .int) (by decide) (by decide))))
  have V_xa := (V_xa.other W2 ne_xa_a0)
  have E_xa := (E_xa.wr W2)
  have E_a1 := (E_a1.wr W2)
  have F_modCount_a0 := F_modCount_a0.same W2
  obtain ⟨T3, X3, e3, st3⟩ := getF X2 hx hZ hown (host := "") (Or.inl (hw _ (List.mem_of_getElem? (i := 25) rfl))) Via.refl e2 F_elementData_a0 (g := (mkF m 13 #[.val (.ref a0), .val (.ref a1)] [(.ref a0), (.ref a1), (.ref a0)])) rfl rfl (hb hby d16b_13)
  obtain ⟨T4, X4, e4, st4⟩ := getF X3 hx hZ hown (host := "") (Or.inl (hw _ (List.mem_of_getElem? (i := 81) rfl))) Via.refl e3 F_size_a0 (g := (mkF m 17 #[.val (.ref a0), .val (.ref a1)] [(.ref a0), (.ref xa), (.ref a1), (.ref a0)])) rfl rfl (hb hby d16b_17)
  obtain ⟨cq5, q5, q5'⟩ := E_a0.cell
  obtain ⟨_, _, ⟨T5, L5, k5, n5⟩, -, X5, ⟨Lc5, hQ5, l5, y5, z5⟩, st5⟩ := X4.privateBack hx (y := (⟨"java/util/ArrayList", "add", "(Ljava/lang/Object;[Ljava/lang/Object;I)V"⟩ : MethodName)) hown (mvT hZ (hw _ (List.mem_of_getElem? (i := 125) rfl))) (mvT hZ (hw _ (List.mem_of_getElem? (i := 126) rfl))) (mvT hZ (hw _ (List.mem_of_getElem? (i := 128) rfl))) (Cond.privateMethod_at (mvP hZ (hw _ (List.mem_of_getElem? (i := 127) rfl)) (args := #[]))) (mvT hZ (hw _ (List.mem_of_getElem? (i := 129) rfl))) (by decide) (backOf (W := 0) (rm17b l Z ar0 hw [] a0 a1 xa w_STRING w_OBJECT w_INT w_MAP w_BIGDECIMAL w_DATE w_LONG w_LIST w_BOOLEAN w_DEFAULTCAPACITY_EMPTY_ELEMENTDATA c_DEFAULTCAPACITY_EMPTY_ELEMENTDATA w_EMPTY_LIST w_EMPTY w_ELEMS c_ELEMS w_MIR (.int (m0 + (1 : Int32))) kxa el0 h2 n0 O2 F E_a0 F_modCount_a0 F_elementData_a0 F_size_a0 V_xa E_xa Ovr_xa E_a1 g_xa g_a0) hZ (hw _ (List.mem_of_getElem? (i := 129) rfl)) (hw _ (List.mem_of_getElem? (i := 3) rfl)) (by decide) (by decide)) (g := (mkF m 20 #[.val (.ref a0), .val (.ref a1)] [(.int (1 : Int32)), (.ref xa), (.ref a1), (.ref a0)])) rfl (by rw [hml]; rfl) (Steps.refl _) (a := a0) (by rw [e4]; exact q5) q5' (argsL := [(.ref a1), (.ref xa), (.int (1 : Int32))]) (rest := []) (lenOf pd_16b_20 rfl) rfl (by show 2 * 0 + _ ≤ _; exact Nat.le_of_eq rfl) (hb hby d16b_20) (fun _ _ => ⟨rfl, e4, (by decide : 0 + 0 ≤ _), (by decide : 0 + 0 ≤ _)⟩)
  dsimp only [Pt.U, Pt.locs, Pt.cells, Pt.slots] at X5 l5 y5 z5 st5 hQ5
  subst l5 y5 z5
  obtain ⟨rfl, N5q, O5, Kc5, fq5_0, fq5_1, fq5_2, fq5_3⟩ := hQ5
  have N5 := Fr.app N2 N5q
  have K5 : Keep h0 T5.heap [a0, xa] := K2.trans Kc5 (allS (Or.inl (List.mem_of_getElem? (i := 1) rfl)) (allS (Or.inl (List.mem_of_getElem? (i := 0) rfl)) all0))
  have E_a0 := (E_a0.keep Kc5)
  have E_xa := (E_xa.keep Kc5)
  have E_a1 := (E_a1.keep Kc5)
  have F_modCount_a0 := fq5_0
  have F_elementData_a0 := fq5_1
  have F_size_a0 := fq5_2
  have V_xa := fq5_3
  obtain ⟨fs, hr, hrun, hended, hW, hsame⟩ := X5.leave (v := some (.int (1 : Int32))) (fun h => by rw [Bd.returns] at h; cases h)
  refine ⟨_, _, pre0 _ ?_, hrun, hended, _, _, rfl, ?_, ⟨_, rfl⟩, hW, hsame.mono (by decide) (by decide)⟩
  · show Steps p.tables e below (s₁.setTop (mkF m 0 #[.val (.ref a0), .val (.ref a1)] [])) _
    refine XS.aloadN X0.here hx rfl (hb hby d16b_0) rfl rfl ?_
    show Steps p.tables e below (s₁.setTop (mkF m 1 #[.val (.ref a0), .val (.ref a1)] [(.ref a0)])) _
    refine XS.dup X0.here hx rfl (hb hby d16b_1) rfl rfl ?_
    show Steps p.tables e below (s₁.setTop (mkF m 2 #[.val (.ref a0), .val (.ref a1)] [(.ref a0), (.ref a0)])) _
    refine st1 _ ?_
    show Steps p.tables e below (T1.setTop (mkF m 5 #[.val (.ref a0), .val (.ref a1)] [(.int m0), (.ref a0)])) _
    refine XS.iconst X1.here hx rfl (hb hby d16b_5) ?_
    show Steps p.tables e below (T1.setTop (mkF m 6 #[.val (.ref a0), .val (.ref a1)] [(.int (1 : Int32)), (.int m0), (.ref a0)])) _
    refine XS.iadd X1.here hx rfl (hb hby d16b_6) rfl ?_
    show Steps p.tables e below (T1.setTop (mkF m 7 #[.val (.ref a0), .val (.ref a1)] [(.int (m0 + (1 : Int32))), (.ref a0)])) _
    refine st2 _ ?_
    show Steps p.tables e below (T2.setTop (mkF m 10 #[.val (.ref a0), .val (.ref a1)] [])) _
    refine XS.aloadN X2.here hx rfl (hb hby d16b_10) rfl rfl ?_
    show Steps p.tables e below (T2.setTop (mkF m 11 #[.val (.ref a0), .val (.ref a1)] [(.ref a0)])) _
    refine XS.aloadN X2.here hx rfl (hb hby d16b_11) rfl rfl ?_
    show Steps p.tables e below (T2.setTop (mkF m 12 #[.val (.ref a0), .val (.ref a1)] [(.ref a1), (.ref a0)])) _
    refine XS.aloadN X2.here hx rfl (hb hby d16b_12) rfl rfl ?_
    show Steps p.tables e below (T2.setTop (mkF m 13 #[.val (.ref a0), .val (.ref a1)] [(.ref a0), (.ref a1), (.ref a0)])) _
    refine st3 _ ?_
    show Steps p.tables e below (T3.setTop (mkF m 16 #[.val (.ref a0), .val (.ref a1)] [(.ref xa), (.ref a1), (.ref a0)])) _
    refine XS.aloadN X3.here hx rfl (hb hby d16b_16) rfl rfl ?_
    show Steps p.tables e below (T3.setTop (mkF m 17 #[.val (.ref a0), .val (.ref a1)] [(.ref a0), (.ref xa), (.ref a1), (.ref a0)])) _
    refine st4 _ ?_
    show Steps p.tables e below (T4.setTop (mkF m 20 #[.val (.ref a0), .val (.ref a1)] [(.int (1 : Int32)), (.ref xa), (.ref a1), (.ref a0)])) _
    refine st5.trans ?_
    show Steps p.tables e below (T5.setTop (mkF m 23 #[.val (.ref a0), .val (.ref a1)] [])) _
    refine XS.iconst X5.here hx rfl (hb hby d16b_23) ?_
    show Steps p.tables e below (T5.setTop (mkF m 24 #[.val (.ref a0), .val (.ref a1)] [(.int (1 : Int32))])) _
    exact retN X5 hx (t := .boolean) Bd.returns (by simp) (hb hby d16b_24) hr
  · show Q16b Z a0 a1 w_STRING w_OBJECT w_INT w_MAP w_BIGDECIMAL w_DATE w_LONG w_LIST w_BOOLEAN w_DEFAULTCAPACITY_EMPTY_ELEMENTDATA c_DEFAULTCAPACITY_EMPTY_ELEMENTDATA w_EMPTY_LIST w_EMPTY w_ELEMS c_ELEMS w_MIR m0 xa kxa el0 h0 n0 _ T5.heap _
    skip
    exact ⟨rfl, N5, O5, K5, F_modCount_a0, F_elementData_a0, F_size_a0, V_xa⟩

theorem d7_0 : decode jdk_30_method_1_code 0 = .ok (.aload_n 0, 1) := by decide +kernel
theorem d7_1 : decode jdk_30_method_1_code 1 = .ok (.invokespecial 1, 3) := by decide +kernel
theorem d7_4 : decode jdk_30_method_1_code 4 = .ok (.return_, 1) := by decide +kernel
theorem pn_7 : plainName "java/lang/Record" = true := by first | (simp [plainName, overriddenIn]; done) | decide +kernel
theorem ef_7 (m : MethodId) (a0 : Addr) : entryFrame m #[(.ref a0)] 1 = mkF m 0 #[.val (.ref a0)] [] := by first | (simp [entryFrame, mkF, argsToLocals, Value.category]; done) | rfl
def Q7 (Z : State) (a0 : Addr) (w_STRING : Addr) (w_OBJECT : Addr) (w_INT : Addr) (w_MAP : Addr) (w_BIGDECIMAL : Addr) (w_DATE : Addr) (w_LONG : Addr) (w_LIST : Addr) (w_BOOLEAN : Addr) (w_DEFAULTCAPACITY_EMPTY_ELEMENTDATA : Addr) (c_DEFAULTCAPACITY_EMPTY_ELEMENTDATA : Cell) (w_EMPTY_LIST : Addr) (w_EMPTY : Addr) (w_ELEMS : Addr) (c_ELEMS : Cell) (w_MIR : Addr)  (h0 : Heap) (n0 : Nat) (v : Option Value) (h : Heap) (L : List Loc) : Prop := v = none ∧ Fr n0 L ∧ Old Z n0 h ∧ Keep h0 h []
set_option maxRecDepth 65536 in
set_option maxHeartbeats 40000000 in
theorem rm7 (l : Launch) (Z : State) (ar0 : Array Value) (hw : ∀ d ∈ tables_1, d.before ar0 Z = true) (ws : List Jvm.Cond) (a0 : Addr) (w_STRING : Addr) (w_OBJECT : Addr) (w_INT : Addr) (w_MAP : Addr) (w_BIGDECIMAL : Addr) (w_DATE : Addr) (w_LONG : Addr) (w_LIST : Addr) (w_BOOLEAN : Addr) (w_DEFAULTCAPACITY_EMPTY_ELEMENTDATA : Addr) (c_DEFAULTCAPACITY_EMPTY_ELEMENTDATA : Cell) (w_EMPTY_LIST : Addr) (w_EMPTY : Addr) (w_ELEMS : Addr) (c_ELEMS : Cell) (w_MIR : Addr)  (h0 : Heap) (n0 : Nat) (O0 : Old Z n0 h0) (F : Fx Z Z.heap w_STRING w_OBJECT w_INT w_MAP w_BIGDECIMAL w_DATE w_LONG w_LIST w_BOOLEAN w_DEFAULTCAPACITY_EMPTY_ELEMENTDATA c_DEFAULTCAPACITY_EMPTY_ELEMENTDATA w_EMPTY_LIST w_EMPTY w_ELEMS c_ELEMS w_MIR)  :
    MetFree l (⟨"java/lang/Record", "<init>", "()V"⟩ : MethodName) (head1 ((Jvm.Cond.code (⟨"java/lang/Record", "<init>", "()V"⟩ : MethodName) jdk_30_method_1_code 1 none) :: ws) ({ frames := 1, cells := 0, slots := 0, locals := 12 } : Room)) (fun a U => a = #[(.ref a0)] ∧ Z.Warmed39 U.vm ∧ U.heap = h0) (fun _ _ _ _ _ => True) (fun _ U o U' => ∃ v L, o = .returned v ∧ Q7 Z a0 w_STRING w_OBJECT w_INT w_MAP w_BIGDECIMAL w_DATE w_LONG w_LIST w_BOOLEAN w_DEFAULTCAPACITY_EMPTY_ELEMENTDATA c_DEFAULTCAPACITY_EMPTY_ELEMENTDATA w_EMPTY_LIST w_EMPTY w_ELEMS c_ELEMS w_MIR  h0 n0 v U'.heap L ∧ FrameEnd U o U' L ({ frames := 1, cells := 0, slots := 0, locals := 12 } : Room).cells ({ frames := 1, cells := 0, slots := 0, locals := 12 } : Room).slots) := by
  obtain ⟨S_STRING, E_STRING, S_OBJECT, E_OBJECT, F_ordinal_STRING, F_ordinal_OBJECT, S_INT, E_INT, F_ordinal_INT, S_MAP, E_MAP, S_BIGDECIMAL, E_BIGDECIMAL, S_DATE, E_DATE, S_LONG, E_LONG, F_ordinal_LONG, F_ordinal_BIGDECIMAL, S_LIST, E_LIST, S_BOOLEAN, E_BOOLEAN, F_ordinal_BOOLEAN, F_ordinal_DATE, S_DEFAULTCAPACITY_EMPTY_ELEMENTDATA, E_DEFAULTCAPACITY_EMPTY_ELEMENTDATA, A_DEFAULTCAPACITY_EMPTY_ELEMENTDATA, L_DEFAULTCAPACITY_EMPTY_ELEMENTDATA, S_EMPTY_LIST, E_EMPTY_LIST, S_EMPTY, E_EMPTY, F_elements_EMPTY_LIST, A_ELEMS, L_ELEMS, M_MIR⟩ := id F
  refine MetFree.of_bodySF (plainFor_of_name pn_7) hisR ?_
  intro p e s m args below meth c s₁ Bd hml0 hP hK
  obtain ⟨rfl, hZ, hh⟩ := hP
  have hx := Bd.exec
  have hby := Bd.bytes
  have hml : c.maxLocals = 1 := hml0
  have hown : s.vm.findClass "java/lang/Record" = some m.cls := findClass_of_methodNamed Bd.named
  have hnm := (name_of_methodNamed Bd.named Bd.method).1
  have X0 : Stand p l e ({ frames := 1, cells := 0, slots := 0, locals := 12 } : Room) s m #[(.ref a0)] below meth c s₁ [] 0 0 := Stand.of_body Bd
  have e0 : s₁.heap = h0 := by rw [← hh, Bd.state]; rfl
  have N0 := Fr.nil n0
  have K0 : Keep h0 h0 [] := Keep.refl _ _
  have pre0 : ∀ t, Steps p.tables e below (s₁.setTop (mkF m 0 #[.val (.ref a0)] [])) t → Steps p.tables e below (s₁.setTop (entryFrame m #[(.ref a0)] 1)) t := fun t k => castTop (ef_7 m a0) k
  obtain ⟨T1, X1, e1, st1⟩ := initO X0 hx hZ hown (hw _ (List.mem_of_getElem? (i := 45) rfl)) (hw _ (List.mem_of_getElem? (i := 20) rfl)) (hw _ (List.mem_of_getElem? (i := 21) rfl)) e0 (g := (mkF m 1 #[.val (.ref a0)] [(.ref a0)])) rfl (by rw [hml]; rfl) rfl (hb hby d7_1) (by decide) (W := 0) (by show 2 * 0 + _ ≤ _; exact Nat.le_of_eq rfl) (by decide)
  obtain ⟨fs, hr, hrun, hended, hW, hsame⟩ := X1.leave (v := none) (fun h => rfl)
  refine ⟨_, _, pre0 _ ?_, hrun, hended, _, _, rfl, ?_, ⟨_, rfl⟩, hW, hsame.mono (by decide) (by decide)⟩
  · show Steps p.tables e below (s₁.setTop (mkF m 0 #[.val (.ref a0)] [])) _
    refine XS.aloadN X0.here hx rfl (hb hby d7_0) rfl rfl ?_
    show Steps p.tables e below (s₁.setTop (mkF m 1 #[.val (.ref a0)] [(.ref a0)])) _
    refine st1 _ ?_
    show Steps p.tables e below (T1.setTop (mkF m 4 #[.val (.ref a0)] [])) _
    exact X1.returnOut hx Bd.returns (hb hby d7_4) hr
  · show Q7 Z a0 w_STRING w_OBJECT w_INT w_MAP w_BIGDECIMAL w_DATE w_LONG w_LIST w_BOOLEAN w_DEFAULTCAPACITY_EMPTY_ELEMENTDATA c_DEFAULTCAPACITY_EMPTY_ELEMENTDATA w_EMPTY_LIST w_EMPTY w_ELEMS c_ELEMS w_MIR  h0 n0 _ T1.heap _
    rw [e1]
    exact ⟨rfl, N0, O0, K0⟩

theorem d8_0 : decode jdk_31_method_11_code 0 = .ok (.aload_n 0, 1) := by decide +kernel
theorem d8_1 : decode jdk_31_method_11_code 1 = .ok (.ifnonnull 12, 3) := by decide +kernel
theorem d8_13 : decode jdk_31_method_11_code 13 = .ok (.aload_n 0, 1) := by decide +kernel
theorem d8_14 : decode jdk_31_method_11_code 14 = .ok (.areturn, 1) := by decide +kernel
theorem pn_8 : plainName "java/util/Objects" = true := by first | (simp [plainName, overriddenIn]; done) | decide +kernel
theorem ef_8 (m : MethodId) (a0 : Addr) (a1 : Addr) : entryFrame m #[(.ref a0), (.ref a1)] 2 = mkF m 0 #[.val (.ref a0), .val (.ref a1)] [] := by first | (simp [entryFrame, mkF, argsToLocals, Value.category]; done) | rfl
def Q8 (Z : State) (a0 : Addr) (a1 : Addr) (w_STRING : Addr) (w_OBJECT : Addr) (w_INT : Addr) (w_MAP : Addr) (w_BIGDECIMAL : Addr) (w_DATE : Addr) (w_LONG : Addr) (w_LIST : Addr) (w_BOOLEAN : Addr) (w_DEFAULTCAPACITY_EMPTY_ELEMENTDATA : Addr) (c_DEFAULTCAPACITY_EMPTY_ELEMENTDATA : Cell) (w_EMPTY_LIST : Addr) (w_EMPTY : Addr) (w_ELEMS : Addr) (c_ELEMS : Cell) (w_MIR : Addr)  (h0 : Heap) (n0 : Nat) (v : Option Value) (h : Heap) (L : List Loc) : Prop := v = some (.ref a0) ∧ Fr n0 L ∧ Old Z n0 h ∧ Keep h0 h []
set_option maxRecDepth 65536 in
set_option maxHeartbeats 40000000 in
theorem rm8 (l : Launch) (Z : State) (ar0 : Array Value) (hw : ∀ d ∈ tables_1, d.before ar0 Z = true) (ws : List Jvm.Cond) (a0 : Addr) (a1 : Addr) (w_STRING : Addr) (w_OBJECT : Addr) (w_INT : Addr) (w_MAP : Addr) (w_BIGDECIMAL : Addr) (w_DATE : Addr) (w_LONG : Addr) (w_LIST : Addr) (w_BOOLEAN : Addr) (w_DEFAULTCAPACITY_EMPTY_ELEMENTDATA : Addr) (c_DEFAULTCAPACITY_EMPTY_ELEMENTDATA : Cell) (w_EMPTY_LIST : Addr) (w_EMPTY : Addr) (w_ELEMS : Addr) (c_ELEMS : Cell) (w_MIR : Addr)  (h0 : Heap) (n0 : Nat) (O0 : Old Z n0 h0) (F : Fx Z Z.heap w_STRING w_OBJECT w_INT w_MAP w_BIGDECIMAL w_DATE w_LONG w_LIST w_BOOLEAN w_DEFAULTCAPACITY_EMPTY_ELEMENTDATA c_DEFAULTCAPACITY_EMPTY_ELEMENTDATA w_EMPTY_LIST w_EMPTY w_ELEMS c_ELEMS w_MIR)  :
    MetFree l (⟨"java/util/Objects", "requireNonNull", "(Ljava/lang/Object;Ljava/lang/String;)Ljava/lang/Object;"⟩ : MethodName) (head1 ((Jvm.Cond.code (⟨"java/util/Objects", "requireNonNull", "(Ljava/lang/Object;Ljava/lang/String;)Ljava/lang/Object;"⟩ : MethodName) jdk_31_method_11_code 2 (some (.object "java/lang/Object"))) :: ws) ({ frames := 0, cells := 0, slots := 0, locals := 0 } : Room)) (fun a U => a = #[(.ref a0), (.ref a1)] ∧ Z.Warmed39 U.vm ∧ U.heap = h0) (fun _ _ _ _ _ => True) (fun _ U o U' => ∃ v L, o = .returned v ∧ Q8 Z a0 a1 w_STRING w_OBJECT w_INT w_MAP w_BIGDECIMAL w_DATE w_LONG w_LIST w_BOOLEAN w_DEFAULTCAPACITY_EMPTY_ELEMENTDATA c_DEFAULTCAPACITY_EMPTY_ELEMENTDATA w_EMPTY_LIST w_EMPTY w_ELEMS c_ELEMS w_MIR  h0 n0 v U'.heap L ∧ FrameEnd U o U' L ({ frames := 0, cells := 0, slots := 0, locals := 0 } : Room).cells ({ frames := 0, cells := 0, slots := 0, locals := 0 } : Room).slots) := by
  obtain ⟨S_STRING, E_STRING, S_OBJECT, E_OBJECT, F_ordinal_STRING, F_ordinal_OBJECT, S_INT, E_INT, F_ordinal_INT, S_MAP, E_MAP, S_BIGDECIMAL, E_BIGDECIMAL, S_DATE, E_DATE, S_LONG, E_LONG, F_ordinal_LONG, F_ordinal_BIGDECIMAL, S_LIST, E_LIST, S_BOOLEAN, E_BOOLEAN, F_ordinal_BOOLEAN, F_ordinal_DATE, S_DEFAULTCAPACITY_EMPTY_ELEMENTDATA, E_DEFAULTCAPACITY_EMPTY_ELEMENTDATA, A_DEFAULTCAPACITY_EMPTY_ELEMENTDATA, L_DEFAULTCAPACITY_EMPTY_ELEMENTDATA, S_EMPTY_LIST, E_EMPTY_LIST, S_EMPTY, E_EMPTY, F_elements_EMPTY_LIST, A_ELEMS, L_ELEMS, M_MIR⟩ := id F
  refine MetFree.of_bodySF (plainFor_of_name pn_8) hisR ?_
  intro p e s m args below meth c s₁ Bd hml0 hP hK
  obtain ⟨rfl, hZ, hh⟩ := hP
  have hx := Bd.exec
  have hby := Bd.bytes
  have hml : c.maxLocals = 2 := hml0
  have hown : s.vm.findClass "java/util/Objects" = some m.cls := findClass_of_methodNamed Bd.named
  have hnm := (name_of_methodNamed Bd.named Bd.method).1
  have X0 : Stand p l e ({ frames := 0, cells := 0, slots := 0, locals := 0 } : Room) s m #[(.ref a0), (.ref a1)] below meth c s₁ [] 0 0 := Stand.of_body Bd
  have e0 : s₁.heap = h0 := by rw [← hh, Bd.state]; rfl
  have N0 := Fr.nil n0
  have K0 : Keep h0 h0 [] := Keep.refl _ _
  have pre0 : ∀ t, Steps p.tables e below (s₁.setTop (mkF m 0 #[.val (.ref a0), .val (.ref a1)] [])) t → Steps p.tables e below (s₁.setTop (entryFrame m #[(.ref a0), (.ref a1)] 2)) t := fun t k => castTop (ef_8 m a0 a1) k
  obtain ⟨fs, hr, hrun, hended, hW, hsame⟩ := X0.leave (v := some (.ref a0)) (fun h => by rw [Bd.returns] at h; cases h)
  refine ⟨_, _, pre0 _ ?_, hrun, hended, _, _, rfl, ?_, ⟨_, rfl⟩, hW, hsame.mono (by decide) (by decide)⟩
  · show Steps p.tables e below (s₁.setTop (mkF m 0 #[.val (.ref a0), .val (.ref a1)] [])) _
    refine XS.aloadN X0.here hx rfl (hb hby d8_0) rfl rfl ?_
    show Steps p.tables e below (s₁.setTop (mkF m 1 #[.val (.ref a0), .val (.ref a1)] [(.ref a0)])) _
    refine XS.ifnonnullYes X0.here hx rfl (pc0 := 1) (pc' := 13) rfl (hb hby d8_1) rfl (by decide) (by decide) ?_
    show Steps p.tables e below (s₁.setTop (mkF m 13 #[.val (.ref a0), .val (.ref a1)] [])) _
    refine XS.aloadN X0.here hx rfl (hb hby d8_13) rfl rfl ?_
    show Steps p.tables e below (s₁.setTop (mkF m 14 #[.val (.ref a0), .val (.ref a1)] [(.ref a0)])) _
    exact retOut X0 hx Bd.returns rfl (Or.inr (Or.inr (Or.inr (Or.inr ⟨rfl, rfl, rfl⟩)))) (hb hby d8_14) hr
  · show Q8 Z a0 a1 w_STRING w_OBJECT w_INT w_MAP w_BIGDECIMAL w_DATE w_LONG w_LIST w_BOOLEAN w_DEFAULTCAPACITY_EMPTY_ELEMENTDATA c_DEFAULTCAPACITY_EMPTY_ELEMENTDATA w_EMPTY_LIST w_EMPTY w_ELEMS c_ELEMS w_MIR  h0 n0 _ s₁.heap _
    rw [e0]
    exact ⟨rfl, N0, O0, K0⟩

theorem d29_0 : decode jdk_31_method_10_code 0 = .ok (.aload_n 0, 1) := by decide +kernel
theorem d29_1 : decode jdk_31_method_10_code 1 = .ok (.ifnonnull 11, 3) := by decide +kernel
theorem d29_12 : decode jdk_31_method_10_code 12 = .ok (.aload_n 0, 1) := by decide +kernel
theorem d29_13 : decode jdk_31_method_10_code 13 = .ok (.areturn, 1) := by decide +kernel
theorem pn_29 : plainName "java/util/Objects" = true := by first | (simp [plainName, overriddenIn]; done) | decide +kernel
theorem ef_29 (m : MethodId) (a0 : Addr) : entryFrame m #[(.ref a0)] 1 = mkF m 0 #[.val (.ref a0)] [] := by first | (simp [entryFrame, mkF, argsToLocals, Value.category]; done) | rfl
def Q29 (Z : State) (a0 : Addr) (w_STRING : Addr) (w_OBJECT : Addr) (w_INT : Addr) (w_MAP : Addr) (w_BIGDECIMAL : Addr) (w_DATE : Addr) (w_LONG : Addr) (w_LIST : Addr) (w_BOOLEAN : Addr) (w_DEFAULTCAPACITY_EMPTY_ELEMENTDATA : Addr) (c_DEFAULTCAPACITY_EMPTY_ELEMENTDATA : Cell) (w_EMPTY_LIST : Addr) (w_EMPTY : Addr) (w_ELEMS : Addr) (c_ELEMS : Cell) (w_MIR : Addr)  (h0 : Heap) (n0 : Nat) (v : Option Value) (h : Heap) (L : List Loc) : Prop := v = some (.ref a0) ∧ Fr n0 L ∧ Old Z n0 h ∧ Keep h0 h []
set_option maxRecDepth 65536 in
set_option maxHeartbeats 40000000 in
theorem rm29 (l : Launch) (Z : State) (ar0 : Array Value) (hw : ∀ d ∈ tables_1, d.before ar0 Z = true) (ws : List Jvm.Cond) (a0 : Addr) (w_STRING : Addr) (w_OBJECT : Addr) (w_INT : Addr) (w_MAP : Addr) (w_BIGDECIMAL : Addr) (w_DATE : Addr) (w_LONG : Addr) (w_LIST : Addr) (w_BOOLEAN : Addr) (w_DEFAULTCAPACITY_EMPTY_ELEMENTDATA : Addr) (c_DEFAULTCAPACITY_EMPTY_ELEMENTDATA : Cell) (w_EMPTY_LIST : Addr) (w_EMPTY : Addr) (w_ELEMS : Addr) (c_ELEMS : Cell) (w_MIR : Addr)  (h0 : Heap) (n0 : Nat) (O0 : Old Z n0 h0) (F : Fx Z Z.heap w_STRING w_OBJECT w_INT w_MAP w_BIGDECIMAL w_DATE w_LONG w_LIST w_BOOLEAN w_DEFAULTCAPACITY_EMPTY_ELEMENTDATA c_DEFAULTCAPACITY_EMPTY_ELEMENTDATA w_EMPTY_LIST w_EMPTY w_ELEMS c_ELEMS w_MIR)  :
    MetFree l (⟨"java/util/Objects", "requireNonNull", "(Ljava/lang/Object;)Ljava/lang/Object;"⟩ : MethodName) (head1 ((Jvm.Cond.code (⟨"java/util/Objects", "requireNonNull", "(Ljava/lang/Object;)Ljava/lang/Object;"⟩ : MethodName) jdk_31_method_10_code 1 (some (.object "java/lang/Object"))) :: ws) ({ frames := 0, cells := 0, slots := 0, locals := 0 } : Room)) (fun a U => a = #[(.ref a0)] ∧ Z.Warmed39 U.vm ∧ U.heap = h0) (fun _ _ _ _ _ => True) (fun _ U o U' => ∃ v L, o = .returned v ∧ Q29 Z a0 w_STRING w_OBJECT w_INT w_MAP w_BIGDECIMAL w_DATE w_LONG w_LIST w_BOOLEAN w_DEFAULTCAPACITY_EMPTY_ELEMENTDATA c_DEFAULTCAPACITY_EMPTY_ELEMENTDATA w_EMPTY_LIST w_EMPTY w_ELEMS c_ELEMS w_MIR  h0 n0 v U'.heap L ∧ FrameEnd U o U' L ({ frames := 0, cells := 0, slots := 0, locals := 0 } : Room).cells ({ frames := 0, cells := 0, slots := 0, locals := 0 } : Room).slots) := by
  obtain ⟨S_STRING, E_STRING, S_OBJECT, E_OBJECT, F_ordinal_STRING, F_ordinal_OBJECT, S_INT, E_INT, F_ordinal_INT, S_MAP, E_MAP, S_BIGDECIMAL, E_BIGDECIMAL, S_DATE, E_DATE, S_LONG, E_LONG, F_ordinal_LONG, F_ordinal_BIGDECIMAL, S_LIST, E_LIST, S_BOOLEAN, E_BOOLEAN, F_ordinal_BOOLEAN, F_ordinal_DATE, S_DEFAULTCAPACITY_EMPTY_ELEMENTDATA, E_DEFAULTCAPACITY_EMPTY_ELEMENTDATA, A_DEFAULTCAPACITY_EMPTY_ELEMENTDATA, L_DEFAULTCAPACITY_EMPTY_ELEMENTDATA, S_EMPTY_LIST, E_EMPTY_LIST, S_EMPTY, E_EMPTY, F_elements_EMPTY_LIST, A_ELEMS, L_ELEMS, M_MIR⟩ := id F
  refine MetFree.of_bodySF (plainFor_of_name pn_29) hisR ?_
  intro p e s m args below meth c s₁ Bd hml0 hP hK
  obtain ⟨rfl, hZ, hh⟩ := hP
  have hx := Bd.exec
  have hby := Bd.bytes
  have hml : c.maxLocals = 1 := hml0
  have hown : s.vm.findClass "java/util/Objects" = some m.cls := findClass_of_methodNamed Bd.named
  have hnm := (name_of_methodNamed Bd.named Bd.method).1
  have X0 : Stand p l e ({ frames := 0, cells := 0, slots := 0, locals := 0 } : Room) s m #[(.ref a0)] below meth c s₁ [] 0 0 := Stand.of_body Bd
  have e0 : s₁.heap = h0 := by rw [← hh, Bd.state]; rfl
  have N0 := Fr.nil n0
  have K0 : Keep h0 h0 [] := Keep.refl _ _
  have pre0 : ∀ t, Steps p.tables e below (s₁.setTop (mkF m 0 #[.val (.ref a0)] [])) t → Steps p.tables e below (s₁.setTop (entryFrame m #[(.ref a0)] 1)) t := fun t k => castTop (ef_29 m a0) k
  obtain ⟨fs, hr, hrun, hended, hW, hsame⟩ := X0.leave (v := some (.ref a0)) (fun h => by rw [Bd.returns] at h; cases h)
  refine ⟨_, _, pre0 _ ?_, hrun, hended, _, _, rfl, ?_, ⟨_, rfl⟩, hW, hsame.mono (by decide) (by decide)⟩
  · show Steps p.tables e below (s₁.setTop (mkF m 0 #[.val (.ref a0)] [])) _
    refine XS.aloadN X0.here hx rfl (hb hby d29_0) rfl rfl ?_
    show Steps p.tables e below (s₁.setTop (mkF m 1 #[.val (.ref a0)] [(.ref a0)])) _
    refine XS.ifnonnullYes X0.here hx rfl (pc0 := 1) (pc' := 12) rfl (hb hby d29_1) rfl (by decide) (by decide) ?_
    show Steps p.tables e below (s₁.setTop (mkF m 12 #[.val (.ref a0)] [])) _
    refine XS.aloadN X0.here hx rfl (hb hby d29_12) rfl rfl ?_
    show Steps p.tables e below (s₁.setTop (mkF m 13 #[.val (.ref a0)] [(.ref a0)])) _
    exact retOut X0 hx Bd.returns rfl (Or.inr (Or.inr (Or.inr (Or.inr ⟨rfl, rfl, rfl⟩)))) (hb hby d29_13) hr
  · show Q29 Z a0 w_STRING w_OBJECT w_INT w_MAP w_BIGDECIMAL w_DATE w_LONG w_LIST w_BOOLEAN w_DEFAULTCAPACITY_EMPTY_ELEMENTDATA c_DEFAULTCAPACITY_EMPTY_ELEMENTDATA w_EMPTY_LIST w_EMPTY w_ELEMS c_ELEMS w_MIR  h0 n0 _ s₁.heap _
    rw [e0]
    exact ⟨rfl, N0, O0, K0⟩

theorem d28_0 : decode jdk_47_method_1_code 0 = .ok (.aload_n 0, 1) := by decide +kernel
theorem d28_1 : decode jdk_47_method_1_code 1 = .ok (.invokespecial 1, 3) := by decide +kernel
theorem d28_4 : decode jdk_47_method_1_code 4 = .ok (.return_, 1) := by decide +kernel
theorem pn_28 : plainName "java/util/ImmutableCollections$AbstractImmutableCollection" = true := by first | (simp [plainName, overriddenIn]; done) | decide +kernel
theorem pd_28_1 : parseMethodDescriptor "()V" = some ⟨[], none⟩ := by decide +kernel
theorem ef_28 (m : MethodId) (a0 : Addr) : entryFrame m #[(.ref a0)] 1 = mkF m 0 #[.val (.ref a0)] [] := by first | (simp [entryFrame, mkF, argsToLocals, Value.category]; done) | rfl
def Q28 (Z : State) (a0 : Addr) (w_STRING : Addr) (w_OBJECT : Addr) (w_INT : Addr) (w_MAP : Addr) (w_BIGDECIMAL : Addr) (w_DATE : Addr) (w_LONG : Addr) (w_LIST : Addr) (w_BOOLEAN : Addr) (w_DEFAULTCAPACITY_EMPTY_ELEMENTDATA : Addr) (c_DEFAULTCAPACITY_EMPTY_ELEMENTDATA : Cell) (w_EMPTY_LIST : Addr) (w_EMPTY : Addr) (w_ELEMS : Addr) (c_ELEMS : Cell) (w_MIR : Addr)  (h0 : Heap) (n0 : Nat) (v : Option Value) (h : Heap) (L : List Loc) : Prop := v = none ∧ Fr n0 L ∧ Old Z n0 h ∧ Keep h0 h []
set_option maxRecDepth 65536 in
set_option maxHeartbeats 40000000 in
theorem rm28 (l : Launch) (Z : State) (ar0 : Array Value) (hw : ∀ d ∈ tables_1, d.before ar0 Z = true) (ws : List Jvm.Cond) (a0 : Addr) (w_STRING : Addr) (w_OBJECT : Addr) (w_INT : Addr) (w_MAP : Addr) (w_BIGDECIMAL : Addr) (w_DATE : Addr) (w_LONG : Addr) (w_LIST : Addr) (w_BOOLEAN : Addr) (w_DEFAULTCAPACITY_EMPTY_ELEMENTDATA : Addr) (c_DEFAULTCAPACITY_EMPTY_ELEMENTDATA : Cell) (w_EMPTY_LIST : Addr) (w_EMPTY : Addr) (w_ELEMS : Addr) (c_ELEMS : Cell) (w_MIR : Addr)  (h0 : Heap) (n0 : Nat) (O0 : Old Z n0 h0) (F : Fx Z Z.heap w_STRING w_OBJECT w_INT w_MAP w_BIGDECIMAL w_DATE w_LONG w_LIST w_BOOLEAN w_DEFAULTCAPACITY_EMPTY_ELEMENTDATA c_DEFAULTCAPACITY_EMPTY_ELEMENTDATA w_EMPTY_LIST w_EMPTY w_ELEMS c_ELEMS w_MIR)  :
    MetFree l (⟨"java/util/ImmutableCollections$AbstractImmutableCollection", "<init>", "()V"⟩ : MethodName) (head1 ((Jvm.Cond.code (⟨"java/util/ImmutableCollections$AbstractImmutableCollection", "<init>", "()V"⟩ : MethodName) jdk_47_method_1_code 1 none) :: ws) ({ frames := 2, cells := 0, slots := 0, locals := 24 } : Room)) (fun a U => a = #[(.ref a0)] ∧ Z.Warmed39 U.vm ∧ U.heap = h0) (fun _ _ _ _ _ => True) (fun _ U o U' => ∃ v L, o = .returned v ∧ Q28 Z a0 w_STRING w_OBJECT w_INT w_MAP w_BIGDECIMAL w_DATE w_LONG w_LIST w_BOOLEAN w_DEFAULTCAPACITY_EMPTY_ELEMENTDATA c_DEFAULTCAPACITY_EMPTY_ELEMENTDATA w_EMPTY_LIST w_EMPTY w_ELEMS c_ELEMS w_MIR  h0 n0 v U'.heap L ∧ FrameEnd U o U' L ({ frames := 2, cells := 0, slots := 0, locals := 24 } : Room).cells ({ frames := 2, cells := 0, slots := 0, locals := 24 } : Room).slots) := by
  obtain ⟨S_STRING, E_STRING, S_OBJECT, E_OBJECT, F_ordinal_STRING, F_ordinal_OBJECT, S_INT, E_INT, F_ordinal_INT, S_MAP, E_MAP, S_BIGDECIMAL, E_BIGDECIMAL, S_DATE, E_DATE, S_LONG, E_LONG, F_ordinal_LONG, F_ordinal_BIGDECIMAL, S_LIST, E_LIST, S_BOOLEAN, E_BOOLEAN, F_ordinal_BOOLEAN, F_ordinal_DATE, S_DEFAULTCAPACITY_EMPTY_ELEMENTDATA, E_DEFAULTCAPACITY_EMPTY_ELEMENTDATA, A_DEFAULTCAPACITY_EMPTY_ELEMENTDATA, L_DEFAULTCAPACITY_EMPTY_ELEMENTDATA, S_EMPTY_LIST, E_EMPTY_LIST, S_EMPTY, E_EMPTY, F_elements_EMPTY_LIST, A_ELEMS, L_ELEMS, M_MIR⟩ := id F
  refine MetFree.of_bodySF (plainFor_of_name pn_28) hisR ?_
  intro p e s m args below meth c s₁ Bd hml0 hP hK
  obtain ⟨rfl, hZ, hh⟩ := hP
  have hx := Bd.exec
  have hby := Bd.bytes
  have hml : c.maxLocals = 1 := hml0
  have hown : s.vm.findClass "java/util/ImmutableCollections$AbstractImmutableCollection" = some m.cls := findClass_of_methodNamed Bd.named
  have hnm := (name_of_methodNamed Bd.named Bd.method).1
  have X0 : Stand p l e ({ frames := 2, cells := 0, slots := 0, locals := 24 } : Room) s m #[(.ref a0)] below meth c s₁ [] 0 0 := Stand.of_body Bd
  have e0 : s₁.heap = h0 := by rw [← hh, Bd.state]; rfl
  have N0 := Fr.nil n0
  have K0 : Keep h0 h0 [] := Keep.refl _ _
  have pre0 : ∀ t, Steps p.tables e below (s₁.setTop (mkF m 0 #[.val (.ref a0)] [])) t → Steps p.tables e below (s₁.setTop (entryFrame m #[(.ref a0)] 1)) t := fun t k => castTop (ef_28 m a0) k
  obtain ⟨_, _, ⟨T1, L1, k1, n1⟩, -, X1, ⟨Lc1, hQ1, l1, y1, z1⟩, st1⟩ := X0.specialBack hx (y := (⟨"java/util/AbstractCollection", "<init>", "()V"⟩ : MethodName)) rfl hown (mvT hZ (hw _ (List.mem_of_getElem? (i := 201) rfl))) (mvT hZ (hw _ (List.mem_of_getElem? (i := 14) rfl))) (mvT hZ (hw _ (List.mem_of_getElem? (i := 18) rfl))) (by decide) (backOf (W := 0) (rm3 l Z ar0 hw [] a0 w_STRING w_OBJECT w_INT w_MAP w_BIGDECIMAL w_DATE w_LONG w_LIST w_BOOLEAN w_DEFAULTCAPACITY_EMPTY_ELEMENTDATA c_DEFAULTCAPACITY_EMPTY_ELEMENTDATA w_EMPTY_LIST w_EMPTY w_ELEMS c_ELEMS w_MIR  h0 n0 O0 F ) hZ (hw _ (List.mem_of_getElem? (i := 18) rfl)) (hw _ (List.mem_of_getElem? (i := 17) rfl)) (by decide) (by decide)) (g := (mkF m 1 #[.val (.ref a0)] [(.ref a0)])) rfl (by rw [hml]; rfl) (Steps.refl _) (a := a0) (argsL := []) (rest := []) (lenOf pd_28_1 rfl) rfl (by show 2 * 0 + _ ≤ _; exact Nat.le_of_eq rfl) (hb hby d28_1) (fun _ _ => ⟨rfl, e0, (by decide : 0 + 0 ≤ _), (by decide : 0 + 0 ≤ _)⟩)
  dsimp only [Pt.U, Pt.locs, Pt.cells, Pt.slots] at X1 l1 y1 z1 st1 hQ1
  subst l1 y1 z1
  obtain ⟨rfl, N1q, O1, Kc1⟩ := hQ1
  have N1 := Fr.app N0 N1q
  have K1 : Keep h0 T1.heap [] := K0.trans Kc1 all0
  obtain ⟨fs, hr, hrun, hended, hW, hsame⟩ := X1.leave (v := none) (fun h => rfl)
  refine ⟨_, _, pre0 _ ?_, hrun, hended, _, _, rfl, ?_, ⟨_, rfl⟩, hW, hsame.mono (by decide) (by decide)⟩
  · show Steps p.tables e below (s₁.setTop (mkF m 0 #[.val (.ref a0)] [])) _
    refine XS.aloadN X0.here hx rfl (hb hby d28_0) rfl rfl ?_
    show Steps p.tables e below (s₁.setTop (mkF m 1 #[.val (.ref a0)] [(.ref a0)])) _
    refine st1.trans ?_
    show Steps p.tables e below (T1.setTop (mkF m 4 #[.val (.ref a0)] [])) _
    exact X1.returnOut hx Bd.returns (hb hby d28_4) hr
  · show Q28 Z a0 w_STRING w_OBJECT w_INT w_MAP w_BIGDECIMAL w_DATE w_LONG w_LIST w_BOOLEAN w_DEFAULTCAPACITY_EMPTY_ELEMENTDATA c_DEFAULTCAPACITY_EMPTY_ELEMENTDATA w_EMPTY_LIST w_EMPTY w_ELEMS c_ELEMS w_MIR  h0 n0 _ T1.heap _
    skip
    exact ⟨rfl, N1, O1, K1⟩

theorem d27_0 : decode jdk_46_method_1_code 0 = .ok (.aload_n 0, 1) := by decide +kernel
theorem d27_1 : decode jdk_46_method_1_code 1 = .ok (.invokespecial 1, 3) := by decide +kernel
theorem d27_4 : decode jdk_46_method_1_code 4 = .ok (.return_, 1) := by decide +kernel
theorem pn_27 : plainName "java/util/ImmutableCollections$AbstractImmutableList" = true := by first | (simp [plainName, overriddenIn]; done) | decide +kernel
theorem pd_27_1 : parseMethodDescriptor "()V" = some ⟨[], none⟩ := by decide +kernel
theorem ef_27 (m : MethodId) (a0 : Addr) : entryFrame m #[(.ref a0)] 1 = mkF m 0 #[.val (.ref a0)] [] := by first | (simp [entryFrame, mkF, argsToLocals, Value.category]; done) | rfl
def Q27 (Z : State) (a0 : Addr) (w_STRING : Addr) (w_OBJECT : Addr) (w_INT : Addr) (w_MAP : Addr) (w_BIGDECIMAL : Addr) (w_DATE : Addr) (w_LONG : Addr) (w_LIST : Addr) (w_BOOLEAN : Addr) (w_DEFAULTCAPACITY_EMPTY_ELEMENTDATA : Addr) (c_DEFAULTCAPACITY_EMPTY_ELEMENTDATA : Cell) (w_EMPTY_LIST : Addr) (w_EMPTY : Addr) (w_ELEMS : Addr) (c_ELEMS : Cell) (w_MIR : Addr)  (h0 : Heap) (n0 : Nat) (v : Option Value) (h : Heap) (L : List Loc) : Prop := v = none ∧ Fr n0 L ∧ Old Z n0 h ∧ Keep h0 h []
set_option maxRecDepth 65536 in
set_option maxHeartbeats 40000000 in
theorem rm27 (l : Launch) (Z : State) (ar0 : Array Value) (hw : ∀ d ∈ tables_1, d.before ar0 Z = true) (ws : List Jvm.Cond) (a0 : Addr) (w_STRING : Addr) (w_OBJECT : Addr) (w_INT : Addr) (w_MAP : Addr) (w_BIGDECIMAL : Addr) (w_DATE : Addr) (w_LONG : Addr) (w_LIST : Addr) (w_BOOLEAN : Addr) (w_DEFAULTCAPACITY_EMPTY_ELEMENTDATA : Addr) (c_DEFAULTCAPACITY_EMPTY_ELEMENTDATA : Cell) (w_EMPTY_LIST : Addr) (w_EMPTY : Addr) (w_ELEMS : Addr) (c_ELEMS : Cell) (w_MIR : Addr)  (h0 : Heap) (n0 : Nat) (O0 : Old Z n0 h0) (F : Fx Z Z.heap w_STRING w_OBJECT w_INT w_MAP w_BIGDECIMAL w_DATE w_LONG w_LIST w_BOOLEAN w_DEFAULTCAPACITY_EMPTY_ELEMENTDATA c_DEFAULTCAPACITY_EMPTY_ELEMENTDATA w_EMPTY_LIST w_EMPTY w_ELEMS c_ELEMS w_MIR)  :
    MetFree l (⟨"java/util/ImmutableCollections$AbstractImmutableList", "<init>", "()V"⟩ : MethodName) (head1 ((Jvm.Cond.code (⟨"java/util/ImmutableCollections$AbstractImmutableList", "<init>", "()V"⟩ : MethodName) jdk_46_method_1_code 1 none) :: ws) ({ frames := 3, cells := 0, slots := 0, locals := 36 } : Room)) (fun a U => a = #[(.ref a0)] ∧ Z.Warmed39 U.vm ∧ U.heap = h0) (fun _ _ _ _ _ => True) (fun _ U o U' => ∃ v L, o = .returned v ∧ Q27 Z a0 w_STRING w_OBJECT w_INT w_MAP w_BIGDECIMAL w_DATE w_LONG w_LIST w_BOOLEAN w_DEFAULTCAPACITY_EMPTY_ELEMENTDATA c_DEFAULTCAPACITY_EMPTY_ELEMENTDATA w_EMPTY_LIST w_EMPTY w_ELEMS c_ELEMS w_MIR  h0 n0 v U'.heap L ∧ FrameEnd U o U' L ({ frames := 3, cells := 0, slots := 0, locals := 36 } : Room).cells ({ frames := 3, cells := 0, slots := 0, locals := 36 } : Room).slots) := by
  obtain ⟨S_STRING, E_STRING, S_OBJECT, E_OBJECT, F_ordinal_STRING, F_ordinal_OBJECT, S_INT, E_INT, F_ordinal_INT, S_MAP, E_MAP, S_BIGDECIMAL, E_BIGDECIMAL, S_DATE, E_DATE, S_LONG, E_LONG, F_ordinal_LONG, F_ordinal_BIGDECIMAL, S_LIST, E_LIST, S_BOOLEAN, E_BOOLEAN, F_ordinal_BOOLEAN, F_ordinal_DATE, S_DEFAULTCAPACITY_EMPTY_ELEMENTDATA, E_DEFAULTCAPACITY_EMPTY_ELEMENTDATA, A_DEFAULTCAPACITY_EMPTY_ELEMENTDATA, L_DEFAULTCAPACITY_EMPTY_ELEMENTDATA, S_EMPTY_LIST, E_EMPTY_LIST, S_EMPTY, E_EMPTY, F_elements_EMPTY_LIST, A_ELEMS, L_ELEMS, M_MIR⟩ := id F
  refine MetFree.of_bodySF (plainFor_of_name pn_27) hisR ?_
  intro p e s m args below meth c s₁ Bd hml0 hP hK
  obtain ⟨rfl, hZ, hh⟩ := hP
  have hx := Bd.exec
  have hby := Bd.bytes
  have hml : c.maxLocals = 1 := hml0
  have hown : s.vm.findClass "java/util/ImmutableCollections$AbstractImmutableList" = some m.cls := findClass_of_methodNamed Bd.named
  have hnm := (name_of_methodNamed Bd.named Bd.method).1
  have X0 : Stand p l e ({ frames := 3, cells := 0, slots := 0, locals := 36 } : Room) s m #[(.ref a0)] below meth c s₁ [] 0 0 := Stand.of_body Bd
  have e0 : s₁.heap = h0 := by rw [← hh, Bd.state]; rfl
  have N0 := Fr.nil n0
  have K0 : Keep h0 h0 [] := Keep.refl _ _
  have pre0 : ∀ t, Steps p.tables e below (s₁.setTop (mkF m 0 #[.val (.ref a0)] [])) t → Steps p.tables e below (s₁.setTop (entryFrame m #[(.ref a0)] 1)) t := fun t k => castTop (ef_27 m a0) k
  obtain ⟨_, _, ⟨T1, L1, k1, n1⟩, -, X1, ⟨Lc1, hQ1, l1, y1, z1⟩, st1⟩ := X0.specialBack hx (y := (⟨"java/util/ImmutableCollections$AbstractImmutableCollection", "<init>", "()V"⟩ : MethodName)) rfl hown (mvT hZ (hw _ (List.mem_of_getElem? (i := 195) rfl))) (mvT hZ (hw _ (List.mem_of_getElem? (i := 196) rfl))) (mvT hZ (hw _ (List.mem_of_getElem? (i := 200) rfl))) (by decide) (backOf (W := 0) (rm28 l Z ar0 hw [] a0 w_STRING w_OBJECT w_INT w_MAP w_BIGDECIMAL w_DATE w_LONG w_LIST w_BOOLEAN w_DEFAULTCAPACITY_EMPTY_ELEMENTDATA c_DEFAULTCAPACITY_EMPTY_ELEMENTDATA w_EMPTY_LIST w_EMPTY w_ELEMS c_ELEMS w_MIR  h0 n0 O0 F ) hZ (hw _ (List.mem_of_getElem? (i := 200) rfl)) (hw _ (List.mem_of_getElem? (i := 199) rfl)) (by decide) (by decide)) (g := (mkF m 1 #[.val (.ref a0)] [(.ref a0)])) rfl (by rw [hml]; rfl) (Steps.refl _) (a := a0) (argsL := []) (rest := []) (lenOf pd_27_1 rfl) rfl (by show 2 * 0 + _ ≤ _; exact Nat.le_of_eq rfl) (hb hby d27_1) (fun _ _ => ⟨rfl, e0, (by decide : 0 + 0 ≤ _), (by decide : 0 + 0 ≤ _)⟩)
  dsimp only [Pt.U, Pt.locs, Pt.cells, Pt.slots] at X1 l1 y1 z1 st1 hQ1
  subst l1 y1 z1
  obtain ⟨rfl, N1q, O1, Kc1⟩ := hQ1
  have N1 := Fr.app N0 N1q
  have K1 : Keep h0 T1.heap [] := K0.trans Kc1 all0
  obtain ⟨fs, hr, hrun, hended, hW, hsame⟩ := X1.leave (v := none) (fun h => rfl)
  refine ⟨_, _, pre0 _ ?_, hrun, hended, _, _, rfl, ?_, ⟨_, rfl⟩, hW, hsame.mono (by decide) (by decide)⟩
  · show Steps p.tables e below (s₁.setTop (mkF m 0 #[.val (.ref a0)] [])) _
    refine XS.aloadN X0.here hx rfl (hb hby d27_0) rfl rfl ?_
    show Steps p.tables e below (s₁.setTop (mkF m 1 #[.val (.ref a0)] [(.ref a0)])) _
    refine st1.trans ?_
    show Steps p.tables e below (T1.setTop (mkF m 4 #[.val (.ref a0)] [])) _
    exact X1.returnOut hx Bd.returns (hb hby d27_4) hr
  · show Q27 Z a0 w_STRING w_OBJECT w_INT w_MAP w_BIGDECIMAL w_DATE w_LONG w_LIST w_BOOLEAN w_DEFAULTCAPACITY_EMPTY_ELEMENTDATA c_DEFAULTCAPACITY_EMPTY_ELEMENTDATA w_EMPTY_LIST w_EMPTY w_ELEMS c_ELEMS w_MIR  h0 n0 _ T1.heap _
    skip
    exact ⟨rfl, N1, O1, K1⟩

theorem d31_0 : decode jdk_44_method_1_code 0 = .ok (.aload_n 0, 1) := by decide +kernel
theorem d31_1 : decode jdk_44_method_1_code 1 = .ok (.invokespecial 1, 3) := by decide +kernel
theorem d31_4 : decode jdk_44_method_1_code 4 = .ok (.aload_n 0, 1) := by decide +kernel
theorem d31_5 : decode jdk_44_method_1_code 5 = .ok (.aload_n 1, 1) := by decide +kernel
theorem d31_6 : decode jdk_44_method_1_code 6 = .ok (.invokestatic 7, 3) := by decide +kernel
theorem d31_9 : decode jdk_44_method_1_code 9 = .ok (.putfield 13, 3) := by decide +kernel
theorem d31_12 : decode jdk_44_method_1_code 12 = .ok (.aload_n 0, 1) := by decide +kernel
theorem d31_13 : decode jdk_44_method_1_code 13 = .ok (.getstatic 19, 3) := by decide +kernel
theorem d31_16 : decode jdk_44_method_1_code 16 = .ok (.putfield 24, 3) := by decide +kernel
theorem d31_19 : decode jdk_44_method_1_code 19 = .ok (.return_, 1) := by decide +kernel
theorem pn_31 : plainName "java/util/ImmutableCollections$List12" = true := by first | (simp [plainName, overriddenIn]; done) | decide +kernel
theorem pd_31_1 : parseMethodDescriptor "()V" = some ⟨[], none⟩ := by decide +kernel
theorem pd_31_6 : parseMethodDescriptor "(Ljava/lang/Object;)Ljava/lang/Object;" = some ⟨[(.object "java/lang/Object")], some (.object "java/lang/Object")⟩ := by decide +kernel
theorem ef_31 (m : MethodId) (a0 : Addr) (a1 : Addr) : entryFrame m #[(.ref a0), (.ref a1)] 2 = mkF m 0 #[.val (.ref a0), .val (.ref a1)] [] := by first | (simp [entryFrame, mkF, argsToLocals, Value.category]; done) | rfl
def Q31 (Z : State) (a0 : Addr) (a1 : Addr) (w_STRING : Addr) (w_OBJECT : Addr) (w_INT : Addr) (w_MAP : Addr) (w_BIGDECIMAL : Addr) (w_DATE : Addr) (w_LONG : Addr) (w_LIST : Addr) (w_BOOLEAN : Addr) (w_DEFAULTCAPACITY_EMPTY_ELEMENTDATA : Addr) (c_DEFAULTCAPACITY_EMPTY_ELEMENTDATA : Cell) (w_EMPTY_LIST : Addr) (w_EMPTY : Addr) (w_ELEMS : Addr) (c_ELEMS : Cell) (w_MIR : Addr) (u_e0_a0 : Value) (u_e1_a0 : Value) (h0 : Heap) (n0 : Nat) (v : Option Value) (h : Heap) (L : List Loc) : Prop := v = none ∧ Fr n0 L ∧ Old Z n0 h ∧ Keep h0 h [a0] ∧ (Fld Z h a0 "java/util/ImmutableCollections$List12" "e0" "Ljava/lang/Object;" (.ref a1)) ∧ (Fld Z h a0 "java/util/ImmutableCollections$List12" "e1" "Ljava/lang/Object;" (.ref w_EMPTY))
set_option maxRecDepth 65536 in
set_option maxHeartbeats 40000000 in
theorem rm31 (l : Launch) (Z : State) (ar0 : Array Value) (hw : ∀ d ∈ tables_1, d.before ar0 Z = true) (ws : List Jvm.Cond) (a0 : Addr) (a1 : Addr) (w_STRING : Addr) (w_OBJECT : Addr) (w_INT : Addr) (w_MAP : Addr) (w_BIGDECIMAL : Addr) (w_DATE : Addr) (w_LONG : Addr) (w_LIST : Addr) (w_BOOLEAN : Addr) (w_DEFAULTCAPACITY_EMPTY_ELEMENTDATA : Addr) (c_DEFAULTCAPACITY_EMPTY_ELEMENTDATA : Cell) (w_EMPTY_LIST : Addr) (w_EMPTY : Addr) (w_ELEMS : Addr) (c_ELEMS : Cell) (w_MIR : Addr) (u_e0_a0 : Value) (u_e1_a0 : Value) (h0 : Heap) (n0 : Nat) (O0 : Old Z n0 h0) (F : Fx Z Z.heap w_STRING w_OBJECT w_INT w_MAP w_BIGDECIMAL w_DATE w_LONG w_LIST w_BOOLEAN w_DEFAULTCAPACITY_EMPTY_ELEMENTDATA c_DEFAULTCAPACITY_EMPTY_ELEMENTDATA w_EMPTY_LIST w_EMPTY w_ELEMS c_ELEMS w_MIR) (E_a00 : Exa Z h0 a0 "java/util/ImmutableCollections$List12") (F_e0_a00 : Fld Z h0 a0 "java/util/ImmutableCollections$List12" "e0" "Ljava/lang/Object;" u_e0_a0) (g_a0 : n0 ≤ a0) (F_e1_a00 : Fld Z h0 a0 "java/util/ImmutableCollections$List12" "e1" "Ljava/lang/Object;" u_e1_a0) :
    MetFree l (⟨"java/util/ImmutableCollections$List12", "<init>", "(Ljava/lang/Object;)V"⟩ : MethodName) (head1 ((Jvm.Cond.code (⟨"java/util/ImmutableCollections$List12", "<init>", "(Ljava/lang/Object;)V"⟩ : MethodName) jdk_44_method_1_code 2 none) :: ws) ({ frames := 4, cells := 0, slots := 0, locals := 48 } : Room)) (fun a U => a = #[(.ref a0), (.ref a1)] ∧ Z.Warmed39 U.vm ∧ U.heap = h0) (fun _ _ _ _ _ => True) (fun _ U o U' => ∃ v L, o = .returned v ∧ Q31 Z a0 a1 w_STRING w_OBJECT w_INT w_MAP w_BIGDECIMAL w_DATE w_LONG w_LIST w_BOOLEAN w_DEFAULTCAPACITY_EMPTY_ELEMENTDATA c_DEFAULTCAPACITY_EMPTY_ELEMENTDATA w_EMPTY_LIST w_EMPTY w_ELEMS c_ELEMS w_MIR u_e0_a0 u_e1_a0 h0 n0 v U'.heap L ∧ FrameEnd U o U' L ({ frames := 4, cells := 0, slots := 0, locals := 48 } : Room).cells ({ frames := 4, cells := 0, slots := 0, locals := 48 } : Room).slots) := by
  obtain ⟨S_STRING, E_STRING, S_OBJECT, E_OBJECT, F_ordinal_STRING, F_ordinal_OBJECT, S_INT, E_INT, F_ordinal_INT, S_MAP, E_MAP, S_BIGDECIMAL, E_BIGDECIMAL, S_DATE, E_DATE, S_LONG, E_LONG, F_ordinal_LONG, F_ordinal_BIGDECIMAL, S_LIST, E_LIST, S_BOOLEAN, E_BOOLEAN, F_ordinal_BOOLEAN, F_ordinal_DATE, S_DEFAULTCAPACITY_EMPTY_ELEMENTDATA, E_DEFAULTCAPACITY_EMPTY_ELEMENTDATA, A_DEFAULTCAPACITY_EMPTY_ELEMENTDATA, L_DEFAULTCAPACITY_EMPTY_ELEMENTDATA, S_EMPTY_LIST, E_EMPTY_LIST, S_EMPTY, E_EMPTY, F_elements_EMPTY_LIST, A_ELEMS, L_ELEMS, M_MIR⟩ := id F
  refine MetFree.of_bodySF (plainFor_of_name pn_31) hisR ?_
  intro p e s m args below meth c s₁ Bd hml0 hP hK
  obtain ⟨rfl, hZ, hh⟩ := hP
  have hx := Bd.exec
  have hby := Bd.bytes
  have hml : c.maxLocals = 2 := hml0
  have hown : s.vm.findClass "java/util/ImmutableCollections$List12" = some m.cls := findClass_of_methodNamed Bd.named
  have hnm := (name_of_methodNamed Bd.named Bd.method).1
  have X0 : Stand p l e ({ frames := 4, cells := 0, slots := 0, locals := 48 } : Room) s m #[(.ref a0), (.ref a1)] below meth c s₁ [] 0 0 := Stand.of_body Bd
  have e0 : s₁.heap = h0 := by rw [← hh, Bd.state]; rfl
  have N0 := Fr.nil n0
  have K0 : Keep h0 h0 [a0] := Keep.refl _ _
  have pre0 : ∀ t, Steps p.tables e below (s₁.setTop (mkF m 0 #[.val (.ref a0), .val (.ref a1)] [])) t → Steps p.tables e below (s₁.setTop (entryFrame m #[(.ref a0), (.ref a1)] 2)) t := fun t k => castTop (ef_31 m a0 a1) k
  obtain ⟨_, _, ⟨T1, L1, k1, n1⟩, -, X1, ⟨Lc1, hQ1, l1, y1, z1⟩, st1⟩ := X0.specialBack hx (y := (⟨"java/util/ImmutableCollections$AbstractImmutableList", "<init>", "()V"⟩ : MethodName)) rfl hown (mvT hZ (hw _ (List.mem_of_getElem? (i := 189) rfl))) (mvT hZ (hw _ (List.mem_of_getElem? (i := 190) rfl))) (mvT hZ (hw _ (List.mem_of_getElem? (i := 194) rfl))) (by decide) (backOf (W := 0) (rm27 l Z ar0 hw [] a0 w_STRING w_OBJECT w_INT w_MAP w_BIGDECIMAL w_DATE w_LONG w_LIST w_BOOLEAN w_DEFAULTCAPACITY_EMPTY_ELEMENTDATA c_DEFAULTCAPACITY_EMPTY_ELEMENTDATA w_EMPTY_LIST w_EMPTY w_ELEMS c_ELEMS w_MIR  h0 n0 O0 F ) hZ (hw _ (List.mem_of_getElem? (i := 194) rfl)) (hw _ (List.mem_of_getElem? (i := 193) rfl)) (by decide) (by decide)) (g := (mkF m 1 #[.val (.ref a0), .val (.ref a1)] [(.ref a0)])) rfl (by rw [hml]; rfl) (Steps.refl _) (a := a0) (argsL := []) (rest := []) (lenOf pd_31_1 rfl) rfl (by show 2 * 0 + _ ≤ _; exact Nat.le_of_eq rfl) (hb hby d31_1) (fun _ _ => ⟨rfl, e0, (by decide : 0 + 0 ≤ _), (by decide : 0 + 0 ≤ _)⟩)
  dsimp only [Pt.U, Pt.locs, Pt.cells, Pt.slots] at X1 l1 y1 z1 st1 hQ1
  subst l1 y1 z1
  obtain ⟨rfl, N1q, O1, Kc1⟩ := hQ1
  have N1 := Fr.app N0 N1q
  have K1 : Keep h0 T1.heap [a0] := K0.trans Kc1 all0
  obtain ⟨_, _, ⟨T2, L2, k2, n2⟩, -, X2, ⟨Lc2, hQ2, l2, y2, z2⟩, st2⟩ := Jvm.LawKit.callS X1 hx (y := (⟨"java/util/Objects", "requireNonNull", "(Ljava/lang/Object;)Ljava/lang/Object;"⟩ : MethodName)) hown (mvT hZ (hw _ (List.mem_of_getElem? (i := 203) rfl))) (mvT hZ (hw _ (List.mem_of_getElem? (i := 204) rfl))) (mvT hZ (hw _ (List.mem_of_getElem? (i := 56) rfl))) (mvT hZ (hw _ (List.mem_of_getElem? (i := 205) rfl))) (by decide) (backOf (W := 1) (rm29 l Z ar0 hw [] a1 w_STRING w_OBJECT w_INT w_MAP w_BIGDECIMAL w_DATE w_LONG w_LIST w_BOOLEAN w_DEFAULTCAPACITY_EMPTY_ELEMENTDATA c_DEFAULTCAPACITY_EMPTY_ELEMENTDATA w_EMPTY_LIST w_EMPTY w_ELEMS c_ELEMS w_MIR  T1.heap n0 O1 F ) hZ (hw _ (List.mem_of_getElem? (i := 205) rfl)) (hw _ (List.mem_of_getElem? (i := 56) rfl)) (by decide) (by decide)) (g := (mkF m 6 #[.val (.ref a0), .val (.ref a1)] [(.ref a1), (.ref a0)])) rfl (by rw [hml]; rfl) (argsL := [(.ref a1)]) (rest := [(.ref a0)]) (lenOf pd_31_6 rfl) rfl (by show 2 * 0 + _ ≤ _; exact Nat.le_of_eq rfl) (hb hby d31_6) (fun _ _ => ⟨rfl, rfl, (by decide : 0 + 0 ≤ _), (by decide : 0 + 0 ≤ _)⟩)
  dsimp only [Pt.U, Pt.locs, Pt.cells, Pt.slots] at X2 l2 y2 z2 st2 hQ2
  subst l2 y2 z2
  obtain ⟨rfl, N2q, O2, Kc2⟩ := hQ2
  have N2 := Fr.app N1 N2q
  have K2 : Keep h0 T2.heap [a0] := K1.trans Kc2 all0
  have E_a0 := ((E_a00.keep Kc1).keep Kc2)
  have F_e0_a0 := ((F_e0_a00.keep Kc1 nin0).keep Kc2 nin0)
  obtain ⟨T3, h3, X3, e3, W3, st3⟩ := putF X2 hx hZ hown (host := "") (Or.inl (hw _ (List.mem_of_getElem? (i := 206) rfl))) Via.refl rfl F_e0_a0 E_a0 (Or.inr ⟨(hw _ (List.mem_of_getElem? (i := 207) rfl)), rfl, hnm⟩) (hw _ (List.mem_of_getElem? (i := 183) rfl)) (ty := (.object "java/lang/Object")) (by decide) rfl rfl (g := (mkF m 9 #[.val (.ref a0), .val (.ref a1)] [(.ref a1), (.ref a0)])) rfl rfl (hb hby d31_9)
  have N3 := Fr.snoc X3 N2 g_a0
  have O3 : Old Z n0 h3 := O2.wr W3 g_a0
  have K3 : Keep h0 h3 [a0] := K2.wr W3 (Or.inl (List.mem_of_getElem? (i := 0) rfl))
  have E_a0 := (E_a0.wr W3)
  have F_e0_a0 := F_e0_a0.same W3
  obtain ⟨T4, X4, e4, st4⟩ := getS2 X3 hx hZ hown (Or.inr (hw _ (List.mem_of_getElem? (i := 221) rfl))) Via.refl e3 (S_EMPTY.ext O3.2) (g := (mkF m 13 #[.val (.ref a0), .val (.ref a1)] [(.ref a0)])) rfl (hb hby d31_13)
  have F_e1_a0 := (((F_e1_a00.keep Kc1 nin0).keep Kc2 nin0).other W3 (Or.inr (slot_ne (Or.inr (hw _ (List.mem_of_getElem? (i := 209) rfl))) (Or.inr (hw _ (List.mem_of_getElem? (i := 207) rfl))) (by decide) (t := (.object "java/lang/Object")) (t' := (.object "java/lang/Object")) (by decide) (by decide))))
  obtain ⟨T5, h5, X5, e5, W5, st5⟩ := putF X4 hx hZ hown (host := "") (Or.inl (hw _ (List.mem_of_getElem? (i := 208) rfl))) Via.refl e4 F_e1_a0 E_a0 (Or.inr ⟨(hw _ (List.mem_of_getElem? (i := 209) rfl)), rfl, hnm⟩) (hw _ (List.mem_of_getElem? (i := 183) rfl)) (ty := (.object "java/lang/Object")) (by decide) rfl rfl (g := (mkF m 16 #[.val (.ref a0), .val (.ref a1)] [(.ref w_EMPTY), (.ref a0)])) rfl rfl (hb hby d31_16)
  have N5 := Fr.snoc X5 N3 g_a0
  have O5 : Old Z n0 h5 := O3.wr W5 g_a0
  have K5 : Keep h0 h5 [a0] := K3.wr W5 (Or.inl (List.mem_of_getElem? (i := 0) rfl))
  have E_a0 := (E_a0.wr W5)
  have F_e0_a0 := (F_e0_a0.other W5 (Or.inr (slot_ne (Or.inr (hw _ (List.mem_of_getElem? (i := 207) rfl))) (Or.inr (hw _ (List.mem_of_getElem? (i := 209) rfl))) (by decide) (t := (.object "java/lang/Object")) (t' := (.object "java/lang/Object")) (by decide) (by decide))))
  have F_e1_a0 := F_e1_a0.same W5
  obtain ⟨fs, hr, hrun, hended, hW, hsame⟩ := X5.leave (v := none) (fun h => rfl)
  refine ⟨_, _, pre0 _ ?_, hrun, hended, _, _, rfl, ?_, ⟨_, rfl⟩, hW, hsame.mono (by decide) (by decide)⟩
  · show Steps p.tables e below (s₁.setTop (mkF m 0 #[.val (.ref a0), .val (.ref a1)] [])) _
    refine XS.aloadN X0.here hx rfl (hb hby d31_0) rfl rfl ?_
    show Steps p.tables e below (s₁.setTop (mkF m 1 #[.val (.ref a0), .val (.ref a1)] [(.ref a0)])) _
    refine st1.trans ?_
    show Steps p.tables e below (T1.setTop (mkF m 4 #[.val (.ref a0), .val (.ref a1)] [])) _
    refine XS.aloadN X1.here hx rfl (hb hby d31_4) rfl rfl ?_
    show Steps p.tables e below (T1.setTop (mkF m 5 #[.val (.ref a0), .val (.ref a1)] [(.ref a0)])) _
    refine XS.aloadN X1.here hx rfl (hb hby d31_5) rfl rfl ?_
    show Steps p.tables e below (T1.setTop (mkF m 6 #[.val (.ref a0), .val (.ref a1)] [(.ref a1), (.ref a0)])) _
    refine st2 _ ?_
    show Steps p.tables e below (T2.setTop (mkF m 9 #[.val (.ref a0), .val (.ref a1)] [(.ref a1), (.ref a0)])) _
    refine st3 _ ?_
    show Steps p.tables e below (T3.setTop (mkF m 12 #[.val (.ref a0), .val (.ref a1)] [])) _
    refine XS.aloadN X3.here hx rfl (hb hby d31_12) rfl rfl ?_
    show Steps p.tables e below (T3.setTop (mkF m 13 #[.val (.ref a0), .val (.ref a1)] [(.ref a0)])) _
    refine st4 _ ?_
    show Steps p.tables e below (T4.setTop (mkF m 16 #[.val (.ref a0), .val (.ref a1)] [(.ref w_EMPTY), (.ref a0)])) _
    refine st5 _ ?_
    show Steps p.tables e below (T5.setTop (mkF m 19 #[.val (.ref a0), .val (.ref a1)] [])) _
    exact X5.returnOut hx Bd.returns (hb hby d31_19) hr
  · show Q31 Z a0 a1 w_STRING w_OBJECT w_INT w_MAP w_BIGDECIMAL w_DATE w_LONG w_LIST w_BOOLEAN w_DEFAULTCAPACITY_EMPTY_ELEMENTDATA c_DEFAULTCAPACITY_EMPTY_ELEMENTDATA w_EMPTY_LIST w_EMPTY w_ELEMS c_ELEMS w_MIR u_e0_a0 u_e1_a0 h0 n0 _ T5.heap _
    rw [e5]
    exact ⟨rfl, N5, O5, K5, F_e0_a0, F_e1_a0⟩

theorem d26_0 : decode jdk_44_method_2_code 0 = .ok (.aload_n 0, 1) := by decide +kernel
theorem d26_1 : decode jdk_44_method_2_code 1 = .ok (.invokespecial 1, 3) := by decide +kernel
theorem d26_4 : decode jdk_44_method_2_code 4 = .ok (.aload_n 0, 1) := by decide +kernel
theorem d26_5 : decode jdk_44_method_2_code 5 = .ok (.aload_n 1, 1) := by decide +kernel
theorem d26_6 : decode jdk_44_method_2_code 6 = .ok (.invokestatic 7, 3) := by decide +kernel
theorem d26_9 : decode jdk_44_method_2_code 9 = .ok (.putfield 13, 3) := by decide +kernel
theorem d26_12 : decode jdk_44_method_2_code 12 = .ok (.aload_n 0, 1) := by decide +kernel
theorem d26_13 : decode jdk_44_method_2_code 13 = .ok (.aload_n 2, 1) := by decide +kernel
theorem d26_14 : decode jdk_44_method_2_code 14 = .ok (.invokestatic 7, 3) := by decide +kernel
theorem d26_17 : decode jdk_44_method_2_code 17 = .ok (.putfield 24, 3) := by decide +kernel
theorem d26_20 : decode jdk_44_method_2_code 20 = .ok (.return_, 1) := by decide +kernel
theorem pn_26 : plainName "java/util/ImmutableCollections$List12" = true := by first | (simp [plainName, overriddenIn]; done) | decide +kernel
theorem pd_26_1 : parseMethodDescriptor "()V" = some ⟨[], none⟩ := by decide +kernel
theorem pd_26_14 : parseMethodDescriptor "(Ljava/lang/Object;)Ljava/lang/Object;" = some ⟨[(.object "java/lang/Object")], some (.object "java/lang/Object")⟩ := by decide +kernel
theorem pd_26_6 : parseMethodDescriptor "(Ljava/lang/Object;)Ljava/lang/Object;" = some ⟨[(.object "java/lang/Object")], some (.object "java/lang/Object")⟩ := by decide +kernel
theorem ef_26 (m : MethodId) (a0 : Addr) (a1 : Addr) (a2 : Addr) : entryFrame m #[(.ref a0), (.ref a1), (.ref a2)] 3 = mkF m 0 #[.val (.ref a0), .val (.ref a1), .val (.ref a2)] [] := by first | (simp [entryFrame, mkF, argsToLocals, Value.category]; done) | rfl
def Q26 (Z : State) (a0 : Addr) (a1 : Addr) (a2 : Addr) (w_STRING : Addr) (w_OBJECT : Addr) (w_INT : Addr) (w_MAP : Addr) (w_BIGDECIMAL : Addr) (w_DATE : Addr) (w_LONG : Addr) (w_LIST : Addr) (w_BOOLEAN : Addr) (w_DEFAULTCAPACITY_EMPTY_ELEMENTDATA : Addr) (c_DEFAULTCAPACITY_EMPTY_ELEMENTDATA : Cell) (w_EMPTY_LIST : Addr) (w_EMPTY : Addr) (w_ELEMS : Addr) (c_ELEMS : Cell) (w_MIR : Addr) (u_e0_a0 : Value) (u_e1_a0 : Value) (h0 : Heap) (n0 : Nat) (v : Option Value) (h : Heap) (L : List Loc) : Prop := v = none ∧ Fr n0 L ∧ Old Z n0 h ∧ Keep h0 h [a0] ∧ (Fld Z h a0 "java/util/ImmutableCollections$List12" "e0" "Ljava/lang/Object;" (.ref a1)) ∧ (Fld Z h a0 "java/util/ImmutableCollections$List12" "e1" "Ljava/lang/Object;" (.ref a2))
set_option maxRecDepth 65536 in
set_option maxHeartbeats 40000000 in
theorem rm26 (l : Launch) (Z : State) (ar0 : Array Value) (hw : ∀ d ∈ tables_1, d.before ar0 Z = true) (ws : List Jvm.Cond) (a0 : Addr) (a1 : Addr) (a2 : Addr) (w_STRING : Addr) (w_OBJECT : Addr) (w_INT : Addr) (w_MAP : Addr) (w_BIGDECIMAL : Addr) (w_DATE : Addr) (w_LONG : Addr) (w_LIST : Addr) (w_BOOLEAN : Addr) (w_DEFAULTCAPACITY_EMPTY_ELEMENTDATA : Addr) (c_DEFAULTCAPACITY_EMPTY_ELEMENTDATA : Cell) (w_EMPTY_LIST : Addr) (w_EMPTY : Addr) (w_ELEMS : Addr) (c_ELEMS : Cell) (w_MIR : Addr) (u_e0_a0 : Value) (u_e1_a0 : Value) (h0 : Heap) (n0 : Nat) (O0 : Old Z n0 h0) (F : Fx Z Z.heap w_STRING w_OBJECT w_INT w_MAP w_BIGDECIMAL w_DATE w_LONG w_LIST w_BOOLEAN w_DEFAULTCAPACITY_EMPTY_ELEMENTDATA c_DEFAULTCAPACITY_EMPTY_ELEMENTDATA w_EMPTY_LIST w_EMPTY w_ELEMS c_ELEMS w_MIR) (E_a00 : Exa Z h0 a0 "java/util/ImmutableCollections$List12") (F_e0_a00 : Fld Z h0 a0 "java/util/ImmutableCollections$List12" "e0" "Ljava/lang/Object;" u_e0_a0) (g_a0 : n0 ≤ a0) (F_e1_a00 : Fld Z h0 a0 "java/util/ImmutableCollections$List12" "e1" "Ljava/lang/Object;" u_e1_a0) :
    MetFree l (⟨"java/util/ImmutableCollections$List12", "<init>", "(Ljava/lang/Object;Ljava/lang/Object;)V"⟩ : MethodName) (head1 ((Jvm.Cond.code (⟨"java/util/ImmutableCollections$List12", "<init>", "(Ljava/lang/Object;Ljava/lang/Object;)V"⟩ : MethodName) jdk_44_method_2_code 3 none) :: ws) ({ frames := 4, cells := 0, slots := 0, locals := 48 } : Room)) (fun a U => a = #[(.ref a0), (.ref a1), (.ref a2)] ∧ Z.Warmed39 U.vm ∧ U.heap = h0) (fun _ _ _ _ _ => True) (fun _ U o U' => ∃ v L, o = .returned v ∧ Q26 Z a0 a1 a2 w_STRING w_OBJECT w_INT w_MAP w_BIGDECIMAL w_DATE w_LONG w_LIST w_BOOLEAN w_DEFAULTCAPACITY_EMPTY_ELEMENTDATA c_DEFAULTCAPACITY_EMPTY_ELEMENTDATA w_EMPTY_LIST w_EMPTY w_ELEMS c_ELEMS w_MIR u_e0_a0 u_e1_a0 h0 n0 v U'.heap L ∧ FrameEnd U o U' L ({ frames := 4, cells := 0, slots := 0, locals := 48 } : Room).cells ({ frames := 4, cells := 0, slots := 0, locals := 48 } : Room).slots) := by
  obtain ⟨S_STRING, E_STRING, S_OBJECT, E_OBJECT, F_ordinal_STRING, F_ordinal_OBJECT, S_INT, E_INT, F_ordinal_INT, S_MAP, E_MAP, S_BIGDECIMAL, E_BIGDECIMAL, S_DATE, E_DATE, S_LONG, E_LONG, F_ordinal_LONG, F_ordinal_BIGDECIMAL, S_LIST, E_LIST, S_BOOLEAN, E_BOOLEAN, F_ordinal_BOOLEAN, F_ordinal_DATE, S_DEFAULTCAPACITY_EMPTY_ELEMENTDATA, E_DEFAULTCAPACITY_EMPTY_ELEMENTDATA, A_DEFAULTCAPACITY_EMPTY_ELEMENTDATA, L_DEFAULTCAPACITY_EMPTY_ELEMENTDATA, S_EMPTY_LIST, E_EMPTY_LIST, S_EMPTY, E_EMPTY, F_elements_EMPTY_LIST, A_ELEMS, L_ELEMS, M_MIR⟩ := id F
  refine MetFree.of_bodySF (plainFor_of_name pn_26) hisR ?_
  intro p e s m args below meth c s₁ Bd hml0 hP hK
  obtain ⟨rfl, hZ, hh⟩ := hP
  have hx := Bd.exec
  have hby := Bd.bytes
  have hml : c.maxLocals = 3 := hml0
  have hown : s.vm.findClass "java/util/ImmutableCollections$List12" = some m.cls := findClass_of_methodNamed Bd.named
  have hnm := (name_of_methodNamed Bd.named Bd.method).1
  have X0 : Stand p l e ({ frames := 4, cells := 0, slots := 0, locals := 48 } : Room) s m #[(.ref a0), (.ref a1), (.ref a2)] below meth c s₁ [] 0 0 := Stand.of_body Bd
  have e0 : s₁.heap = h0 := by rw [← hh, Bd.state]; rfl
  have N0 := Fr.nil n0
  have K0 : Keep h0 h0 [a0] := Keep.refl _ _
  have pre0 : ∀ t, Steps p.tables e below (s₁.setTop (mkF m 0 #[.val (.ref a0), .val (.ref a1), .val (.ref a2)] [])) t → Steps p.tables e below (s₁.setTop (entryFrame m #[(.ref a0), (.ref a1), (.ref a2)] 3)) t := fun t k => castTop (ef_26 m a0 a1 a2) k
  obtain ⟨_, _, ⟨T1, L1, k1, n1⟩, -, X1, ⟨Lc1, hQ1, l1, y1, z1⟩, st1⟩ := X0.specialBack hx (y := (⟨"java/util/ImmutableCollections$AbstractImmutableList", "<init>", "()V"⟩ : MethodName)) rfl hown (mvT hZ (hw _ (List.mem_of_getElem? (i := 189) rfl))) (mvT hZ (hw _ (List.mem_of_getElem? (i := 190) rfl))) (mvT hZ (hw _ (List.mem_of_getElem? (i := 194) rfl))) (by decide) (backOf (W := 0) (rm27 l Z ar0 hw [] a0 w_STRING w_OBJECT w_INT w_MAP w_BIGDECIMAL w_DATE w_LONG w_LIST w_BOOLEAN w_DEFAULTCAPACITY_EMPTY_ELEMENTDATA c_DEFAULTCAPACITY_EMPTY_ELEMENTDATA w_EMPTY_LIST w_EMPTY w_ELEMS c_ELEMS w_MIR  h0 n0 O0 F ) hZ (hw _ (List.mem_of_getElem? (i := 194) rfl)) (hw _ (List.mem_of_getElem? (i := 193) rfl)) (by decide) (by decide)) (g := (mkF m 1 #[.val (.ref a0), .val (.ref a1), .val (.ref a2)] [(.ref a0)])) rfl (by rw [hml]; rfl) (Steps.refl _) (a := a0) (argsL := []) (rest := []) (lenOf pd_26_1 rfl) rfl (by show 2 * 0 + _ ≤ _; exact Nat.le_of_eq rfl) (hb hby d26_1) (fun _ _ => ⟨rfl, e0, (by decide : 0 + 0 ≤ _), (by decide : 0 + 0 ≤ _)⟩)
  dsimp only [Pt.U, Pt.locs, Pt.cells, Pt.slots] at X1 l1 y1 z1 st1 hQ1
  subst l1 y1 z1
  obtain ⟨rfl, N1q, O1, Kc1⟩ := hQ1
  have N1 := Fr.app N0 N1q
  have K1 : Keep h0 T1.heap [a0] := K0.trans Kc1 all0
  obtain ⟨_, _, ⟨T2, L2, k2, n2⟩, -, X2, ⟨Lc2, hQ2, l2, y2, z2⟩, st2⟩ := Jvm.LawKit.callS X1 hx (y := (⟨"java/util/Objects", "requireNonNull", "(Ljava/lang/Object;)Ljava/lang/Object;"⟩ : MethodName)) hown (mvT hZ (hw _ (List.mem_of_getElem? (i := 203) rfl))) (mvT hZ (hw _ (List.mem_of_getElem? (i := 204) rfl))) (mvT hZ (hw _ (List.mem_of_getElem? (i := 56) rfl))) (mvT hZ (hw _ (List.mem_of_getElem? (i := 205) rfl))) (by decide) (backOf (W := 1) (rm29 l Z ar0 hw [] a1 w_STRING w_OBJECT w_INT w_MAP w_BIGDECIMAL w_DATE w_LONG w_LIST w_BOOLEAN w_DEFAULTCAPACITY_EMPTY_ELEMENTDATA c_DEFAULTCAPACITY_EMPTY_ELEMENTDATA w_EMPTY_LIST w_EMPTY w_ELEMS c_ELEMS w_MIR  T1.heap n0 O1 F ) hZ (hw _ (List.mem_of_getElem? (i := 205) rfl)) (hw _ (List.mem_of_getElem? (i := 56) rfl)) (by decide) (by decide)) (g := (mkF m 6 #[.val (.ref a0), .val (.ref a1), .val (.ref a2)] [(.ref a1), (.ref a0)])) rfl (by rw [hml]; rfl) (argsL := [(.ref a1)]) (rest := [(.ref a0)]) (lenOf pd_26_6 rfl) rfl (by show 2 * 0 + _ ≤ _; exact Nat.le_of_eq rfl) (hb hby d26_6) (fun _ _ => ⟨rfl, rfl, (by decide : 0 + 0 ≤ _), (by decide : 0 + 0 ≤ _)⟩)
  dsimp only [Pt.U, Pt.locs, Pt.cells, Pt.slots] at X2 l2 y2 z2 st2 hQ2
  subst l2 y2 z2
  obtain ⟨rfl, N2q, O2, Kc2⟩ := hQ2
  have N2 := Fr.app N1 N2q
  have K2 : Keep h0 T2.heap [a0] := K1.trans Kc2 all0
  have E_a0 := ((E_a00.keep Kc1).keep Kc2)
  have F_e0_a0 := ((F_e0_a00.keep Kc1 nin0).keep Kc2 nin0)
  obtain ⟨T3, h3, X3, e3, W3, st3⟩ := putF X2 hx hZ hown (host := "") (Or.inl (hw _ (List.mem_of_getElem? (i := 206) rfl))) Via.refl rfl F_e0_a0 E_a0 (Or.inr ⟨(hw _ (List.mem_of_getElem? (i := 207) rfl)), rfl, hnm⟩) (hw _ (List.mem_of_getElem? (i := 183) rfl)) (ty := (.object "java/lang/Object")) (by decide) rfl rfl (g := (mkF m 9 #[.val (.ref a0), .val (.ref a1), .val (.ref a2)] [(.ref a1), (.ref a0)])) rfl rfl (hb hby d26_9)
  have N3 := Fr.snoc X3 N2 g_a0
  have O3 : Old Z n0 h3 := O2.wr W3 g_a0
  have K3 : Keep h0 h3 [a0] := K2.wr W3 (Or.inl (List.mem_of_getElem? (i := 0) rfl))
  have E_a0 := (E_a0.wr W3)
  have F_e0_a0 := F_e0_a0.same W3
  obtain ⟨_, _, ⟨T4, L4, k4, n4⟩, -, X4, ⟨Lc4, hQ4, l4, y4, z4⟩, st4⟩ := Jvm.LawKit.callS X3 hx (y := (⟨"java/util/Objects", "requireNonNull", "(Ljava/lang/Object;)Ljava/lang/Object;"⟩ : MethodName)) hown (mvT hZ (hw _ (List.mem_of_getElem? (i := 203) rfl))) (mvT hZ (hw _ (List.mem_of_getElem? (i := 204) rfl))) (mvT hZ (hw _ (List.mem_of_getElem? (i := 56) rfl))) (mvT hZ (hw _ (List.mem_of_getElem? (i := 205) rfl))) (by decide) (backOf (W := 1) (rm29 l Z ar0 hw [] a2 w_STRING w_OBJECT w_INT w_MAP w_BIGDECIMAL w_DATE w_LONG w_LIST w_BOOLEAN w_DEFAULTCAPACITY_EMPTY_ELEMENTDATA c_DEFAULTCAPACITY_EMPTY_ELEMENTDATA w_EMPTY_LIST w_EMPTY w_ELEMS c_ELEMS w_MIR  h3 n0 O3 F ) hZ (hw _ (List.mem_of_getElem? (i := 205) rfl)) (hw _ (List.mem_of_getElem? (i := 56) rfl)) (by decide) (by decide)) (g := (mkF m 14 #[.val (.ref a0), .val (.ref a1), .val (.ref a2)] [(.ref a2), (.ref a0)])) rfl (by rw [hml]; rfl) (argsL := [(.ref a2)]) (rest := [(.ref a0)]) (lenOf pd_26_14 rfl) rfl (by show 2 * 0 + _ ≤ _; exact Nat.le_of_eq rfl) (hb hby d26_14) (fun _ _ => ⟨rfl, e3, (by decide : 0 + 0 ≤ _), (by decide : 0 + 0 ≤ _)⟩)
  dsimp only [Pt.U, Pt.locs, Pt.cells, Pt.slots] at X4 l4 y4 z4 st4 hQ4
  subst l4 y4 z4
  obtain ⟨rfl, N4q, O4, Kc4⟩ := hQ4
  have N4 := Fr.app N3 N4q
  have K4 : Keep h0 T4.heap [a0] := K3.trans Kc4 all0
  have E_a0 := (E_a0.keep Kc4)
  have F_e0_a0 := (F_e0_a0.keep Kc4 nin0)
  have F_e1_a0 := ((((F_e1_a00.keep Kc1 nin0).keep Kc2 nin0).other W3 (Or.inr (slot_ne (Or.inr (hw _ (List.mem_of_getElem? (i := 209) rfl))) (Or.inr (hw _ (List.mem_of_getElem? (i := 207) rfl))) (by decide) (t := (.object "java/lang/Object")) (t' := (.object "java/lang/Object")) (by decide) (by decide)))).keep Kc4 nin0)
  obtain ⟨T5, h5, X5, e5, W5, st5⟩ := putF X4 hx hZ hown (host := "") (Or.inl (hw _ (List.mem_of_getElem? (i := 208) rfl))) Via.refl rfl F_e1_a0 E_a0 (Or.inr ⟨(hw _ (List.mem_of_getElem? (i := 209) rfl)), rfl, hnm⟩) (hw _ (List.mem_of_getElem? (i := 183) rfl)) (ty := (.object "java/lang/Object")) (by decide) rfl rfl (g := (mkF m 17 #[.val (.ref a0), .val (.ref a1), .val (.ref a2)] [(.ref a2), (.ref a0)])) rfl rfl (hb hby d26_17)
  have N5 := Fr.snoc X5 N4 g_a0
  have O5 : Old Z n0 h5 := O4.wr W5 g_a0
  have K5 : Keep h0 h5 [a0] := K4.wr W5 (Or.inl (List.mem_of_getElem? (i := 0) rfl))
  have E_a0 := (E_a0.wr W5)
  have F_e0_a0 := (F_e0_a0.other W5 (Or.inr (slot_ne (Or.inr (hw _ (List.mem_of_getElem? (i := 207) rfl))) (Or.inr (hw _ (List.mem_of_getElem? (i := 209) rfl))) (by decide) (t := (.object "java/lang/Object")) (t' := (.object "java/lang/Object")) (by decide) (by decide))))
  have F_e1_a0 := F_e1_a0.same W5
  obtain ⟨fs, hr, hrun, hended, hW, hsame⟩ := X5.leave (v := none) (fun h => rfl)
  refine ⟨_, _, pre0 _ ?_, hrun, hended, _, _, rfl, ?_, ⟨_, rfl⟩, hW, hsame.mono (by decide) (by decide)⟩
  · show Steps p.tables e below (s₁.setTop (mkF m 0 #[.val (.ref a0), .val (.ref a1), .val (.ref a2)] [])) _
    refine XS.aloadN X0.here hx rfl (hb hby d26_0) rfl rfl ?_
    show Steps p.tables e below (s₁.setTop (mkF m 1 #[.val (.ref a0), .val (.ref a1), .val (.ref a2)] [(.ref a0)])) _
    refine st1.trans ?_
    show Steps p.tables e below (T1.setTop (mkF m 4 #[.val (.ref a0), .val (.ref a1), .val (.ref a2)] [])) _
    refine XS.aloadN X1.here hx rfl (hb hby d26_4) rfl rfl ?_
    show Steps p.tables e below (T1.setTop (mkF m 5 #[.val (.ref a0), .val (.ref a1), .val (.ref a2)] [(.ref a0)])) _
    refine XS.aloadN X1.here hx rfl (hb hby d26_5) rfl rfl ?_
    show Steps p.tables e below (T1.setTop (mkF m 6 #[.val (.ref a0), .val (.ref a1), .val (.ref a2)] [(.ref a1), (.ref a0)])) _
    refine st2 _ ?_
    show Steps p.tables e below (T2.setTop (mkF m 9 #[.val (.ref a0), .val (.ref a1), .val (.ref a2)] [(.ref a1), (.ref a0)])) _
    refine st3 _ ?_
    show Steps p.tables e below (T3.setTop (mkF m 12 #[.val (.ref a0), .val (.ref a1), .val (.ref a2)] [])) _
    refine XS.aloadN X3.here hx rfl (hb hby d26_12) rfl rfl ?_
    show Steps p.tables e below (T3.setTop (mkF m 13 #[.val (.ref a0), .val (.ref a1), .val (.ref a2)] [(.ref a0)])) _
    refine XS.aloadN X3.here hx rfl (hb hby d26_13) rfl rfl ?_
    show Steps p.tables e below (T3.setTop (mkF m 14 #[.val (.ref a0), .val (.ref a1), .val (.ref a2)] [(.ref a2), (.ref a0)])) _
    refine st4 _ ?_
    show Steps p.tables e below (T4.setTop (mkF m 17 #[.val (.ref a0), .val (.ref a1), .val (.ref a2)] [(.ref a2), (.ref a0)])) _
    refine st5 _ ?_
    show Steps p.tables e below (T5.setTop (mkF m 20 #[.val (.ref a0), .val (.ref a1), .val (.ref a2)] [])) _
    exact X5.returnOut hx Bd.returns (hb hby d26_20) hr
  · show Q26 Z a0 a1 a2 w_STRING w_OBJECT w_INT w_MAP w_BIGDECIMAL w_DATE w_LONG w_LIST w_BOOLEAN w_DEFAULTCAPACITY_EMPTY_ELEMENTDATA c_DEFAULTCAPACITY_EMPTY_ELEMENTDATA w_EMPTY_LIST w_EMPTY w_ELEMS c_ELEMS w_MIR u_e0_a0 u_e1_a0 h0 n0 _ T5.heap _
    rw [e5]
    exact ⟨rfl, N5, O5, K5, F_e0_a0, F_e1_a0⟩

theorem d12_0 : decode jdk_40_method_36_code 0 = .ok (.getstatic 90, 3) := by decide +kernel
theorem d12_3 : decode jdk_40_method_36_code 3 = .ok (.areturn, 1) := by decide +kernel
theorem pn_12 : plainName "java/util/List" = true := by first | (simp [plainName, overriddenIn]; done) | decide +kernel
theorem ef_12 (m : MethodId)  : entryFrame m #[] 0 = mkF m 0 #[] [] := by first | (simp [entryFrame, mkF, argsToLocals, Value.category]; done) | rfl
def Q12 (Z : State)  (w_STRING : Addr) (w_OBJECT : Addr) (w_INT : Addr) (w_MAP : Addr) (w_BIGDECIMAL : Addr) (w_DATE : Addr) (w_LONG : Addr) (w_LIST : Addr) (w_BOOLEAN : Addr) (w_DEFAULTCAPACITY_EMPTY_ELEMENTDATA : Addr) (c_DEFAULTCAPACITY_EMPTY_ELEMENTDATA : Cell) (w_EMPTY_LIST : Addr) (w_EMPTY : Addr) (w_ELEMS : Addr) (c_ELEMS : Cell) (w_MIR : Addr)  (h0 : Heap) (n0 : Nat) (v : Option Value) (h : Heap) (L : List Loc) : Prop := v = some (.ref w_EMPTY_LIST) ∧ Fr n0 L ∧ Old Z n0 h ∧ Keep h0 h []
set_option maxRecDepth 65536 in
set_option maxHeartbeats 40000000 in
theorem rm12 (l : Launch) (Z : State) (ar0 : Array Value) (hw : ∀ d ∈ tables_1, d.before ar0 Z = true) (ws : List Jvm.Cond)  (w_STRING : Addr) (w_OBJECT : Addr) (w_INT : Addr) (w_MAP : Addr) (w_BIGDECIMAL : Addr) (w_DATE : Addr) (w_LONG : Addr) (w_LIST : Addr) (w_BOOLEAN : Addr) (w_DEFAULTCAPACITY_EMPTY_ELEMENTDATA : Addr) (c_DEFAULTCAPACITY_EMPTY_ELEMENTDATA : Cell) (w_EMPTY_LIST : Addr) (w_EMPTY : Addr) (w_ELEMS : Addr) (c_ELEMS : Cell) (w_MIR : Addr)  (h0 : Heap) (n0 : Nat) (O0 : Old Z n0 h0) (F : Fx Z Z.heap w_STRING w_OBJECT w_INT w_MAP w_BIGDECIMAL w_DATE w_LONG w_LIST w_BOOLEAN w_DEFAULTCAPACITY_EMPTY_ELEMENTDATA c_DEFAULTCAPACITY_EMPTY_ELEMENTDATA w_EMPTY_LIST w_EMPTY w_ELEMS c_ELEMS w_MIR)  :
    MetFree l (⟨"java/util/List", "of", "()Ljava/util/List;"⟩ : MethodName) (head1 ((Jvm.Cond.code (⟨"java/util/List", "of", "()Ljava/util/List;"⟩ : MethodName) jdk_40_method_36_code 0 (some (.object "java/util/List"))) :: ws) ({ frames := 0, cells := 0, slots := 0, locals := 0 } : Room)) (fun a U => a = #[] ∧ Z.Warmed39 U.vm ∧ U.heap = h0) (fun _ _ _ _ _ => True) (fun _ U o U' => ∃ v L, o = .returned v ∧ Q12 Z  w_STRING w_OBJECT w_INT w_MAP w_BIGDECIMAL w_DATE w_LONG w_LIST w_BOOLEAN w_DEFAULTCAPACITY_EMPTY_ELEMENTDATA c_DEFAULTCAPACITY_EMPTY_ELEMENTDATA w_EMPTY_LIST w_EMPTY w_ELEMS c_ELEMS w_MIR  h0 n0 v U'.heap L ∧ FrameEnd U o U' L ({ frames := 0, cells := 0, slots := 0, locals := 0 } : Room).cells ({ frames := 0, cells := 0, slots := 0, locals := 0 } : Room).slots) := by
  obtain ⟨S_STRING, E_STRING, S_OBJECT, E_OBJECT, F_ordinal_STRING, F_ordinal_OBJECT, S_INT, E_INT, F_ordinal_INT, S_MAP, E_MAP, S_BIGDECIMAL, E_BIGDECIMAL, S_DATE, E_DATE, S_LONG, E_LONG, F_ordinal_LONG, F_ordinal_BIGDECIMAL, S_LIST, E_LIST, S_BOOLEAN, E_BOOLEAN, F_ordinal_BOOLEAN, F_ordinal_DATE, S_DEFAULTCAPACITY_EMPTY_ELEMENTDATA, E_DEFAULTCAPACITY_EMPTY_ELEMENTDATA, A_DEFAULTCAPACITY_EMPTY_ELEMENTDATA, L_DEFAULTCAPACITY_EMPTY_ELEMENTDATA, S_EMPTY_LIST, E_EMPTY_LIST, S_EMPTY, E_EMPTY, F_elements_EMPTY_LIST, A_ELEMS, L_ELEMS, M_MIR⟩ := id F
  refine MetFree.of_bodySF (plainFor_of_name pn_12) hisR ?_
  intro p e s m args below meth c s₁ Bd hml0 hP hK
  obtain ⟨rfl, hZ, hh⟩ := hP
  have hx := Bd.exec
  have hby := Bd.bytes
  have hml : c.maxLocals = 0 := hml0
  have hown : s.vm.findClass "java/util/List" = some m.cls := findClass_of_methodNamed Bd.named
  have hnm := (name_of_methodNamed Bd.named Bd.method).1
  have X0 : Stand p l e ({ frames := 0, cells := 0, slots := 0, locals := 0 } : Room) s m #[] below meth c s₁ [] 0 0 := Stand.of_body Bd
  have e0 : s₁.heap = h0 := by rw [← hh, Bd.state]; rfl
  have N0 := Fr.nil n0
  have K0 : Keep h0 h0 [] := Keep.refl _ _
  have pre0 : ∀ t, Steps p.tables e below (s₁.setTop (mkF m 0 #[] [])) t → Steps p.tables e below (s₁.setTop (entryFrame m #[] 0)) t := fun t k => castTop (ef_12 m ) k
  obtain ⟨T1, X1, e1, st1⟩ := getS2 X0 hx hZ hown (host := "") (Or.inl (hw _ (List.mem_of_getElem? (i := 86) rfl))) Via.refl e0 (S_EMPTY_LIST.ext O0.2) (g := (mkF m 0 #[] [])) rfl (hb hby d12_0)
  obtain ⟨fs, hr, hrun, hended, hW, hsame⟩ := X1.leave (v := some (.ref w_EMPTY_LIST)) (fun h => by rw [Bd.returns] at h; cases h)
  refine ⟨_, _, pre0 _ ?_, hrun, hended, _, _, rfl, ?_, ⟨_, rfl⟩, hW, hsame.mono (by decide) (by decide)⟩
  · show Steps p.tables e below (s₁.setTop (mkF m 0 #[] [])) _
    refine st1 _ ?_
    show Steps p.tables e below (T1.setTop (mkF m 3 #[] [(.ref w_EMPTY_LIST)])) _
    exact retOut X1 hx Bd.returns rfl (Or.inr (Or.inr (Or.inr (Or.inr ⟨rfl, rfl, rfl⟩)))) (hb hby d12_3) hr
  · show Q12 Z  w_STRING w_OBJECT w_INT w_MAP w_BIGDECIMAL w_DATE w_LONG w_LIST w_BOOLEAN w_DEFAULTCAPACITY_EMPTY_ELEMENTDATA c_DEFAULTCAPACITY_EMPTY_ELEMENTDATA w_EMPTY_LIST w_EMPTY w_ELEMS c_ELEMS w_MIR  h0 n0 _ T1.heap _
    rw [e1]
    exact ⟨rfl, N0, O0, K0⟩

theorem d11n_0 : decode jdk_38_method_9_code 0 = .ok (.aload_n 0, 1) := by decide +kernel
theorem d11n_1 : decode jdk_38_method_9_code 1 = .ok (.getfield 48, 3) := by decide +kernel
theorem d11n_4 : decode jdk_38_method_9_code 4 = .ok (.ifCond .ne 7, 3) := by decide +kernel
theorem d11n_11 : decode jdk_38_method_9_code 11 = .ok (.iconst 0, 1) := by decide +kernel
theorem d11n_12 : decode jdk_38_method_9_code 12 = .ok (.ireturn, 1) := by decide +kernel
theorem pn_11n : plainName "java/util/ArrayList" = true := by first | (simp [plainName, overriddenIn]; done) | decide +kernel
theorem ef_11n (m : MethodId) (a0 : Addr) : entryFrame m #[(.ref a0)] 1 = mkF m 0 #[.val (.ref a0)] [] := by first | (simp [entryFrame, mkF, argsToLocals, Value.category]; done) | rfl
def Q11n (Z : State) (a0 : Addr) (w_STRING : Addr) (w_OBJECT : Addr) (w_INT : Addr) (w_MAP : Addr) (w_BIGDECIMAL : Addr) (w_DATE : Addr) (w_LONG : Addr) (w_LIST : Addr) (w_BOOLEAN : Addr) (w_DEFAULTCAPACITY_EMPTY_ELEMENTDATA : Addr) (c_DEFAULTCAPACITY_EMPTY_ELEMENTDATA : Cell) (w_EMPTY_LIST : Addr) (w_EMPTY : Addr) (w_ELEMS : Addr) (c_ELEMS : Cell) (w_MIR : Addr) (x_size_a0 : Int32) (h0 : Heap) (n0 : Nat) (v : Option Value) (h : Heap) (L : List Loc) : Prop := v = some (.int (0 : Int32)) ∧ Fr n0 L ∧ Old Z n0 h ∧ Keep h0 h []
set_option maxRecDepth 65536 in
set_option maxHeartbeats 40000000 in
theorem rm11n (l : Launch) (Z : State) (ar0 : Array Value) (hw : ∀ d ∈ tables_1, d.before ar0 Z = true) (ws : List Jvm.Cond) (a0 : Addr) (w_STRING : Addr) (w_OBJECT : Addr) (w_INT : Addr) (w_MAP : Addr) (w_BIGDECIMAL : Addr) (w_DATE : Addr) (w_LONG : Addr) (w_LIST : Addr) (w_BOOLEAN : Addr) (w_DEFAULTCAPACITY_EMPTY_ELEMENTDATA : Addr) (c_DEFAULTCAPACITY_EMPTY_ELEMENTDATA : Cell) (w_EMPTY_LIST : Addr) (w_EMPTY : Addr) (w_ELEMS : Addr) (c_ELEMS : Cell) (w_MIR : Addr) (x_size_a0 : Int32) (h0 : Heap) (n0 : Nat) (O0 : Old Z n0 h0) (F : Fx Z Z.heap w_STRING w_OBJECT w_INT w_MAP w_BIGDECIMAL w_DATE w_LONG w_LIST w_BOOLEAN w_DEFAULTCAPACITY_EMPTY_ELEMENTDATA c_DEFAULTCAPACITY_EMPTY_ELEMENTDATA w_EMPTY_LIST w_EMPTY w_ELEMS c_ELEMS w_MIR) (F_size_a00 : Fld Z h0 a0 "java/util/ArrayList" "size" "I" (.int x_size_a0)) (hc_4 : ¬ (x_size_a0 = (0 : Int32))) :
    MetFree l (⟨"java/util/ArrayList", "isEmpty", "()Z"⟩ : MethodName) (head1 ((Jvm.Cond.code (⟨"java/util/ArrayList", "isEmpty", "()Z"⟩ : MethodName) jdk_38_method_9_code 1 (some .boolean)) :: ws) ({ frames := 0, cells := 0, slots := 0, locals := 0 } : Room)) (fun a U => a = #[(.ref a0)] ∧ Z.Warmed39 U.vm ∧ U.heap = h0) (fun _ _ _ _ _ => True) (fun _ U o U' => ∃ v L, o = .returned v ∧ Q11n Z a0 w_STRING w_OBJECT w_INT w_MAP w_BIGDECIMAL w_DATE w_LONG w_LIST w_BOOLEAN w_DEFAULTCAPACITY_EMPTY_ELEMENTDATA c_DEFAULTCAPACITY_EMPTY_ELEMENTDATA w_EMPTY_LIST w_EMPTY w_ELEMS c_ELEMS w_MIR x_size_a0 h0 n0 v U'.heap L ∧ FrameEnd U o U' L ({ frames := 0, cells := 0, slots := 0, locals := 0 } : Room).cells ({ frames := 0, cells := 0, slots := 0, locals := 0 } : Room).slots) := by
  obtain ⟨S_STRING, E_STRING, S_OBJECT, E_OBJECT, F_ordinal_STRING, F_ordinal_OBJECT, S_INT, E_INT, F_ordinal_INT, S_MAP, E_MAP, S_BIGDECIMAL, E_BIGDECIMAL, S_DATE, E_DATE, S_LONG, E_LONG, F_ordinal_LONG, F_ordinal_BIGDECIMAL, S_LIST, E_LIST, S_BOOLEAN, E_BOOLEAN, F_ordinal_BOOLEAN, F_ordinal_DATE, S_DEFAULTCAPACITY_EMPTY_ELEMENTDATA, E_DEFAULTCAPACITY_EMPTY_ELEMENTDATA, A_DEFAULTCAPACITY_EMPTY_ELEMENTDATA, L_DEFAULTCAPACITY_EMPTY_ELEMENTDATA, S_EMPTY_LIST, E_EMPTY_LIST, S_EMPTY, E_EMPTY, F_elements_EMPTY_LIST, A_ELEMS, L_ELEMS, M_MIR⟩ := id F
  refine MetFree.of_bodySF (plainFor_of_name pn_11n) hisR ?_
  intro p e s m args below meth c s₁ Bd hml0 hP hK
  obtain ⟨rfl, hZ, hh⟩ := hP
  have hx := Bd.exec
  have hby := Bd.bytes
  have hml : c.maxLocals = 1 := hml0
  have hown : s.vm.findClass "java/util/ArrayList" = some m.cls := findClass_of_methodNamed Bd.named
  have hnm := (name_of_methodNamed Bd.named Bd.method).1
  have X0 : Stand p l e ({ frames := 0, cells := 0, slots := 0, locals := 0 } : Room) s m #[(.ref a0)] below meth c s₁ [] 0 0 := Stand.of_body Bd
  have e0 : s₁.heap = h0 := by rw [← hh, Bd.state]; rfl
  have N0 := Fr.nil n0
  have K0 : Keep h0 h0 [] := Keep.refl _ _
  have pre0 : ∀ t, Steps p.tables e below (s₁.setTop (mkF m 0 #[.val (.ref a0)] [])) t → Steps p.tables e below (s₁.setTop (entryFrame m #[(.ref a0)] 1)) t := fun t k => castTop (ef_11n m a0) k
  have F_size_a0 := F_size_a00
  obtain ⟨T1, X1, e1, st1⟩ := getF X0 hx hZ hown (host := "") (Or.inl (hw _ (List.mem_of_getElem? (i := 81) rfl))) Via.refl e0 F_size_a0 (g := (mkF m 1 #[.val (.ref a0)] [(.ref a0)])) rfl rfl (hb hby d11n_1)
  obtain ⟨fs, hr, hrun, hended, hW, hsame⟩ := X1.leave (v := some (.int (0 : Int32))) (fun h => by rw [Bd.returns] at h; cases h)
  refine ⟨_, _, pre0 _ ?_, hrun, hended, _, _, rfl, ?_, ⟨_, rfl⟩, hW, hsame.mono (by decide) (by decide)⟩
  · show Steps p.tables e below (s₁.setTop (mkF m 0 #[.val (.ref a0)] [])) _
    refine XS.aloadN X0.here hx rfl (hb hby d11n_0) rfl rfl ?_
    show Steps p.tables e below (s₁.setTop (mkF m 1 #[.val (.ref a0)] [(.ref a0)])) _
    refine st1 _ ?_
    show Steps p.tables e below (T1.setTop (mkF m 4 #[.val (.ref a0)] [(.int x_size_a0)])) _
    refine XS.ifYes X1.here hx rfl (pc0 := 4) (pc' := 11) rfl (hb hby d11n_4) rfl ((if0 _ _).trans (feq hc_4).2) (by decide) (by decide) ?_
    show Steps p.tables e below (T1.setTop (mkF m 11 #[.val (.ref a0)] [])) _
    refine XS.iconst X1.here hx rfl (hb hby d11n_11) ?_
    show Steps p.tables e below (T1.setTop (mkF m 12 #[.val (.ref a0)] [(.int (0 : Int32))])) _
    exact retN X1 hx (t := .boolean) Bd.returns (by simp) (hb hby d11n_12) hr
  · show Q11n Z a0 w_STRING w_OBJECT w_INT w_MAP w_BIGDECIMAL w_DATE w_LONG w_LIST w_BOOLEAN w_DEFAULTCAPACITY_EMPTY_ELEMENTDATA c_DEFAULTCAPACITY_EMPTY_ELEMENTDATA w_EMPTY_LIST w_EMPTY w_ELEMS c_ELEMS w_MIR x_size_a0 h0 n0 _ T1.heap _
    rw [e1]
    exact ⟨rfl, N0, O0, K0⟩

theorem d11z_0 : decode jdk_38_method_9_code 0 = .ok (.aload_n 0, 1) := by decide +kernel
theorem d11z_1 : decode jdk_38_method_9_code 1 = .ok (.getfield 48, 3) := by decide +kernel
theorem d11z_4 : decode jdk_38_method_9_code 4 = .ok (.ifCond .ne 7, 3) := by decide +kernel
theorem d11z_7 : decode jdk_38_method_9_code 7 = .ok (.iconst 1, 1) := by decide +kernel
theorem d11z_8 : decode jdk_38_method_9_code 8 = .ok (.goto 4, 3) := by decide +kernel
theorem d11z_12 : decode jdk_38_method_9_code 12 = .ok (.ireturn, 1) := by decide +kernel
theorem pn_11z : plainName "java/util/ArrayList" = true := by first | (simp [plainName, overriddenIn]; done) | decide +kernel
theorem ef_11z (m : MethodId) (a0 : Addr) : entryFrame m #[(.ref a0)] 1 = mkF m 0 #[.val (.ref a0)] [] := by first | (simp [entryFrame, mkF, argsToLocals, Value.category]; done) | rfl
def Q11z (Z : State) (a0 : Addr) (w_STRING : Addr) (w_OBJECT : Addr) (w_INT : Addr) (w_MAP : Addr) (w_BIGDECIMAL : Addr) (w_DATE : Addr) (w_LONG : Addr) (w_LIST : Addr) (w_BOOLEAN : Addr) (w_DEFAULTCAPACITY_EMPTY_ELEMENTDATA : Addr) (c_DEFAULTCAPACITY_EMPTY_ELEMENTDATA : Cell) (w_EMPTY_LIST : Addr) (w_EMPTY : Addr) (w_ELEMS : Addr) (c_ELEMS : Cell) (w_MIR : Addr) (x_size_a0 : Int32) (h0 : Heap) (n0 : Nat) (v : Option Value) (h : Heap) (L : List Loc) : Prop := v = some (.int (1 : Int32)) ∧ Fr n0 L ∧ Old Z n0 h ∧ Keep h0 h []
set_option maxRecDepth 65536 in
set_option maxHeartbeats 40000000 in
theorem rm11z (l : Launch) (Z : State) (ar0 : Array Value) (hw : ∀ d ∈ tables_1, d.before ar0 Z = true) (ws : List Jvm.Cond) (a0 : Addr) (w_STRING : Addr) (w_OBJECT : Addr) (w_INT : Addr) (w_MAP : Addr) (w_BIGDECIMAL : Addr) (w_DATE : Addr) (w_LONG : Addr) (w_LIST : Addr) (w_BOOLEAN : Addr) (w_DEFAULTCAPACITY_EMPTY_ELEMENTDATA : Addr) (c_DEFAULTCAPACITY_EMPTY_ELEMENTDATA : Cell) (w_EMPTY_LIST : Addr) (w_EMPTY : Addr) (w_ELEMS : Addr) (c_ELEMS : Cell) (w_MIR : Addr) (x_size_a0 : Int32) (h0 : Heap) (n0 : Nat) (O0 : Old Z n0 h0) (F : Fx Z Z.heap w_STRING w_OBJECT w_INT w_MAP w_BIGDECIMAL w_DATE w_LONG w_LIST w_BOOLEAN w_DEFAULTCAPACITY_EMPTY_ELEMENTDATA c_DEFAULTCAPACITY_EMPTY_ELEMENTDATA w_EMPTY_LIST w_EMPTY w_ELEMS c_ELEMS w_MIR) (F_size_a00 : Fld Z h0 a0 "java/util/ArrayList" "size" "I" (.int x_size_a0)) (hc_4 : x_size_a0 = (0 : Int32)) :
    MetFree l (⟨"java/util/ArrayList", "isEmpty", "()Z"⟩ : MethodName) (head1 ((Jvm.Cond.code (⟨"java/util/ArrayList", "isEmpty", "()Z"⟩ : MethodName) jdk_38_method_9_code 1 (some .boolean)) :: ws) ({ frames := 0, cells := 0, slots := 0, locals := 0 } : Room)) (fun a U => a = #[(.ref a0)] ∧ Z.Warmed39 U.vm ∧ U.heap = h0) (fun _ _ _ _ _ => True) (fun _ U o U' => ∃ v L, o = .returned v ∧ Q11z Z a0 w_STRING w_OBJECT w_INT w_MAP w_BIGDECIMAL w_DATE w_LONG w_LIST w_BOOLEAN w_DEFAULTCAPACITY_EMPTY_ELEMENTDATA c_DEFAULTCAPACITY_EMPTY_ELEMENTDATA w_EMPTY_LIST w_EMPTY w_ELEMS c_ELEMS w_MIR x_size_a0 h0 n0 v U'.heap L ∧ FrameEnd U o U' L ({ frames := 0, cells := 0, slots := 0, locals := 0 } : Room).cells ({ frames := 0, cells := 0, slots := 0, locals := 0 } : Room).slots) := by
  obtain ⟨S_STRING, E_STRING, S_OBJECT, E_OBJECT, F_ordinal_STRING, F_ordinal_OBJECT, S_INT, E_INT, F_ordinal_INT, S_MAP, E_MAP, S_BIGDECIMAL, E_BIGDECIMAL, S_DATE, E_DATE, S_LONG, E_LONG, F_ordinal_LONG, F_ordinal_BIGDECIMAL, S_LIST, E_LIST, S_BOOLEAN, E_BOOLEAN, F_ordinal_BOOLEAN, F_ordinal_DATE, S_DEFAULTCAPACITY_EMPTY_ELEMENTDATA, E_DEFAULTCAPACITY_EMPTY_ELEMENTDATA, A_DEFAULTCAPACITY_EMPTY_ELEMENTDATA, L_DEFAULTCAPACITY_EMPTY_ELEMENTDATA, S_EMPTY_LIST, E_EMPTY_LIST, S_EMPTY, E_EMPTY, F_elements_EMPTY_LIST, A_ELEMS, L_ELEMS, M_MIR⟩ := id F
  refine MetFree.of_bodySF (plainFor_of_name pn_11z) hisR ?_
  intro p e s m args below meth c s₁ Bd hml0 hP hK
  obtain ⟨rfl, hZ, hh⟩ := hP
  have hx := Bd.exec
  have hby := Bd.bytes
  have hml : c.maxLocals = 1 := hml0
  have hown : s.vm.findClass "java/util/ArrayList" = some m.cls := findClass_of_methodNamed Bd.named
  have hnm := (name_of_methodNamed Bd.named Bd.method).1
  have X0 : Stand p l e ({ frames := 0, cells := 0, slots := 0, locals := 0 } : Room) s m #[(.ref a0)] below meth c s₁ [] 0 0 := Stand.of_body Bd
  have e0 : s₁.heap = h0 := by rw [← hh, Bd.state]; rfl
  have N0 := Fr.nil n0
  have K0 : Keep h0 h0 [] := Keep.refl _ _
  have pre0 : ∀ t, Steps p.tables e below (s₁.setTop (mkF m 0 #[.val (.ref a0)] [])) t → Steps p.tables e below (s₁.setTop (entryFrame m #[(.ref a0)] 1)) t := fun t k => castTop (ef_11z m a0) k
  have F_size_a0 := F_size_a00
  obtain ⟨T1, X1, e1, st1⟩ := getF X0 hx hZ hown (host := "") (Or.inl (hw _ (List.mem_of_getElem? (i := 81) rfl))) Via.refl e0 F_size_a0 (g := (mkF m 1 #[.val (.ref a0)] [(.ref a0)])) rfl rfl (hb hby d11z_1)
  obtain ⟨fs, hr, hrun, hended, hW, hsame⟩ := X1.leave (v := some (.int (1 : Int32))) (fun h => by rw [Bd.returns] at h; cases h)
  refine ⟨_, _, pre0 _ ?_, hrun, hended, _, _, rfl, ?_, ⟨_, rfl⟩, hW, hsame.mono (by decide) (by decide)⟩
  · show Steps p.tables e below (s₁.setTop (mkF m 0 #[.val (.ref a0)] [])) _
    refine XS.aloadN X0.here hx rfl (hb hby d11z_0) rfl rfl ?_
    show Steps p.tables e below (s₁.setTop (mkF m 1 #[.val (.ref a0)] [(.ref a0)])) _
    refine st1 _ ?_
    show Steps p.tables e below (T1.setTop (mkF m 4 #[.val (.ref a0)] [(.int x_size_a0)])) _
    refine XS.ifNo X1.here hx rfl (hb hby d11z_4) rfl ((if0 _ _).trans (teq hc_4).2) ?_
    show Steps p.tables e below (T1.setTop (mkF m 7 #[.val (.ref a0)] [])) _
    refine XS.iconst X1.here hx rfl (hb hby d11z_7) ?_
    show Steps p.tables e below (T1.setTop (mkF m 8 #[.val (.ref a0)] [(.int (1 : Int32))])) _
    refine XS.goto X1.here hx rfl (pc0 := 8) (pc' := 12) rfl (hb hby d11z_8) (by decide) (by decide) ?_
    show Steps p.tables e below (T1.setTop (mkF m 12 #[.val (.ref a0)] [(.int (1 : Int32))])) _
    exact retN X1 hx (t := .boolean) Bd.returns (by simp) (hb hby d11z_12) hr
  · show Q11z Z a0 w_STRING w_OBJECT w_INT w_MAP w_BIGDECIMAL w_DATE w_LONG w_LIST w_BOOLEAN w_DEFAULTCAPACITY_EMPTY_ELEMENTDATA c_DEFAULTCAPACITY_EMPTY_ELEMENTDATA w_EMPTY_LIST w_EMPTY w_ELEMS c_ELEMS w_MIR x_size_a0 h0 n0 _ T1.heap _
    rw [e1]
    exact ⟨rfl, N0, O0, K0⟩

theorem d10_0_0 : decode jdk_56_method_3_code 0 = .ok (.aload_n 0, 1) := by decide +kernel
theorem d10_0_1 : decode jdk_56_method_3_code 1 = .ok (.instanceof 10, 3) := by decide +kernel
theorem d10_0_4 : decode jdk_56_method_3_code 4 = .ok (.ifCond .ne 22, 3) := by decide +kernel
theorem d10_0_7 : decode jdk_56_method_3_code 7 = .ok (.aload_n 0, 1) := by decide +kernel
theorem d10_0_8 : decode jdk_56_method_3_code 8 = .ok (.instanceof 12, 3) := by decide +kernel
theorem d10_0_11 : decode jdk_56_method_3_code 11 = .ok (.ifCond .eq 20, 3) := by decide +kernel
theorem d10_0_31 : decode jdk_56_method_3_code 31 = .ok (.aload_n 0, 1) := by decide +kernel
theorem d10_0_32 : decode jdk_56_method_3_code 32 = .ok (.invokeinterface 20 1, 5) := by decide +kernel
theorem d10_0_37 : decode jdk_56_method_3_code 37 = .ok (.ifCond .eq 7, 3) := by decide +kernel
theorem d10_0_40 : decode jdk_56_method_3_code 40 = .ok (.invokestatic 26, 3) := by decide +kernel
theorem d10_0_43 : decode jdk_56_method_3_code 43 = .ok (.areturn, 1) := by decide +kernel
theorem pn_10_0 : plainName "java/util/ImmutableCollections" = true := by first | (simp [plainName, overriddenIn]; done) | decide +kernel
theorem pd_10_0_32 : parseMethodDescriptor "()Z" = some ⟨[], some .boolean⟩ := by decide +kernel
theorem pd_10_0_40 : parseMethodDescriptor "()Ljava/util/List;" = some ⟨[], some (.object "java/util/List")⟩ := by decide +kernel
theorem ef_10_0 (m : MethodId) (a0 : Addr) : entryFrame m #[(.ref a0)] 2 = mkF m 0 #[.val (.ref a0), .unset] [] := by first | (simp [entryFrame, mkF, argsToLocals, Value.category]; done) | rfl
def Q10_0 (Z : State) (a0 : Addr) (w_STRING : Addr) (w_OBJECT : Addr) (w_INT : Addr) (w_MAP : Addr) (w_BIGDECIMAL : Addr) (w_DATE : Addr) (w_LONG : Addr) (w_LIST : Addr) (w_BOOLEAN : Addr) (w_DEFAULTCAPACITY_EMPTY_ELEMENTDATA : Addr) (c_DEFAULTCAPACITY_EMPTY_ELEMENTDATA : Cell) (w_EMPTY_LIST : Addr) (w_EMPTY : Addr) (w_ELEMS : Addr) (c_ELEMS : Cell) (w_MIR : Addr) (u_modCount_a0 : Value) (h0 : Heap) (n0 : Nat) (v : Option Value) (h : Heap) (L : List Loc) : Prop := v = some (.ref w_EMPTY_LIST) ∧ Fr n0 L ∧ Old Z n0 h ∧ Keep h0 h []
set_option maxRecDepth 65536 in
set_option maxHeartbeats 40000000 in
theorem rm10_0 (l : Launch) (Z : State) (ar0 : Array Value) (hw : ∀ d ∈ tables_1, d.before ar0 Z = true) (ws : List Jvm.Cond) (a0 : Addr) (w_STRING : Addr) (w_OBJECT : Addr) (w_INT : Addr) (w_MAP : Addr) (w_BIGDECIMAL : Addr) (w_DATE : Addr) (w_LONG : Addr) (w_LIST : Addr) (w_BOOLEAN : Addr) (w_DEFAULTCAPACITY_EMPTY_ELEMENTDATA : Addr) (c_DEFAULTCAPACITY_EMPTY_ELEMENTDATA : Cell) (w_EMPTY_LIST : Addr) (w_EMPTY : Addr) (w_ELEMS : Addr) (c_ELEMS : Cell) (w_MIR : Addr) (u_modCount_a0 : Value) (h0 : Heap) (n0 : Nat) (O0 : Old Z n0 h0) (F : Fx Z Z.heap w_STRING w_OBJECT w_INT w_MAP w_BIGDECIMAL w_DATE w_LONG w_LIST w_BOOLEAN w_DEFAULTCAPACITY_EMPTY_ELEMENTDATA c_DEFAULTCAPACITY_EMPTY_ELEMENTDATA w_EMPTY_LIST w_EMPTY w_ELEMS c_ELEMS w_MIR) (E_a00 : Exa Z h0 a0 "java/util/ArrayList") (F_modCount_a00 : Fld Z h0 a0 "java/util/AbstractList" "modCount" "I" u_modCount_a0) (F_elementData_a00 : Fld Z h0 a0 "java/util/ArrayList" "elementData" "[Ljava/lang/Object;" (.ref w_DEFAULTCAPACITY_EMPTY_ELEMENTDATA)) (F_size_a00 : Fld Z h0 a0 "java/util/ArrayList" "size" "I" (.int (0 : Int32))) :
    MetFree l (⟨"java/util/ImmutableCollections", "listCopy", "(Ljava/util/Collection;)Ljava/util/List;"⟩ : MethodName) (head1 ((Jvm.Cond.code (⟨"java/util/ImmutableCollections", "listCopy", "(Ljava/util/Collection;)Ljava/util/List;"⟩ : MethodName) jdk_56_method_3_code 2 (some (.object "java/util/List"))) :: ws) ({ frames := 1, cells := 0, slots := 0, locals := 12 } : Room)) (fun a U => a = #[(.ref a0)] ∧ Z.Warmed39 U.vm ∧ U.heap = h0) (fun _ _ _ _ _ => True) (fun _ U o U' => ∃ v L, o = .returned v ∧ Q10_0 Z a0 w_STRING w_OBJECT w_INT w_MAP w_BIGDECIMAL w_DATE w_LONG w_LIST w_BOOLEAN w_DEFAULTCAPACITY_EMPTY_ELEMENTDATA c_DEFAULTCAPACITY_EMPTY_ELEMENTDATA w_EMPTY_LIST w_EMPTY w_ELEMS c_ELEMS w_MIR u_modCount_a0 h0 n0 v U'.heap L ∧ FrameEnd U o U' L ({ frames := 1, cells := 0, slots := 0, locals := 12 } : Room).cells ({ frames := 1, cells := 0, slots := 0, locals := 12 } : Room).slots) := by
  obtain ⟨S_STRING, E_STRING, S_OBJECT, E_OBJECT, F_ordinal_STRING, F_ordinal_OBJECT, S_INT, E_INT, F_ordinal_INT, S_MAP, E_MAP, S_BIGDECIMAL, E_BIGDECIMAL, S_DATE, E_DATE, S_LONG, E_LONG, F_ordinal_LONG, F_ordinal_BIGDECIMAL, S_LIST, E_LIST, S_BOOLEAN, E_BOOLEAN, F_ordinal_BOOLEAN, F_ordinal_DATE, S_DEFAULTCAPACITY_EMPTY_ELEMENTDATA, E_DEFAULTCAPACITY_EMPTY_ELEMENTDATA, A_DEFAULTCAPACITY_EMPTY_ELEMENTDATA, L_DEFAULTCAPACITY_EMPTY_ELEMENTDATA, S_EMPTY_LIST, E_EMPTY_LIST, S_EMPTY, E_EMPTY, F_elements_EMPTY_LIST, A_ELEMS, L_ELEMS, M_MIR⟩ := id F
  refine MetFree.of_bodySF (plainFor_of_name pn_10_0) hisR ?_
  intro p e s m args below meth c s₁ Bd hml0 hP hK
  obtain ⟨rfl, hZ, hh⟩ := hP
  have hx := Bd.exec
  have hby := Bd.bytes
  have hml : c.maxLocals = 2 := hml0
  have hown : s.vm.findClass "java/util/ImmutableCollections" = some m.cls := findClass_of_methodNamed Bd.named
  have hnm := (name_of_methodNamed Bd.named Bd.method).1
  have X0 : Stand p l e ({ frames := 1, cells := 0, slots := 0, locals := 12 } : Room) s m #[(.ref a0)] below meth c s₁ [] 0 0 := Stand.of_body Bd
  have e0 : s₁.heap = h0 := by rw [← hh, Bd.state]; rfl
  have N0 := Fr.nil n0
  have K0 : Keep h0 h0 [] := Keep.refl _ _
  have pre0 : ∀ t, Steps p.tables e below (s₁.setTop (mkF m 0 #[.val (.ref a0), .unset] [])) t → Steps p.tables e below (s₁.setTop (entryFrame m #[(.ref a0)] 2)) t := fun t k => castTop (ef_10_0 m a0) k
  have E_a0 := E_a00
  have F_modCount_a0 := F_modCount_a00
  have F_elementData_a0 := F_elementData_a00
  have F_size_a0 := F_size_a00
  obtain ⟨T1, X1, e1, st1⟩ := instNo X0 hx hZ hown (hw _ (List.mem_of_getElem? (i := 66) rfl)) e0 E_a0 (own_nol_L12 hw) (g := (mkF m 1 #[.val (.ref a0), .unset] [(.ref a0)])) rfl rfl (hb hby d10_0_1)
  obtain ⟨T2, X2, e2, st2⟩ := instNo X1 hx hZ hown (hw _ (List.mem_of_getElem? (i := 71) rfl)) e1 E_a0 (own_nol_LN hw) (g := (mkF m 8 #[.val (.ref a0), .unset] [(.ref a0)])) rfl rfl (hb hby d10_0_8)
  obtain ⟨cq3, kq3, q3a, q3b, q3c⟩ := isOf hZ e2 E_a0
  obtain ⟨_, _, ⟨T3, L3, k3, n3⟩, -, X3, ⟨Lc3, hQ3, l3, y3, z3⟩, st3⟩ := X2.interfaceBack hx (xi := (⟨"java/util/Collection", "isEmpty", "()Z"⟩ : MethodName)) (y := (⟨"java/util/ArrayList", "isEmpty", "()Z"⟩ : MethodName)) hown (mvT hZ (hw _ (List.mem_of_getElem? (i := 72) rfl))) (mvT hZ (hw _ (List.mem_of_getElem? (i := 73) rfl))) (mvT hZ (hw _ (List.mem_of_getElem? (i := 74) rfl))) (mvT hZ (hw _ (List.mem_of_getElem? (i := 75) rfl))) (mvT hZ (hw _ (List.mem_of_getElem? (i := 76) rfl))) (mvT hZ (hw _ (List.mem_of_getElem? (i := 77) rfl))) (mvT hZ (hw _ (List.mem_of_getElem? (i := 78) rfl))) (mvT hZ (hw _ (List.mem_of_getElem? (i := 79) rfl))) (by decide) (backOf (W := 0) (rm11z l Z ar0 hw [] a0 w_STRING w_OBJECT w_INT w_MAP w_BIGDECIMAL w_DATE w_LONG w_LIST w_BOOLEAN w_DEFAULTCAPACITY_EMPTY_ELEMENTDATA c_DEFAULTCAPACITY_EMPTY_ELEMENTDATA w_EMPTY_LIST w_EMPTY w_ELEMS c_ELEMS w_MIR (0 : Int32) h0 n0 O0 F F_size_a0 (by first | decide | assumption)) hZ (hw _ (List.mem_of_getElem? (i := 80) rfl)) (hw _ (List.mem_of_getElem? (i := 3) rfl)) (by decide) (by decide)) q3a q3b q3c (g := (mkF m 32 #[.val (.ref a0), .unset] [(.ref a0)])) rfl (by rw [hml]; rfl) (Steps.refl _) (argsL := []) (rest := []) (lenOf pd_10_0_32 rfl) rfl (by show 2 * 0 + _ ≤ _; exact Nat.le_of_eq rfl) (hb hby d10_0_32) (fun _ _ => ⟨rfl, e2, (by decide : 0 + 0 ≤ _), (by decide : 0 + 0 ≤ _)⟩)
  dsimp only [Pt.U, Pt.locs, Pt.cells, Pt.slots] at X3 l3 y3 z3 st3 hQ3
  subst l3 y3 z3
  obtain ⟨rfl, N3q, O3, Kc3⟩ := hQ3
  have N3 := Fr.app N0 N3q
  have K3 : Keep h0 T3.heap [] := K0.trans Kc3 all0
  have E_a0 := (E_a0.keep Kc3)
  have F_modCount_a0 := (F_modCount_a0.keep Kc3 nin0)
  have F_elementData_a0 := (F_elementData_a0.keep Kc3 nin0)
  have F_size_a0 := (F_size_a0.keep Kc3 nin0)
  obtain ⟨_, _, ⟨T4, L4, k4, n4⟩, -, X4, ⟨Lc4, hQ4, l4, y4, z4⟩, st4⟩ := Jvm.LawKit.callS X3 hx (y := (⟨"java/util/List", "of", "()Ljava/util/List;"⟩ : MethodName)) hown (mvT hZ (hw _ (List.mem_of_getElem? (i := 83) rfl))) (mvT hZ (hw _ (List.mem_of_getElem? (i := 84) rfl))) (mvT hZ (hw _ (List.mem_of_getElem? (i := 60) rfl))) (mvT hZ (hw _ (List.mem_of_getElem? (i := 85) rfl))) (by decide) (backOf (W := 0) (rm12 l Z ar0 hw []  w_STRING w_OBJECT w_INT w_MAP w_BIGDECIMAL w_DATE w_LONG w_LIST w_BOOLEAN w_DEFAULTCAPACITY_EMPTY_ELEMENTDATA c_DEFAULTCAPACITY_EMPTY_ELEMENTDATA w_EMPTY_LIST w_EMPTY w_ELEMS c_ELEMS w_MIR  T3.heap n0 O3 F ) hZ (hw _ (List.mem_of_getElem? (i := 85) rfl)) (hw _ (List.mem_of_getElem? (i := 60) rfl)) (by decide) (by decide)) (g := (mkF m 40 #[.val (.ref a0), .unset] [])) rfl (by rw [hml]; rfl) (argsL := []) (rest := []) (lenOf pd_10_0_40 rfl) rfl (by show 2 * 0 + _ ≤ _; exact Nat.le_of_eq rfl) (hb hby d10_0_40) (fun _ _ => ⟨rfl, rfl, (by decide : 0 + 0 ≤ _), (by decide : 0 + 0 ≤ _)⟩)
  dsimp only [Pt.U, Pt.locs, Pt.cells, Pt.slots] at X4 l4 y4 z4 st4 hQ4
  subst l4 y4 z4
  obtain ⟨rfl, N4q, O4, Kc4⟩ := hQ4
  have N4 := Fr.app N3 N4q
  have K4 : Keep h0 T4.heap [] := K3.trans Kc4 all0
  have E_a0 := (E_a0.keep Kc4)
  have F_modCount_a0 := (F_modCount_a0.keep Kc4 nin0)
  have F_elementData_a0 := (F_elementData_a0.keep Kc4 nin0)
  have F_size_a0 := (F_size_a0.keep Kc4 nin0)
  obtain ⟨fs, hr, hrun, hended, hW, hsame⟩ := X4.leave (v := some (.ref w_EMPTY_LIST)) (fun h => by rw [Bd.returns] at h; cases h)
  refine ⟨_, _, pre0 _ ?_, hrun, hended, _, _, rfl, ?_, ⟨_, rfl⟩, hW, hsame.mono (by decide) (by decide)⟩
  · show Steps p.tables e below (s₁.setTop (mkF m 0 #[.val (.ref a0), .unset] [])) _
    refine XS.aloadN X0.here hx rfl (hb hby d10_0_0) rfl rfl ?_
    show Steps p.tables e below (s₁.setTop (mkF m 1 #[.val (.ref a0), .unset] [(.ref a0)])) _
    refine st1 _ ?_
    show Steps p.tables e below (T1.setTop (mkF m 4 #[.val (.ref a0), .unset] [(.int (0 : Int32))])) _
    refine XS.ifNo X1.here hx rfl (hb hby d10_0_4) rfl ((if0 _ _).trans (teq (by decide : (0 : Int32) = (0 : Int32))).2) ?_
    show Steps p.tables e below (T1.setTop (mkF m 7 #[.val (.ref a0), .unset] [])) _
    refine XS.aloadN X1.here hx rfl (hb hby d10_0_7) rfl rfl ?_
    show Steps p.tables e below (T1.setTop (mkF m 8 #[.val (.ref a0), .unset] [(.ref a0)])) _
    refine st2 _ ?_
    show Steps p.tables e below (T2.setTop (mkF m 11 #[.val (.ref a0), .unset] [(.int (0 : Int32))])) _
    refine XS.ifYes X2.here hx rfl (pc0 := 11) (pc' := 31) rfl (hb hby d10_0_11) rfl ((if0 _ _).trans (teq (by decide : (0 : Int32) = (0 : Int32))).1) (by decide) (by decide) ?_
    show Steps p.tables e below (T2.setTop (mkF m 31 #[.val (.ref a0), .unset] [])) _
    refine XS.aloadN X2.here hx rfl (hb hby d10_0_31) rfl rfl ?_
    show Steps p.tables e below (T2.setTop (mkF m 32 #[.val (.ref a0), .unset] [(.ref a0)])) _
    refine st3.trans ?_
    show Steps p.tables e below (T3.setTop (mkF m 37 #[.val (.ref a0), .unset] [(.int (1 : Int32))])) _
    refine XS.ifNo X3.here hx rfl (hb hby d10_0_37) rfl ((if0 _ _).trans (feq (by decide : ¬ ((1 : Int32) = (0 : Int32)))).1) ?_
    show Steps p.tables e below (T3.setTop (mkF m 40 #[.val (.ref a0), .unset] [])) _
    refine st4 _ ?_
    show Steps p.tables e below (T4.setTop (mkF m 43 #[.val (.ref a0), .unset] [(.ref w_EMPTY_LIST)])) _
    exact retOut X4 hx Bd.returns rfl (Or.inr (Or.inr (Or.inr (Or.inr ⟨rfl, rfl, rfl⟩)))) (hb hby d10_0_43) hr
  · show Q10_0 Z a0 w_STRING w_OBJECT w_INT w_MAP w_BIGDECIMAL w_DATE w_LONG w_LIST w_BOOLEAN w_DEFAULTCAPACITY_EMPTY_ELEMENTDATA c_DEFAULTCAPACITY_EMPTY_ELEMENTDATA w_EMPTY_LIST w_EMPTY w_ELEMS c_ELEMS w_MIR u_modCount_a0 h0 n0 _ T4.heap _
    skip
    exact ⟨rfl, N4, O4, K4⟩

theorem d9_0_0 : decode jdk_40_method_48_code 0 = .ok (.aload_n 0, 1) := by decide +kernel
theorem d9_0_1 : decode jdk_40_method_48_code 1 = .ok (.invokestatic 112, 3) := by decide +kernel
theorem d9_0_4 : decode jdk_40_method_48_code 4 = .ok (.areturn, 1) := by decide +kernel
theorem pn_9_0 : plainName "java/util/List" = true := by first | (simp [plainName, overriddenIn]; done) | decide +kernel
theorem pd_9_0_1 : parseMethodDescriptor "(Ljava/util/Collection;)Ljava/util/List;" = some ⟨[(.object "java/util/Collection")], some (.object "java/util/List")⟩ := by decide +kernel
theorem ef_9_0 (m : MethodId) (a0 : Addr) : entryFrame m #[(.ref a0)] 1 = mkF m 0 #[.val (.ref a0)] [] := by first | (simp [entryFrame, mkF, argsToLocals, Value.category]; done) | rfl
def Q9_0 (Z : State) (a0 : Addr) (w_STRING : Addr) (w_OBJECT : Addr) (w_INT : Addr) (w_MAP : Addr) (w_BIGDECIMAL : Addr) (w_DATE : Addr) (w_LONG : Addr) (w_LIST : Addr) (w_BOOLEAN : Addr) (w_DEFAULTCAPACITY_EMPTY_ELEMENTDATA : Addr) (c_DEFAULTCAPACITY_EMPTY_ELEMENTDATA : Cell) (w_EMPTY_LIST : Addr) (w_EMPTY : Addr) (w_ELEMS : Addr) (c_ELEMS : Cell) (w_MIR : Addr) (u_modCount_a0 : Value) (h0 : Heap) (n0 : Nat) (v : Option Value) (h : Heap) (L : List Loc) : Prop := v = some (.ref w_EMPTY_LIST) ∧ Fr n0 L ∧ Old Z n0 h ∧ Keep h0 h []
set_option maxRecDepth 65536 in
set_option maxHeartbeats 40000000 in
theorem rm9_0 (l : Launch) (Z : State) (ar0 : Array Value) (hw : ∀ d ∈ tables_1, d.before ar0 Z = true) (ws : List Jvm.Cond) (a0 : Addr) (w_STRING : Addr) (w_OBJECT : Addr) (w_INT : Addr) (w_MAP : Addr) (w_BIGDECIMAL : Addr) (w_DATE : Addr) (w_LONG : Addr) (w_LIST : Addr) (w_BOOLEAN : Addr) (w_DEFAULTCAPACITY_EMPTY_ELEMENTDATA : Addr) (c_DEFAULTCAPACITY_EMPTY_ELEMENTDATA : Cell) (w_EMPTY_LIST : Addr) (w_EMPTY : Addr) (w_ELEMS : Addr) (c_ELEMS : Cell) (w_MIR : Addr) (u_modCount_a0 : Value) (h0 : Heap) (n0 : Nat) (O0 : Old Z n0 h0) (F : Fx Z Z.heap w_STRING w_OBJECT w_INT w_MAP w_BIGDECIMAL w_DATE w_LONG w_LIST w_BOOLEAN w_DEFAULTCAPACITY_EMPTY_ELEMENTDATA c_DEFAULTCAPACITY_EMPTY_ELEMENTDATA w_EMPTY_LIST w_EMPTY w_ELEMS c_ELEMS w_MIR) (E_a00 : Exa Z h0 a0 "java/util/ArrayList") (F_modCount_a00 : Fld Z h0 a0 "java/util/AbstractList" "modCount" "I" u_modCount_a0) (F_elementData_a00 : Fld Z h0 a0 "java/util/ArrayList" "elementData" "[Ljava/lang/Object;" (.ref w_DEFAULTCAPACITY_EMPTY_ELEMENTDATA)) (F_size_a00 : Fld Z h0 a0 "java/util/ArrayList" "size" "I" (.int (0 : Int32))) :
    MetFree l (⟨"java/util/List", "copyOf", "(Ljava/util/Collection;)Ljava/util/List;"⟩ : MethodName) (head1 ((Jvm.Cond.code (⟨"java/util/List", "copyOf", "(Ljava/util/Collection;)Ljava/util/List;"⟩ : MethodName) jdk_40_method_48_code 1 (some (.object "java/util/List"))) :: ws) ({ frames := 2, cells := 0, slots := 0, locals := 25 } : Room)) (fun a U => a = #[(.ref a0)] ∧ Z.Warmed39 U.vm ∧ U.heap = h0) (fun _ _ _ _ _ => True) (fun _ U o U' => ∃ v L, o = .returned v ∧ Q9_0 Z a0 w_STRING w_OBJECT w_INT w_MAP w_BIGDECIMAL w_DATE w_LONG w_LIST w_BOOLEAN w_DEFAULTCAPACITY_EMPTY_ELEMENTDATA c_DEFAULTCAPACITY_EMPTY_ELEMENTDATA w_EMPTY_LIST w_EMPTY w_ELEMS c_ELEMS w_MIR u_modCount_a0 h0 n0 v U'.heap L ∧ FrameEnd U o U' L ({ frames := 2, cells := 0, slots := 0, locals := 25 } : Room).cells ({ frames := 2, cells := 0, slots := 0, locals := 25 } : Room).slots) := by
  obtain ⟨S_STRING, E_STRING, S_OBJECT, E_OBJECT, F_ordinal_STRING, F_ordinal_OBJECT, S_INT, E_INT, F_ordinal_INT, S_MAP, E_MAP, S_BIGDECIMAL, E_BIGDECIMAL, S_DATE, E_DATE, S_LONG, E_LONG, F_ordinal_LONG, F_ordinal_BIGDECIMAL, S_LIST, E_LIST, S_BOOLEAN, E_BOOLEAN, F_ordinal_BOOLEAN, F_ordinal_DATE, S_DEFAULTCAPACITY_EMPTY_ELEMENTDATA, E_DEFAULTCAPACITY_EMPTY_ELEMENTDATA, A_DEFAULTCAPACITY_EMPTY_ELEMENTDATA, L_DEFAULTCAPACITY_EMPTY_ELEMENTDATA, S_EMPTY_LIST, E_EMPTY_LIST, S_EMPTY, E_EMPTY, F_elements_EMPTY_LIST, A_ELEMS, L_ELEMS, M_MIR⟩ := id F
  refine MetFree.of_bodySF (plainFor_of_name pn_9_0) hisR ?_
  intro p e s m args below meth c s₁ Bd hml0 hP hK
  obtain ⟨rfl, hZ, hh⟩ := hP
  have hx := Bd.exec
  have hby := Bd.bytes
  have hml : c.maxLocals = 1 := hml0
  have hown : s.vm.findClass "java/util/List" = some m.cls := findClass_of_methodNamed Bd.named
  have hnm := (name_of_methodNamed Bd.named Bd.method).1
  have X0 : Stand p l e ({ frames := 2, cells := 0, slots := 0, locals := 25 } : Room) s m #[(.ref a0)] below meth c s₁ [] 0 0 := Stand.of_body Bd
  have e0 : s₁.heap = h0 := by rw [← hh, Bd.state]; rfl
  have N0 := Fr.nil n0
  have K0 : Keep h0 h0 [] := Keep.refl _ _
  have pre0 : ∀ t, Steps p.tables e below (s₁.setTop (mkF m 0 #[.val (.ref a0)] [])) t → Steps p.tables e below (s₁.setTop (entryFrame m #[(.ref a0)] 1)) t := fun t k => castTop (ef_9_0 m a0) k
  have E_a0 := E_a00
  have F_modCount_a0 := F_modCount_a00
  have F_elementData_a0 := F_elementData_a00
  have F_size_a0 := F_size_a00
  obtain ⟨_, _, ⟨T1, L1, k1, n1⟩, -, X1, ⟨Lc1, hQ1, l1, y1, z1⟩, st1⟩ := Jvm.LawKit.callS X0 hx (y := (⟨"java/util/ImmutableCollections", "listCopy", "(Ljava/util/Collection;)Ljava/util/List;"⟩ : MethodName)) hown (mvT hZ (hw _ (List.mem_of_getElem? (i := 62) rfl))) (mvT hZ (hw _ (List.mem_of_getElem? (i := 63) rfl))) (mvT hZ (hw _ (List.mem_of_getElem? (i := 64) rfl))) (mvT hZ (hw _ (List.mem_of_getElem? (i := 65) rfl))) (by decide) (backOf (W := 0) (rm10_0 l Z ar0 hw [] a0 w_STRING w_OBJECT w_INT w_MAP w_BIGDECIMAL w_DATE w_LONG w_LIST w_BOOLEAN w_DEFAULTCAPACITY_EMPTY_ELEMENTDATA c_DEFAULTCAPACITY_EMPTY_ELEMENTDATA w_EMPTY_LIST w_EMPTY w_ELEMS c_ELEMS w_MIR u_modCount_a0 h0 n0 O0 F E_a0 F_modCount_a0 F_elementData_a0 F_size_a0) hZ (hw _ (List.mem_of_getElem? (i := 65) rfl)) (hw _ (List.mem_of_getElem? (i := 64) rfl)) (by decide) (by decide)) (g := (mkF m 1 #[.val (.ref a0)] [(.ref a0)])) rfl (by rw [hml]; rfl) (argsL := [(.ref a0)]) (rest := []) (lenOf pd_9_0_1 rfl) rfl (by show 2 * 0 + _ ≤ _; exact Nat.le_of_eq rfl) (hb hby d9_0_1) (fun _ _ => ⟨rfl, e0, (by decide : 0 + 0 ≤ _), (by decide : 0 + 0 ≤ _)⟩)
  dsimp only [Pt.U, Pt.locs, Pt.cells, Pt.slots] at X1 l1 y1 z1 st1 hQ1
  subst l1 y1 z1
  obtain ⟨rfl, N1q, O1, Kc1⟩ := hQ1
  have N1 := Fr.app N0 N1q
  have K1 : Keep h0 T1.heap [] := K0.trans Kc1 all0
  have E_a0 := (E_a0.keep Kc1)
  have F_modCount_a0 := (F_modCount_a0.keep Kc1 nin0)
  have F_elementData_a0 := (F_elementData_a0.keep Kc1 nin0)
  have F_size_a0 := (F_size_a0.keep Kc1 nin0)
  obtain ⟨fs, hr, hrun, hended, hW, hsame⟩ := X1.leave (v := some (.ref w_EMPTY_LIST)) (fun h => by rw [Bd.returns] at h; cases h)
  refine ⟨_, _, pre0 _ ?_, hrun, hended, _, _, rfl, ?_, ⟨_, rfl⟩, hW, hsame.mono (by decide) (by decide)⟩
  · show Steps p.tables e below (s₁.setTop (mkF m 0 #[.val (.ref a0)] [])) _
    refine XS.aloadN X0.here hx rfl (hb hby d9_0_0) rfl rfl ?_
    show Steps p.tables e below (s₁.setTop (mkF m 1 #[.val (.ref a0)] [(.ref a0)])) _
    refine st1 _ ?_
    show Steps p.tables e below (T1.setTop (mkF m 4 #[.val (.ref a0)] [(.ref w_EMPTY_LIST)])) _
    exact retOut X1 hx Bd.returns rfl (Or.inr (Or.inr (Or.inr (Or.inr ⟨rfl, rfl, rfl⟩)))) (hb hby d9_0_4) hr
  · show Q9_0 Z a0 w_STRING w_OBJECT w_INT w_MAP w_BIGDECIMAL w_DATE w_LONG w_LIST w_BOOLEAN w_DEFAULTCAPACITY_EMPTY_ELEMENTDATA c_DEFAULTCAPACITY_EMPTY_ELEMENTDATA w_EMPTY_LIST w_EMPTY w_ELEMS c_ELEMS w_MIR u_modCount_a0 h0 n0 _ T1.heap _
    skip
    exact ⟨rfl, N1, O1, K1⟩

theorem d24_1_0 : decode jdk_29_method_69_code 0 = .ok (.iload_n 0, 1) := by decide +kernel
theorem d24_1_1 : decode jdk_29_method_69_code 1 = .ok (.iload_n 1, 1) := by decide +kernel
theorem d24_1_2 : decode jdk_29_method_69_code 2 = .ok (.if_icmp .gt 7, 3) := by decide +kernel
theorem d24_1_9 : decode jdk_29_method_69_code 9 = .ok (.iload_n 1, 1) := by decide +kernel
theorem d24_1_10 : decode jdk_29_method_69_code 10 = .ok (.ireturn, 1) := by decide +kernel
theorem pn_24_1 : plainFor (⟨"java/lang/Math", "min", "(II)I"⟩ : MethodName) = true := by decide +kernel
theorem ef_24_1 (m : MethodId)  : entryFrame m #[(.int (10 : Int32)), (.int (1 : Int32))] 2 = mkF m 0 #[.val (.int (10 : Int32)), .val (.int (1 : Int32))] [] := by first | (simp [entryFrame, mkF, argsToLocals, Value.category]; done) | rfl
def Q24_1 (Z : State)  (w_STRING : Addr) (w_OBJECT : Addr) (w_INT : Addr) (w_MAP : Addr) (w_BIGDECIMAL : Addr) (w_DATE : Addr) (w_LONG : Addr) (w_LIST : Addr) (w_BOOLEAN : Addr) (w_DEFAULTCAPACITY_EMPTY_ELEMENTDATA : Addr) (c_DEFAULTCAPACITY_EMPTY_ELEMENTDATA : Cell) (w_EMPTY_LIST : Addr) (w_EMPTY : Addr) (w_ELEMS : Addr) (c_ELEMS : Cell) (w_MIR : Addr)  (h0 : Heap) (n0 : Nat) (v : Option Value) (h : Heap) (L : List Loc) : Prop := v = some (.int (1 : Int32)) ∧ Fr n0 L ∧ Old Z n0 h ∧ Keep h0 h []
set_option maxRecDepth 65536 in
set_option maxHeartbeats 40000000 in
theorem rm24_1 (l : Launch) (Z : State) (ar0 : Array Value) (hw : ∀ d ∈ tables_1, d.before ar0 Z = true) (ws : List Jvm.Cond)  (w_STRING : Addr) (w_OBJECT : Addr) (w_INT : Addr) (w_MAP : Addr) (w_BIGDECIMAL : Addr) (w_DATE : Addr) (w_LONG : Addr) (w_LIST : Addr) (w_BOOLEAN : Addr) (w_DEFAULTCAPACITY_EMPTY_ELEMENTDATA : Addr) (c_DEFAULTCAPACITY_EMPTY_ELEMENTDATA : Cell) (w_EMPTY_LIST : Addr) (w_EMPTY : Addr) (w_ELEMS : Addr) (c_ELEMS : Cell) (w_MIR : Addr)  (h0 : Heap) (n0 : Nat) (O0 : Old Z n0 h0) (F : Fx Z Z.heap w_STRING w_OBJECT w_INT w_MAP w_BIGDECIMAL w_DATE w_LONG w_LIST w_BOOLEAN w_DEFAULTCAPACITY_EMPTY_ELEMENTDATA c_DEFAULTCAPACITY_EMPTY_ELEMENTDATA w_EMPTY_LIST w_EMPTY w_ELEMS c_ELEMS w_MIR)  :
    MetFree l (⟨"java/lang/Math", "min", "(II)I"⟩ : MethodName) (head1 ((Jvm.Cond.code (⟨"java/lang/Math", "min", "(II)I"⟩ : MethodName) jdk_29_method_69_code 2 (some .int)) :: ws) ({ frames := 0, cells := 0, slots := 0, locals := 0 } : Room)) (fun a U => a = #[(.int (10 : Int32)), (.int (1 : Int32))] ∧ Z.Warmed39 U.vm ∧ U.heap = h0) (fun _ _ _ _ _ => True) (fun _ U o U' => ∃ v L, o = .returned v ∧ Q24_1 Z  w_STRING w_OBJECT w_INT w_MAP w_BIGDECIMAL w_DATE w_LONG w_LIST w_BOOLEAN w_DEFAULTCAPACITY_EMPTY_ELEMENTDATA c_DEFAULTCAPACITY_EMPTY_ELEMENTDATA w_EMPTY_LIST w_EMPTY w_ELEMS c_ELEMS w_MIR  h0 n0 v U'.heap L ∧ FrameEnd U o U' L ({ frames := 0, cells := 0, slots := 0, locals := 0 } : Room).cells ({ frames := 0, cells := 0, slots := 0, locals := 0 } : Room).slots) := by
  obtain ⟨S_STRING, E_STRING, S_OBJECT, E_OBJECT, F_ordinal_STRING, F_ordinal_OBJECT, S_INT, E_INT, F_ordinal_INT, S_MAP, E_MAP, S_BIGDECIMAL, E_BIGDECIMAL, S_DATE, E_DATE, S_LONG, E_LONG, F_ordinal_LONG, F_ordinal_BIGDECIMAL, S_LIST, E_LIST, S_BOOLEAN, E_BOOLEAN, F_ordinal_BOOLEAN, F_ordinal_DATE, S_DEFAULTCAPACITY_EMPTY_ELEMENTDATA, E_DEFAULTCAPACITY_EMPTY_ELEMENTDATA, A_DEFAULTCAPACITY_EMPTY_ELEMENTDATA, L_DEFAULTCAPACITY_EMPTY_ELEMENTDATA, S_EMPTY_LIST, E_EMPTY_LIST, S_EMPTY, E_EMPTY, F_elements_EMPTY_LIST, A_ELEMS, L_ELEMS, M_MIR⟩ := id F
  refine MetFree.of_bodySF pn_24_1 hisR ?_
  intro p e s m args below meth c s₁ Bd hml0 hP hK
  obtain ⟨rfl, hZ, hh⟩ := hP
  have hx := Bd.exec
  have hby := Bd.bytes
  have hml : c.maxLocals = 2 := hml0
  have hown : s.vm.findClass "java/lang/Math" = some m.cls := findClass_of_methodNamed Bd.named
  have hnm := (name_of_methodNamed Bd.named Bd.method).1
  have X0 : Stand p l e ({ frames := 0, cells := 0, slots := 0, locals := 0 } : Room) s m #[(.int (10 : Int32)), (.int (1 : Int32))] below meth c s₁ [] 0 0 := Stand.of_body Bd
  have e0 : s₁.heap = h0 := by rw [← hh, Bd.state]; rfl
  have N0 := Fr.nil n0
  have K0 : Keep h0 h0 [] := Keep.refl _ _
  have pre0 : ∀ t, Steps p.tables e below (s₁.setTop (mkF m 0 #[.val (.int (10 : Int32)), .val (.int (1 : Int32))] [])) t → Steps p.tables e below (s₁.setTop (entryFrame m #[(.int (10 : Int32)), (.int (1 : Int32))] 2)) t := fun t k => castTop (ef_24_1 m ) k
  obtain ⟨fs, hr, hrun, hended, hW, hsame⟩ := X0.leave (v := some (.int (1 : Int32))) (fun h => by rw [Bd.returns] at h; cases h)
  refine ⟨_, _, pre0 _ ?_, hrun, hended, _, _, rfl, ?_, ⟨_, rfl⟩, hW, hsame.mono (by decide) (by decide)⟩
  · show Steps p.tables e below (s₁.setTop (mkF m 0 #[.val (.int (10 : Int32)), .val (.int (1 : Int32))] [])) _
    refine XS.iloadN X0.here hx rfl (hb hby d24_1_0) rfl ?_
    show Steps p.tables e below (s₁.setTop (mkF m 1 #[.val (.int (10 : Int32)), .val (.int (1 : Int32))] [(.int (10 : Int32))])) _
    refine XS.iloadN X0.here hx rfl (hb hby d24_1_1) rfl ?_
    show Steps p.tables e below (s₁.setTop (mkF m 2 #[.val (.int (10 : Int32)), .val (.int (1 : Int32))] [(.int (1 : Int32)), (.int (10 : Int32))])) _
    refine XS.icmpYes X0.here hx rfl (pc0 := 2) (pc' := 9) rfl (hb hby d24_1_2) rfl (tlt (by decide : (1 : Int32) < (10 : Int32))).2.2.1 (by decide) (by decide) ?_
    show Steps p.tables e below (s₁.setTop (mkF m 9 #[.val (.int (10 : Int32)), .val (.int (1 : Int32))] [])) _
    refine XS.iloadN X0.here hx rfl (hb hby d24_1_9) rfl ?_
    show Steps p.tables e below (s₁.setTop (mkF m 10 #[.val (.int (10 : Int32)), .val (.int (1 : Int32))] [(.int (1 : Int32))])) _
    exact retI X0 hx Bd.returns (hb hby d24_1_10) hr
  · show Q24_1 Z  w_STRING w_OBJECT w_INT w_MAP w_BIGDECIMAL w_DATE w_LONG w_LIST w_BOOLEAN w_DEFAULTCAPACITY_EMPTY_ELEMENTDATA c_DEFAULTCAPACITY_EMPTY_ELEMENTDATA w_EMPTY_LIST w_EMPTY w_ELEMS c_ELEMS w_MIR  h0 n0 _ s₁.heap _
    rw [e0]
    exact ⟨rfl, N0, O0, K0⟩

theorem d23_1_0 : decode jdk_65_method_120_code 0 = .ok (.aload_n 2, 1) := by decide +kernel
theorem d23_1_1 : decode jdk_65_method_120_code 1 = .ok (.ldc 110, 2) := by decide +kernel
theorem d23_1_3 : decode jdk_65_method_120_code 3 = .ok (.if_acmp .ne 10, 3) := by decide +kernel
theorem d23_1_6 : decode jdk_65_method_120_code 6 = .ok (.iload_n 1, 1) := by decide +kernel
theorem d23_1_7 : decode jdk_65_method_120_code 7 = .ok (.anewarray 2, 3) := by decide +kernel
theorem d23_1_10 : decode jdk_65_method_120_code 10 = .ok (.goto 14, 3) := by decide +kernel
theorem d23_1_24 : decode jdk_65_method_120_code 24 = .ok (.astore_n 3, 1) := by decide +kernel
theorem d23_1_25 : decode jdk_65_method_120_code 25 = .ok (.aload_n 0, 1) := by decide +kernel
theorem d23_1_26 : decode jdk_65_method_120_code 26 = .ok (.iconst 0, 1) := by decide +kernel
theorem d23_1_27 : decode jdk_65_method_120_code 27 = .ok (.aload_n 3, 1) := by decide +kernel
theorem d23_1_28 : decode jdk_65_method_120_code 28 = .ok (.iconst 0, 1) := by decide +kernel
theorem d23_1_29 : decode jdk_65_method_120_code 29 = .ok (.aload_n 0, 1) := by decide +kernel
theorem d23_1_30 : decode jdk_65_method_120_code 30 = .ok (.arraylength, 1) := by decide +kernel
theorem d23_1_31 : decode jdk_65_method_120_code 31 = .ok (.iload_n 1, 1) := by decide +kernel
theorem d23_1_32 : decode jdk_65_method_120_code 32 = .ok (.invokestatic 304, 3) := by decide +kernel
theorem d23_1_35 : decode jdk_65_method_120_code 35 = .ok (.invokestatic 150, 3) := by decide +kernel
theorem d23_1_38 : decode jdk_65_method_120_code 38 = .ok (.aload_n 3, 1) := by decide +kernel
theorem d23_1_39 : decode jdk_65_method_120_code 39 = .ok (.areturn, 1) := by decide +kernel
theorem pn_23_1 : plainName "java/util/Arrays" = true := by first | (simp [plainName, overriddenIn]; done) | decide +kernel
theorem pd_23_1_32 : parseMethodDescriptor "(II)I" = some ⟨[.int, .int], some .int⟩ := by decide +kernel
theorem ef_23_1 (m : MethodId) (a0 : Addr) : entryFrame m #[(.ref a0), (.int (1 : Int32)), (.ref w_MIR)] 4 = mkF m 0 #[.val (.ref a0), .val (.int (1 : Int32)), .val (.ref w_MIR), .unset] [] := by first | (simp [entryFrame, mkF, argsToLocals, Value.category]; done) | rfl
def Q23_1 (Z : State) (a0 : Addr) (w_STRING : Addr) (w_OBJECT : Addr) (w_INT : Addr) (w_MAP : Addr) (w_BIGDECIMAL : Addr) (w_DATE : Addr) (w_LONG : Addr) (w_LIST : Addr) (w_BOOLEAN : Addr) (w_DEFAULTCAPACITY_EMPTY_ELEMENTDATA : Addr) (c_DEFAULTCAPACITY_EMPTY_ELEMENTDATA : Cell) (w_EMPTY_LIST : Addr) (w_EMPTY : Addr) (w_ELEMS : Addr) (c_ELEMS : Cell) (w_MIR : Addr) (ka0 : ClassId) (el0 : Addr) (h0 : Heap) (n0 : Nat) (v : Option Value) (h : Heap) (L : List Loc) : Prop := ∃ (b2 : Addr) (k2 : ClassId), v = some (.ref b2) ∧ Fr n0 L ∧ Old Z n0 h ∧ Keep h0 h [] ∧ h0.size ≤ b2 ∧ (Exa Z h b2 "[Ljava/lang/Object;") ∧ (Ovr Z k2 "java/lang/Object") ∧ (Arv Z h b2 k2 (.object "java/lang/Object") (1 : Int32) [(.ref el0)] .null)
set_option maxRecDepth 65536 in
set_option maxHeartbeats 40000000 in
theorem rm23_1 (l : Launch) (Z : State) (ar0 : Array Value) (hw : ∀ d ∈ tables_1, d.before ar0 Z = true) (ws : List Jvm.Cond) (a0 : Addr) (w_STRING : Addr) (w_OBJECT : Addr) (w_INT : Addr) (w_MAP : Addr) (w_BIGDECIMAL : Addr) (w_DATE : Addr) (w_LONG : Addr) (w_LIST : Addr) (w_BOOLEAN : Addr) (w_DEFAULTCAPACITY_EMPTY_ELEMENTDATA : Addr) (c_DEFAULTCAPACITY_EMPTY_ELEMENTDATA : Cell) (w_EMPTY_LIST : Addr) (w_EMPTY : Addr) (w_ELEMS : Addr) (c_ELEMS : Cell) (w_MIR : Addr) (ka0 : ClassId) (el0 : Addr) (h0 : Heap) (n0 : Nat) (O0 : Old Z n0 h0) (F : Fx Z Z.heap w_STRING w_OBJECT w_INT w_MAP w_BIGDECIMAL w_DATE w_LONG w_LIST w_BOOLEAN w_DEFAULTCAPACITY_EMPTY_ELEMENTDATA c_DEFAULTCAPACITY_EMPTY_ELEMENTDATA w_EMPTY_LIST w_EMPTY w_ELEMS c_ELEMS w_MIR) (V_a00 : Arv Z h0 a0 ka0 (.object "java/lang/Object") (10 : Int32) [(.ref el0), .null, .null, .null, .null, .null, .null, .null, .null, .null] .null) (E_a00 : Exa Z h0 a0 "[Ljava/lang/Object;") (Ovr_a00 : Ovr Z ka0 "java/lang/Object") (E_el00 : Exa Z h0 el0 "com/example/declared_endpoints/declaredendpoints/model/FieldType$Container") :
    MetFree l (⟨"java/util/Arrays", "copyOf", "([Ljava/lang/Object;ILjava/lang/Class;)[Ljava/lang/Object;"⟩ : MethodName) (head1 ((Jvm.Cond.code (⟨"java/util/Arrays", "copyOf", "([Ljava/lang/Object;ILjava/lang/Class;)[Ljava/lang/Object;"⟩ : MethodName) jdk_65_method_120_code 4 (some (.array (.object "java/lang/Object")))) :: ws) ({ frames := 1, cells := 1, slots := 1, locals := 18 } : Room)) (fun a U => a = #[(.ref a0), (.int (1 : Int32)), (.ref w_MIR)] ∧ Z.Warmed39 U.vm ∧ U.heap = h0) (fun _ _ _ _ _ => True) (fun _ U o U' => ∃ v L, o = .returned v ∧ Q23_1 Z a0 w_STRING w_OBJECT w_INT w_MAP w_BIGDECIMAL w_DATE w_LONG w_LIST w_BOOLEAN w_DEFAULTCAPACITY_EMPTY_ELEMENTDATA c_DEFAULTCAPACITY_EMPTY_ELEMENTDATA w_EMPTY_LIST w_EMPTY w_ELEMS c_ELEMS w_MIR ka0 el0 h0 n0 v U'.heap L ∧ FrameEnd U o U' L ({ frames := 1, cells := 1, slots := 1, locals := 18 } : Room).cells ({ frames := 1, cells := 1, slots := 1, locals := 18 } : Room).slots) := by
  obtain ⟨S_STRING, E_STRING, S_OBJECT, E_OBJECT, F_ordinal_STRING, F_ordinal_OBJECT, S_INT, E_INT, F_ordinal_INT, S_MAP, E_MAP, S_BIGDECIMAL, E_BIGDECIMAL, S_DATE, E_DATE, S_LONG, E_LONG, F_ordinal_LONG, F_ordinal_BIGDECIMAL, S_LIST, E_LIST, S_BOOLEAN, E_BOOLEAN, F_ordinal_BOOLEAN, F_ordinal_DATE, S_DEFAULTCAPACITY_EMPTY_ELEMENTDATA, E_DEFAULTCAPACITY_EMPTY_ELEMENTDATA, A_DEFAULTCAPACITY_EMPTY_ELEMENTDATA, L_DEFAULTCAPACITY_EMPTY_ELEMENTDATA, S_EMPTY_LIST, E_EMPTY_LIST, S_EMPTY, E_EMPTY, F_elements_EMPTY_LIST, A_ELEMS, L_ELEMS, M_MIR⟩ := id F
  refine MetFree.of_bodySF (plainFor_of_name pn_23_1) hisR ?_
  intro p e s m args below meth c s₁ Bd hml0 hP hK
  obtain ⟨rfl, hZ, hh⟩ := hP
  have hx := Bd.exec
  have hby := Bd.bytes
  have hml : c.maxLocals = 4 := hml0
  have hown : s.vm.findClass "java/util/Arrays" = some m.cls := findClass_of_methodNamed Bd.named
  have hnm := (name_of_methodNamed Bd.named Bd.method).1
  have X0 : Stand p l e ({ frames := 1, cells := 1, slots := 1, locals := 18 } : Room) s m #[(.ref a0), (.int (1 : Int32)), (.ref w_MIR)] below meth c s₁ [] 0 0 := Stand.of_body Bd
  have e0 : s₁.heap = h0 := by rw [← hh, Bd.state]; rfl
  have N0 := Fr.nil n0
  have K0 : Keep h0 h0 [] := Keep.refl _ _
  have pre0 : ∀ t, Steps p.tables e below (s₁.setTop (mkF m 0 #[.val (.ref a0), .val (.int (1 : Int32)), .val (.ref w_MIR), .unset] [])) t → Steps p.tables e below (s₁.setTop (entryFrame m #[(.ref a0), (.int (1 : Int32)), (.ref w_MIR)] 4)) t := fun t k => castTop (ef_23_1 m a0) k
  have V_a0 := V_a00
  have E_a0 := E_a00
  have Ovr_a0 := Ovr_a00
  have E_el0 := E_el00
  obtain ⟨T1, X1, e1, st1⟩ := own_ldcM X0 hx hZ hown (hw _ (List.mem_of_getElem? (i := 170) rfl)) e0 M_MIR (g := (mkF m 1 #[.val (.ref a0), .val (.int (1 : Int32)), .val (.ref w_MIR), .unset] [(.ref w_MIR)])) rfl (hb hby d23_1_1)
  obtain ⟨T2, h2, k2, X2, e2, E2, A2, Ex2, Ov2, st2⟩ := newRE X1 hx hZ hown (hw _ (List.mem_of_getElem? (i := 171) rfl)) (hw _ (List.mem_of_getElem? (i := 145) rfl)) e1 (g := (mkF m 7 #[.val (.ref a0), .val (.int (1 : Int32)), .val (.ref w_MIR), .unset] [(.int (1 : Int32))])) rfl (hb hby d23_1_7) rfl (by decide) (cap := 1) (by decide) (by decide) (by decide) (by decide) (ad := "[Ljava/lang/Object;") (by decide)
  obtain ⟨b2, g2⟩ : ∃ z, z = h0.size := ⟨_, rfl⟩
  rw [← g2] at A2 Ex2 st2
  have ne_a0_b2 : a0 ≠ b2 := Nat.ne_of_lt (Nat.lt_of_lt_of_le V_a0.lt (Nat.le_of_eq g2.symm))
  have ne_el0_b2 : el0 ≠ b2 := Nat.ne_of_lt (Nat.lt_of_lt_of_le E_el0.lt (Nat.le_of_eq g2.symm))
  have g_b2 : n0 ≤ b2 := Nat.le_trans (own_old_le O0) (Nat.le_of_eq g2.symm)
  have sz_b2 : h0.size ≤ b2 := Nat.le_trans K0.1 (Nat.le_of_eq g2.symm)
  have O2 : Old Z n0 h2 := O0.ext E2
  have K2 : Keep h0 h2 [] := K0.ext E2
  have V_a0 := (V_a0.ext E2)
  have E_a0 := (E_a0.ext E2)
  have E_el0 := (E_el0.ext E2)
  have V_b2 : Arv Z h2 b2 k2 (.object "java/lang/Object") (1 : Int32) [.null] .null := (Arv.new A2 (by decide)).pad (pad_rep [] .null 1)
  have E_b2 := Ex2
  have Ovr_b2 := Ov2
  obtain ⟨c3, Ar3, q3, S3, M3, Ha3, G3⟩ := id V_a0
  obtain ⟨_, _, ⟨T4, L4, k4, n4⟩, -, X4, ⟨Lc4, hQ4, l4, y4, z4⟩, st4⟩ := Jvm.LawKit.callS X2 hx (y := (⟨"java/lang/Math", "min", "(II)I"⟩ : MethodName)) hown (mvT hZ (hw _ (List.mem_of_getElem? (i := 172) rfl))) (mvT hZ (hw _ (List.mem_of_getElem? (i := 173) rfl))) (mvT hZ (hw _ (List.mem_of_getElem? (i := 142) rfl))) (mvT hZ (hw _ (List.mem_of_getElem? (i := 174) rfl))) (by decide) (backOf (W := 4) (rm24_1 l Z ar0 hw []  w_STRING w_OBJECT w_INT w_MAP w_BIGDECIMAL w_DATE w_LONG w_LIST w_BOOLEAN w_DEFAULTCAPACITY_EMPTY_ELEMENTDATA c_DEFAULTCAPACITY_EMPTY_ELEMENTDATA w_EMPTY_LIST w_EMPTY w_ELEMS c_ELEMS w_MIR  h2 n0 O2 F ) hZ (hw _ (List.mem_of_getElem? (i := 174) rfl)) (hw _ (List.mem_of_getElem? (i := 142) rfl)) (by decide) (by decide)) (g := (mkF m 32 #[.val (.ref a0), .val (.int (1 : Int32)), .val (.ref w_MIR), .val (.ref b2)] [(.int (1 : Int32)), (.int (10 : Int32)), (.int (0 : Int32)), (.ref b2), (.int (0 : Int32)), (.ref a0)])) rfl (by rw [hml]; rfl) (argsL := [(.int (10 : Int32)), (.int (1 : Int32))]) (rest := [(.int (0 : Int32)), (.ref b2), (.int (0 : Int32)), (.ref a0)]) (lenOf pd_23_1_32 rfl) rfl (by show 2 * 0 + _ ≤ _; exact Nat.le_of_eq rfl) (hb hby d23_1_32) (fun _ _ => ⟨rfl, e2, (by decide : 1 + 0 ≤ _), (by decide : 1 + 0 ≤ _)⟩)
  dsimp only [Pt.U, Pt.locs, Pt.cells, Pt.slots] at X4 l4 y4 z4 st4 hQ4
  subst l4 y4 z4
  obtain ⟨rfl, N4q, O4, Kc4⟩ := hQ4
  have N4 := Fr.app N0 N4q
  have K4 : Keep h0 T4.heap [] := K2.trans Kc4 all0
  have V_a0 := (V_a0.keep Kc4 nin0)
  have E_a0 := (E_a0.keep Kc4)
  have E_el0 := (E_el0.keep Kc4)
  have V_b2 := (V_b2.keep Kc4 nin0)
  have E_b2 := (E_b2.keep Kc4)
  obtain ⟨c5, Ar5, q5, S5, M5, Ha5, G5⟩ := id V_b2
  obtain ⟨T5, h5, L5, X5, e5, N5, Kc5, Vn5, st5⟩ := cpA X4 hx hZ hown (hw _ (List.mem_of_getElem? (i := 175) rfl)) (hw _ (List.mem_of_getElem? (i := 178) rfl)) (hw _ (List.mem_of_getElem? (i := 176) rfl)) (hw _ (List.mem_of_getElem? (i := 177) rfl)) rfl V_a0 V_b2 (Or.inr ⟨rfl, rfl, ⟨Sto.ofV Ar5 q5 Ovr_b2 (Ins.of_exa E_el0 (hw _ (List.mem_of_getElem? (i := 146) rfl))), trivial⟩⟩) (us := [(.ref el0)]) (by decide) (by decide) (by decide) (by decide) (by decide) rfl (by decide) N4 g_b2 (g := (mkF m 35 #[.val (.ref a0), .val (.int (1 : Int32)), .val (.ref w_MIR), .val (.ref b2)] [(.int (1 : Int32)), (.int (0 : Int32)), (.ref b2), (.int (0 : Int32)), (.ref a0)])) rfl (by rw [hml]; rfl) rfl (hb hby d23_1_35) (by decide) (W := 0) (by show 2 * 0 + _ ≤ _; exact Nat.le_of_eq rfl) (by decide)
  have O5 : Old Z n0 h5 := O4.keep Kc5 (allS g_b2 all0)
  have K5 : Keep h0 h5 [] := K4.trans Kc5 (allS (Or.inr sz_b2) all0)
  have V_a0 := (V_a0.keep Kc5 (ninS ne_a0_b2 nin0))
  have E_a0 := (E_a0.keep Kc5)
  have E_el0 := (E_el0.keep Kc5)
  have E_b2 := (E_b2.keep Kc5)
  have V_b2 : Arv Z h5 b2 k2 (.object "java/lang/Object") (1 : Int32) [(.ref el0)] .null := Vn5
  obtain ⟨fs, hr, hrun, hended, hW, hsame⟩ := X5.leave (v := some (.ref b2)) (fun h => by rw [Bd.returns] at h; cases h)
  refine ⟨_, _, pre0 _ ?_, hrun, hended, _, _, rfl, ?_, ⟨_, rfl⟩, hW, hsame.mono (by decide) (by decide)⟩
  · show Steps p.tables e below (s₁.setTop (mkF m 0 #[.val (.ref a0), .val (.int (1 : Int32)), .val (.ref w_MIR), .unset] [])) _
    refine XS.aloadN X0.here hx rfl (hb hby d23_1_0) rfl rfl ?_
    show Steps p.tables e below (s₁.setTop (mkF m 1 #[.val (.ref a0), .val (.int (1 : Int32)), .val (.ref w_MIR), .unset] [(.ref w_MIR)])) _
    refine st1 _ ?_
    show Steps p.tables e below (T1.setTop (mkF m 3 #[.val (.ref a0), .val (.int (1 : Int32)), .val (.ref w_MIR), .unset] [(.ref w_MIR), (.ref w_MIR)])) _
    refine Jvm.RoadKit.acmp (g := (mkF m 3 #[.val (.ref a0), .val (.int (1 : Int32)), .val (.ref w_MIR), .unset] [(.ref w_MIR), (.ref w_MIR)])) X1 hx rfl rfl rfl (pc0 := 3) (pc' := 6) (same := true) rfl (hb hby d23_1_3) rfl (decide_eq_true rfl) (by decide) (by decide) ?_
    show Steps p.tables e below (T1.setTop (mkF m 6 #[.val (.ref a0), .val (.int (1 : Int32)), .val (.ref w_MIR), .unset] [])) _
    refine XS.iloadN X1.here hx rfl (hb hby d23_1_6) rfl ?_
    show Steps p.tables e below (T1.setTop (mkF m 7 #[.val (.ref a0), .val (.int (1 : Int32)), .val (.ref w_MIR), .unset] [(.int (1 : Int32))])) _
    refine st2 _ ?_
    show Steps p.tables e below (T2.setTop (mkF m 10 #[.val (.ref a0), .val (.int (1 : Int32)), .val (.ref w_MIR), .unset] [(.ref b2)])) _
    refine XS.goto X2.here hx rfl (pc0 := 10) (pc' := 24) rfl (hb hby d23_1_10) (by decide) (by decide) ?_
    show Steps p.tables e below (T2.setTop (mkF m 24 #[.val (.ref a0), .val (.int (1 : Int32)), .val (.ref w_MIR), .unset] [(.ref b2)])) _
    refine XS.astoreN X2.here hx rfl (hb hby d23_1_24) rfl rfl (l' := #[.val (.ref a0), .val (.int (1 : Int32)), .val (.ref w_MIR), .val (.ref b2)]) rfl ?_
    show Steps p.tables e below (T2.setTop (mkF m 25 #[.val (.ref a0), .val (.int (1 : Int32)), .val (.ref w_MIR), .val (.ref b2)] [])) _
    refine XS.aloadN X2.here hx rfl (hb hby d23_1_25) rfl rfl ?_
    show Steps p.tables e below (T2.setTop (mkF m 26 #[.val (.ref a0), .val (.int (1 : Int32)), .val (.ref w_MIR), .val (.ref b2)] [(.ref a0)])) _
    refine XS.iconst X2.here hx rfl (hb hby d23_1_26) ?_
    show Steps p.tables e below (T2.setTop (mkF m 27 #[.val (.ref a0), .val (.int (1 : Int32)), .val (.ref w_MIR), .val (.ref b2)] [(.int (0 : Int32)), (.ref a0)])) _
    refine XS.aloadN X2.here hx rfl (hb hby d23_1_27) rfl rfl ?_
    show Steps p.tables e below (T2.setTop (mkF m 28 #[.val (.ref a0), .val (.int (1 : Int32)), .val (.ref w_MIR), .val (.ref b2)] [(.ref b2), (.int (0 : Int32)), (.ref a0)])) _
    refine XS.iconst X2.here hx rfl (hb hby d23_1_28) ?_
    show Steps p.tables e below (T2.setTop (mkF m 29 #[.val (.ref a0), .val (.int (1 : Int32)), .val (.ref w_MIR), .val (.ref b2)] [(.int (0 : Int32)), (.ref b2), (.int (0 : Int32)), (.ref a0)])) _
    refine XS.aloadN X2.here hx rfl (hb hby d23_1_29) rfl rfl ?_
    show Steps p.tables e below (T2.setTop (mkF m 30 #[.val (.ref a0), .val (.int (1 : Int32)), .val (.ref w_MIR), .val (.ref b2)] [(.ref a0), (.int (0 : Int32)), (.ref b2), (.int (0 : Int32)), (.ref a0)])) _
    refine X2.arraylength hx (by rw [e2]; exact Ar3.1) (State.isArrayOf_alike hZ.alike Ar3.2.1) (g := (mkF m 30 #[.val (.ref a0), .val (.int (1 : Int32)), .val (.ref w_MIR), .val (.ref b2)] [(.ref a0), (.int (0 : Int32)), (.ref b2), (.int (0 : Int32)), (.ref a0)])) rfl rfl (hb hby d23_1_30) _ ?_
    rw [len_of S3 M3]
    show Steps p.tables e below (T2.setTop (mkF m 31 #[.val (.ref a0), .val (.int (1 : Int32)), .val (.ref w_MIR), .val (.ref b2)] [(.int (10 : Int32)), (.int (0 : Int32)), (.ref b2), (.int (0 : Int32)), (.ref a0)])) _
    refine XS.iloadN X2.here hx rfl (hb hby d23_1_31) rfl ?_
    show Steps p.tables e below (T2.setTop (mkF m 32 #[.val (.ref a0), .val (.int (1 : Int32)), .val (.ref w_MIR), .val (.ref b2)] [(.int (1 : Int32)), (.int (10 : Int32)), (.int (0 : Int32)), (.ref b2), (.int (0 : Int32)), (.ref a0)])) _
    refine st4 _ ?_
    show Steps p.tables e below (T4.setTop (mkF m 35 #[.val (.ref a0), .val (.int (1 : Int32)), .val (.ref w_MIR), .val (.ref b2)] [(.int (1 : Int32)), (.int (0 : Int32)), (.ref b2), (.int (0 : Int32)), (.ref a0)])) _
    refine st5 _ ?_
    show Steps p.tables e below (T5.setTop (mkF m 38 #[.val (.ref a0), .val (.int (1 : Int32)), .val (.ref w_MIR), .val (.ref b2)] [])) _
    refine XS.aloadN X5.here hx rfl (hb hby d23_1_38) rfl rfl ?_
    show Steps p.tables e below (T5.setTop (mkF m 39 #[.val (.ref a0), .val (.int (1 : Int32)), .val (.ref w_MIR), .val (.ref b2)] [(.ref b2)])) _
    exact retOut X5 hx Bd.returns rfl (Or.inr (Or.inr (Or.inr (Or.inr ⟨rfl, rfl, rfl⟩)))) (hb hby d23_1_39) hr
  · show Q23_1 Z a0 w_STRING w_OBJECT w_INT w_MAP w_BIGDECIMAL w_DATE w_LONG w_LIST w_BOOLEAN w_DEFAULTCAPACITY_EMPTY_ELEMENTDATA c_DEFAULTCAPACITY_EMPTY_ELEMENTDATA w_EMPTY_LIST w_EMPTY w_ELEMS c_ELEMS w_MIR ka0 el0 h0 n0 _ T5.heap _
    rw [e5]
    exact ⟨b2, k2, rfl, N5, O5, K5, sz_b2, E_b2, Ovr_b2, V_b2⟩

theorem d22_1_0 : decode jdk_65_method_119_code 0 = .ok (.aload_n 0, 1) := by decide +kernel
theorem d22_1_1 : decode jdk_65_method_119_code 1 = .ok (.iload_n 1, 1) := by decide +kernel
theorem d22_1_2 : decode jdk_65_method_119_code 2 = .ok (.aload_n 0, 1) := by decide +kernel
theorem d22_1_3 : decode jdk_65_method_119_code 3 = .ok (.invokevirtual 86, 3) := by decide +kernel
theorem d22_1_6 : decode jdk_65_method_119_code 6 = .ok (.invokestatic 300, 3) := by decide +kernel
theorem d22_1_9 : decode jdk_65_method_119_code 9 = .ok (.areturn, 1) := by decide +kernel
theorem pn_22_1 : plainName "java/util/Arrays" = true := by first | (simp [plainName, overriddenIn]; done) | decide +kernel
theorem pd_22_1_6 : parseMethodDescriptor "([Ljava/lang/Object;ILjava/lang/Class;)[Ljava/lang/Object;" = some ⟨[(.array (.object "java/lang/Object")), .int, (.object "java/lang/Class")], some (.array (.object "java/lang/Object"))⟩ := by decide +kernel
theorem ef_22_1 (m : MethodId) (a0 : Addr) : entryFrame m #[(.ref a0), (.int (1 : Int32))] 2 = mkF m 0 #[.val (.ref a0), .val (.int (1 : Int32))] [] := by first | (simp [entryFrame, mkF, argsToLocals, Value.category]; done) | rfl
def Q22_1 (Z : State) (a0 : Addr) (w_STRING : Addr) (w_OBJECT : Addr) (w_INT : Addr) (w_MAP : Addr) (w_BIGDECIMAL : Addr) (w_DATE : Addr) (w_LONG : Addr) (w_LIST : Addr) (w_BOOLEAN : Addr) (w_DEFAULTCAPACITY_EMPTY_ELEMENTDATA : Addr) (c_DEFAULTCAPACITY_EMPTY_ELEMENTDATA : Cell) (w_EMPTY_LIST : Addr) (w_EMPTY : Addr) (w_ELEMS : Addr) (c_ELEMS : Cell) (w_MIR : Addr) (ka0 : ClassId) (el0 : Addr) (h0 : Heap) (n0 : Nat) (v : Option Value) (h : Heap) (L : List Loc) : Prop := ∃ (b2_2 : Addr) (k2_2 : ClassId), v = some (.ref b2_2) ∧ Fr n0 L ∧ Old Z n0 h ∧ Keep h0 h [] ∧ h0.size ≤ b2_2 ∧ (Exa Z h b2_2 "[Ljava/lang/Object;") ∧ (Ovr Z k2_2 "java/lang/Object") ∧ (Arv Z h b2_2 k2_2 (.object "java/lang/Object") (1 : Int32) [(.ref el0)] .null)
set_option maxRecDepth 65536 in
set_option maxHeartbeats 40000000 in
theorem rm22_1 (l : Launch) (Z : State) (ar0 : Array Value) (hw : ∀ d ∈ tables_1, d.before ar0 Z = true) (ws : List Jvm.Cond) (a0 : Addr) (w_STRING : Addr) (w_OBJECT : Addr) (w_INT : Addr) (w_MAP : Addr) (w_BIGDECIMAL : Addr) (w_DATE : Addr) (w_LONG : Addr) (w_LIST : Addr) (w_BOOLEAN : Addr) (w_DEFAULTCAPACITY_EMPTY_ELEMENTDATA : Addr) (c_DEFAULTCAPACITY_EMPTY_ELEMENTDATA : Cell) (w_EMPTY_LIST : Addr) (w_EMPTY : Addr) (w_ELEMS : Addr) (c_ELEMS : Cell) (w_MIR : Addr) (ka0 : ClassId) (el0 : Addr) (h0 : Heap) (n0 : Nat) (O0 : Old Z n0 h0) (F : Fx Z Z.heap w_STRING w_OBJECT w_INT w_MAP w_BIGDECIMAL w_DATE w_LONG w_LIST w_BOOLEAN w_DEFAULTCAPACITY_EMPTY_ELEMENTDATA c_DEFAULTCAPACITY_EMPTY_ELEMENTDATA w_EMPTY_LIST w_EMPTY w_ELEMS c_ELEMS w_MIR) (V_a00 : Arv Z h0 a0 ka0 (.object "java/lang/Object") (10 : Int32) [(.ref el0), .null, .null, .null, .null, .null, .null, .null, .null, .null] .null) (E_a00 : Exa Z h0 a0 "[Ljava/lang/Object;") (Ovr_a00 : Ovr Z ka0 "java/lang/Object") (E_el00 : Exa Z h0 el0 "com/example/declared_endpoints/declaredendpoints/model/FieldType$Container") :
    MetFree l (⟨"java/util/Arrays", "copyOf", "([Ljava/lang/Object;I)[Ljava/lang/Object;"⟩ : MethodName) (head1 ((Jvm.Cond.code (⟨"java/util/Arrays", "copyOf", "([Ljava/lang/Object;I)[Ljava/lang/Object;"⟩ : MethodName) jdk_65_method_119_code 2 (some (.array (.object "java/lang/Object")))) :: ws) ({ frames := 2, cells := 1, slots := 1, locals := 33 } : Room)) (fun a U => a = #[(.ref a0), (.int (1 : Int32))] ∧ Z.Warmed39 U.vm ∧ U.heap = h0) (fun _ _ _ _ _ => True) (fun _ U o U' => ∃ v L, o = .returned v ∧ Q22_1 Z a0 w_STRING w_OBJECT w_INT w_MAP w_BIGDECIMAL w_DATE w_LONG w_LIST w_BOOLEAN w_DEFAULTCAPACITY_EMPTY_ELEMENTDATA c_DEFAULTCAPACITY_EMPTY_ELEMENTDATA w_EMPTY_LIST w_EMPTY w_ELEMS c_ELEMS w_MIR ka0 el0 h0 n0 v U'.heap L ∧ FrameEnd U o U' L ({ frames := 2, cells := 1, slots := 1, locals := 33 } : Room).cells ({ frames := 2, cells := 1, slots := 1, locals := 33 } : Room).slots) := by
  obtain ⟨S_STRING, E_STRING, S_OBJECT, E_OBJECT, F_ordinal_STRING, F_ordinal_OBJECT, S_INT, E_INT, F_ordinal_INT, S_MAP, E_MAP, S_BIGDECIMAL, E_BIGDECIMAL, S_DATE, E_DATE, S_LONG, E_LONG, F_ordinal_LONG, F_ordinal_BIGDECIMAL, S_LIST, E_LIST, S_BOOLEAN, E_BOOLEAN, F_ordinal_BOOLEAN, F_ordinal_DATE, S_DEFAULTCAPACITY_EMPTY_ELEMENTDATA, E_DEFAULTCAPACITY_EMPTY_ELEMENTDATA, A_DEFAULTCAPACITY_EMPTY_ELEMENTDATA, L_DEFAULTCAPACITY_EMPTY_ELEMENTDATA, S_EMPTY_LIST, E_EMPTY_LIST, S_EMPTY, E_EMPTY, F_elements_EMPTY_LIST, A_ELEMS, L_ELEMS, M_MIR⟩ := id F
  refine MetFree.of_bodySF (plainFor_of_name pn_22_1) hisR ?_
  intro p e s m args below meth c s₁ Bd hml0 hP hK
  obtain ⟨rfl, hZ, hh⟩ := hP
  have hx := Bd.exec
  have hby := Bd.bytes
  have hml : c.maxLocals = 2 := hml0
  have hown : s.vm.findClass "java/util/Arrays" = some m.cls := findClass_of_methodNamed Bd.named
  have hnm := (name_of_methodNamed Bd.named Bd.method).1
  have X0 : Stand p l e ({ frames := 2, cells := 1, slots := 1, locals := 33 } : Room) s m #[(.ref a0), (.int (1 : Int32))] below meth c s₁ [] 0 0 := Stand.of_body Bd
  have e0 : s₁.heap = h0 := by rw [← hh, Bd.state]; rfl
  have N0 := Fr.nil n0
  have K0 : Keep h0 h0 [] := Keep.refl _ _
  have pre0 : ∀ t, Steps p.tables e below (s₁.setTop (mkF m 0 #[.val (.ref a0), .val (.int (1 : Int32))] [])) t → Steps p.tables e below (s₁.setTop (entryFrame m #[(.ref a0), (.int (1 : Int32))] 2)) t := fun t k => castTop (ef_22_1 m a0) k
  have V_a0 := V_a00
  have E_a0 := E_a00
  have Ovr_a0 := Ovr_a00
  have E_el0 := E_el00
  obtain ⟨T1, X1, e1, st1⟩ := own_gcls X0 hx hZ hown (hw _ (List.mem_of_getElem? (i := 161) rfl)) (hw _ (List.mem_of_getElem? (i := 162) rfl)) (hw _ (List.mem_of_getElem? (i := 70) rfl)) (hw _ (List.mem_of_getElem? (i := 164) rfl)) (hw _ (List.mem_of_getElem? (i := 163) rfl)) (hw _ (List.mem_of_getElem? (i := 165) rfl)) e0 E_a0 M_MIR (g := (mkF m 3 #[.val (.ref a0), .val (.int (1 : Int32))] [(.ref a0), (.int (1 : Int32)), (.ref a0)])) rfl (by rw [hml]; rfl) rfl (hb hby d22_1_3) (by decide) (W := 2) (by show 2 * 0 + _ ≤ _; exact Nat.le_of_eq rfl) (by decide)
  obtain ⟨_, _, ⟨T2, L2, k2, n2⟩, -, X2, ⟨Lc2, hQ2, l2, y2, z2⟩, st2⟩ := Jvm.LawKit.callS X1 hx (y := (⟨"java/util/Arrays", "copyOf", "([Ljava/lang/Object;ILjava/lang/Class;)[Ljava/lang/Object;"⟩ : MethodName)) hown (mvT hZ (hw _ (List.mem_of_getElem? (i := 167) rfl))) (mvT hZ (hw _ (List.mem_of_getElem? (i := 168) rfl))) (mvT hZ (hw _ (List.mem_of_getElem? (i := 159) rfl))) (mvT hZ (hw _ (List.mem_of_getElem? (i := 169) rfl))) (by decide) (backOf (W := 0) (rm23_1 l Z ar0 hw [] a0 w_STRING w_OBJECT w_INT w_MAP w_BIGDECIMAL w_DATE w_LONG w_LIST w_BOOLEAN w_DEFAULTCAPACITY_EMPTY_ELEMENTDATA c_DEFAULTCAPACITY_EMPTY_ELEMENTDATA w_EMPTY_LIST w_EMPTY w_ELEMS c_ELEMS w_MIR ka0 el0 h0 n0 O0 F V_a0 E_a0 Ovr_a0 E_el0) hZ (hw _ (List.mem_of_getElem? (i := 169) rfl)) (hw _ (List.mem_of_getElem? (i := 159) rfl)) (by decide) (by decide)) (g := (mkF m 6 #[.val (.ref a0), .val (.int (1 : Int32))] [(.ref w_MIR), (.int (1 : Int32)), (.ref a0)])) rfl (by rw [hml]; rfl) (argsL := [(.ref a0), (.int (1 : Int32)), (.ref w_MIR)]) (rest := []) (lenOf pd_22_1_6 rfl) rfl (by show 2 * 0 + _ ≤ _; exact Nat.le_of_eq rfl) (hb hby d22_1_6) (fun _ _ => ⟨rfl, e1, (by decide : 0 + 1 ≤ _), (by decide : 0 + 1 ≤ _)⟩)
  dsimp only [Pt.U, Pt.locs, Pt.cells, Pt.slots] at X2 l2 y2 z2 st2 hQ2
  subst l2 y2 z2
  obtain ⟨b2_2, k2_2, rfl, N2q, O2, Kc2, sz2_0, fq2_0, fq2_1, fq2_2⟩ := hQ2
  have N2 := Fr.app N0 N2q
  have ne_a0_b2_2 : a0 ≠ b2_2 := Nat.ne_of_lt (Nat.lt_of_lt_of_le V_a0.lt sz2_0)
  have ne_el0_b2_2 : el0 ≠ b2_2 := Nat.ne_of_lt (Nat.lt_of_lt_of_le E_el0.lt sz2_0)
  have g_b2_2 : n0 ≤ b2_2 := Nat.le_trans (own_old_le O0) sz2_0
  have sz_b2_2 : h0.size ≤ b2_2 := Nat.le_trans K0.1 sz2_0
  have K2 : Keep h0 T2.heap [] := K0.trans Kc2 all0
  have V_a0 := (V_a0.keep Kc2 nin0)
  have E_a0 := (E_a0.keep Kc2)
  have E_el0 := (E_el0.keep Kc2)
  have E_b2_2 := fq2_0
  have Ovr_b2_2 := fq2_1
  have V_b2_2 := fq2_2
  obtain ⟨fs, hr, hrun, hended, hW, hsame⟩ := X2.leave (v := some (.ref b2_2)) (fun h => by rw [Bd.returns] at h; cases h)
  refine ⟨_, _, pre0 _ ?_, hrun, hended, _, _, rfl, ?_, ⟨_, rfl⟩, hW, hsame.mono (by decide) (by decide)⟩
  · show Steps p.tables e below (s₁.setTop (mkF m 0 #[.val (.ref a0), .val (.int (1 : Int32))] [])) _
    refine XS.aloadN X0.here hx rfl (hb hby d22_1_0) rfl rfl ?_
    show Steps p.tables e below (s₁.setTop (mkF m 1 #[.val (.ref a0), .val (.int (1 : Int32))] [(.ref a0)])) _
    refine XS.iloadN X0.here hx rfl (hb hby d22_1_1) rfl ?_
    show Steps p.tables e below (s₁.setTop (mkF m 2 #[.val (.ref a0), .val (.int (1 : Int32))] [(.int (1 : Int32)), (.ref a0)])) _
    refine XS.aloadN X0.here hx rfl (hb hby d22_1_2) rfl rfl ?_
    show Steps p.tables e below (s₁.setTop (mkF m 3 #[.val (.ref a0), .val (.int (1 : Int32))] [(.ref a0), (.int (1 : Int32)), (.ref a0)])) _
    refine st1 _ ?_
    show Steps p.tables e below (T1.setTop (mkF m 6 #[.val (.ref a0), .val (.int (1 : Int32))] [(.ref w_MIR), (.int (1 : Int32)), (.ref a0)])) _
    refine st2 _ ?_
    show Steps p.tables e below (T2.setTop (mkF m 9 #[.val (.ref a0), .val (.int (1 : Int32))] [(.ref b2_2)])) _
    exact retOut X2 hx Bd.returns rfl (Or.inr (Or.inr (Or.inr (Or.inr ⟨rfl, rfl, rfl⟩)))) (hb hby d22_1_9) hr
  · show Q22_1 Z a0 w_STRING w_OBJECT w_INT w_MAP w_BIGDECIMAL w_DATE w_LONG w_LIST w_BOOLEAN w_DEFAULTCAPACITY_EMPTY_ELEMENTDATA c_DEFAULTCAPACITY_EMPTY_ELEMENTDATA w_EMPTY_LIST w_EMPTY w_ELEMS c_ELEMS w_MIR ka0 el0 h0 n0 _ T2.heap _
    skip
    exact ⟨b2_2, k2_2, rfl, N2, O2, K2, sz_b2_2, E_b2_2, Ovr_b2_2, V_b2_2⟩

theorem d21_1_0 : decode jdk_38_method_16_code 0 = .ok (.aload_n 0, 1) := by decide +kernel
theorem d21_1_1 : decode jdk_38_method_16_code 1 = .ok (.getfield 9, 3) := by decide +kernel
theorem d21_1_4 : decode jdk_38_method_16_code 4 = .ok (.aload_n 0, 1) := by decide +kernel
theorem d21_1_5 : decode jdk_38_method_16_code 5 = .ok (.getfield 48, 3) := by decide +kernel
theorem d21_1_8 : decode jdk_38_method_16_code 8 = .ok (.invokestatic 66, 3) := by decide +kernel
theorem d21_1_11 : decode jdk_38_method_16_code 11 = .ok (.areturn, 1) := by decide +kernel
theorem pn_21_1 : plainName "java/util/ArrayList" = true := by first | (simp [plainName, overriddenIn]; done) | decide +kernel
theorem pd_21_1_8 : parseMethodDescriptor "([Ljava/lang/Object;I)[Ljava/lang/Object;" = some ⟨[(.array (.object "java/lang/Object")), .int], some (.array (.object "java/lang/Object"))⟩ := by decide +kernel
theorem ef_21_1 (m : MethodId) (a0 : Addr) : entryFrame m #[(.ref a0)] 1 = mkF m 0 #[.val (.ref a0)] [] := by first | (simp [entryFrame, mkF, argsToLocals, Value.category]; done) | rfl
def Q21_1 (Z : State) (a0 : Addr) (w_STRING : Addr) (w_OBJECT : Addr) (w_INT : Addr) (w_MAP : Addr) (w_BIGDECIMAL : Addr) (w_DATE : Addr) (w_LONG : Addr) (w_LIST : Addr) (w_BOOLEAN : Addr) (w_DEFAULTCAPACITY_EMPTY_ELEMENTDATA : Addr) (c_DEFAULTCAPACITY_EMPTY_ELEMENTDATA : Cell) (w_EMPTY_LIST : Addr) (w_EMPTY : Addr) (w_ELEMS : Addr) (c_ELEMS : Cell) (w_MIR : Addr) (u_modCount_a0 : Value) (xa : Addr) (kxa : ClassId) (el0 : Addr) (h0 : Heap) (n0 : Nat) (v : Option Value) (h : Heap) (L : List Loc) : Prop := ∃ (b3_2_2 : Addr) (k2_2_3 : ClassId), v = some (.ref b3_2_2) ∧ Fr n0 L ∧ Old Z n0 h ∧ Keep h0 h [] ∧ h0.size ≤ b3_2_2 ∧ (Exa Z h b3_2_2 "[Ljava/lang/Object;") ∧ (Ovr Z k2_2_3 "java/lang/Object") ∧ (Arv Z h b3_2_2 k2_2_3 (.object "java/lang/Object") (1 : Int32) [(.ref el0)] .null)
set_option maxRecDepth 65536 in
set_option maxHeartbeats 40000000 in
theorem rm21_1 (l : Launch) (Z : State) (ar0 : Array Value) (hw : ∀ d ∈ tables_1, d.before ar0 Z = true) (ws : List Jvm.Cond) (a0 : Addr) (w_STRING : Addr) (w_OBJECT : Addr) (w_INT : Addr) (w_MAP : Addr) (w_BIGDECIMAL : Addr) (w_DATE : Addr) (w_LONG : Addr) (w_LIST : Addr) (w_BOOLEAN : Addr) (w_DEFAULTCAPACITY_EMPTY_ELEMENTDATA : Addr) (c_DEFAULTCAPACITY_EMPTY_ELEMENTDATA : Cell) (w_EMPTY_LIST : Addr) (w_EMPTY : Addr) (w_ELEMS : Addr) (c_ELEMS : Cell) (w_MIR : Addr) (u_modCount_a0 : Value) (xa : Addr) (kxa : ClassId) (el0 : Addr) (h0 : Heap) (n0 : Nat) (O0 : Old Z n0 h0) (F : Fx Z Z.heap w_STRING w_OBJECT w_INT w_MAP w_BIGDECIMAL w_DATE w_LONG w_LIST w_BOOLEAN w_DEFAULTCAPACITY_EMPTY_ELEMENTDATA c_DEFAULTCAPACITY_EMPTY_ELEMENTDATA w_EMPTY_LIST w_EMPTY w_ELEMS c_ELEMS w_MIR) (E_a00 : Exa Z h0 a0 "java/util/ArrayList") (F_modCount_a00 : Fld Z h0 a0 "java/util/AbstractList" "modCount" "I" u_modCount_a0) (F_elementData_a00 : Fld Z h0 a0 "java/util/ArrayList" "elementData" "[Ljava/lang/Object;" (.ref xa)) (F_size_a00 : Fld Z h0 a0 "java/util/ArrayList" "size" "I" (.int (1 : Int32))) (V_xa0 : Arv Z h0 xa kxa (.object "java/lang/Object") (10 : Int32) [(.ref el0), .null, .null, .null, .null, .null, .null, .null, .null, .null] .null) (E_xa0 : Exa Z h0 xa "[Ljava/lang/Object;") (Ovr_xa0 : Ovr Z kxa "java/lang/Object") (E_el00 : Exa Z h0 el0 "com/example/declared_endpoints/declaredendpoints/model/FieldType$Container") :
    MetFree l (⟨"java/util/ArrayList", "toArray", "()[Ljava/lang/Object;"⟩ : MethodName) (head1 ((Jvm.Cond.code (⟨"java/util/ArrayList", "toArray", "()[Ljava/lang/Object;"⟩ : MethodName) jdk_38_method_16_code 1 (some (.array (.object "java/lang/Object")))) :: ws) ({ frames := 3, cells := 1, slots := 1, locals := 46 } : Room)) (fun a U => a = #[(.ref a0)] ∧ Z.Warmed39 U.vm ∧ U.heap = h0) (fun _ _ _ _ _ => True) (fun _ U o U' => ∃ v L, o = .returned v ∧ Q21_1 Z a0 w_STRING w_OBJECT w_INT w_MAP w_BIGDECIMAL w_DATE w_LONG w_LIST w_BOOLEAN w_DEFAULTCAPACITY_EMPTY_ELEMENTDATA c_DEFAULTCAPACITY_EMPTY_ELEMENTDATA w_EMPTY_LIST w_EMPTY w_ELEMS c_ELEMS w_MIR u_modCount_a0 xa kxa el0 h0 n0 v U'.heap L ∧ FrameEnd U o U' L ({ frames := 3, cells := 1, slots := 1, locals := 46 } : Room).cells ({ frames := 3, cells := 1, slots := 1, locals := 46 } : Room).slots) := by
  obtain ⟨S_STRING, E_STRING, S_OBJECT, E_OBJECT, F_ordinal_STRING, F_ordinal_OBJECT, S_INT, E_INT, F_ordinal_INT, S_MAP, E_MAP, S_BIGDECIMAL, E_BIGDECIMAL, S_DATE, E_DATE, S_LONG, E_LONG, F_ordinal_LONG, F_ordinal_BIGDECIMAL, S_LIST, E_LIST, S_BOOLEAN, E_BOOLEAN, F_ordinal_BOOLEAN, F_ordinal_DATE, S_DEFAULTCAPACITY_EMPTY_ELEMENTDATA, E_DEFAULTCAPACITY_EMPTY_ELEMENTDATA, A_DEFAULTCAPACITY_EMPTY_ELEMENTDATA, L_DEFAULTCAPACITY_EMPTY_ELEMENTDATA, S_EMPTY_LIST, E_EMPTY_LIST, S_EMPTY, E_EMPTY, F_elements_EMPTY_LIST, A_ELEMS, L_ELEMS, M_MIR⟩ := id F
  refine MetFree.of_bodySF (plainFor_of_name pn_21_1) hisR ?_
  intro p e s m args below meth c s₁ Bd hml0 hP hK
  obtain ⟨rfl, hZ, hh⟩ := hP
  have hx := Bd.exec
  have hby := Bd.bytes
  have hml : c.maxLocals = 1 := hml0
  have hown : s.vm.findClass "java/util/ArrayList" = some m.cls := findClass_of_methodNamed Bd.named
  have hnm := (name_of_methodNamed Bd.named Bd.method).1
  have X0 : Stand p l e ({ frames := 3, cells := 1, slots := 1, locals := 46 } : Room) s m #[(.ref a0)] below meth c s₁ [] 0 0 := Stand.of_body Bd
  have e0 : s₁.heap = h0 := by rw [← hh, Bd.state]; rfl
  have N0 := Fr.nil n0
  have K0 : Keep h0 h0 [] := Keep.refl _ _
  have pre0 : ∀ t, Steps p.tables e below (s₁.setTop (mkF m 0 #[.val (.ref a0)] [])) t → Steps p.tables e below (s₁.setTop (entryFrame m #[(.ref a0)] 1)) t := fun t k => castTop (ef_21_1 m a0) k
  have E_a0 := E_a00
  have F_modCount_a0 := F_modCount_a00
  have F_elementData_a0 := F_elementData_a00
  have F_size_a0 := F_size_a00
  have V_xa := V_xa0
  have E_xa := E_xa0
  have Ovr_xa := Ovr_xa0
  have E_el0 := E_el00
  obtain ⟨T1, X1, e1, st1⟩ := getF X0 hx hZ hown (host := "") (Or.inl (hw _ (List.mem_of_getElem? (i := 25) rfl))) Via.refl e0 F_elementData_a0 (g := (mkF m 1 #[.val (.ref a0)] [(.ref a0)])) rfl rfl (hb hby d21_1_1)
  obtain ⟨T2, X2, e2, st2⟩ := getF X1 hx hZ hown (host := "") (Or.inl (hw _ (List.mem_of_getElem? (i := 81) rfl))) Via.refl e1 F_size_a0 (g := (mkF m 5 #[.val (.ref a0)] [(.ref a0), (.ref xa)])) rfl rfl (hb hby d21_1_5)
  obtain ⟨_, _, ⟨T3, L3, k3, n3⟩, -, X3, ⟨Lc3, hQ3, l3, y3, z3⟩, st3⟩ := Jvm.LawKit.callS X2 hx (y := (⟨"java/util/Arrays", "copyOf", "([Ljava/lang/Object;I)[Ljava/lang/Object;"⟩ : MethodName)) hown (mvT hZ (hw _ (List.mem_of_getElem? (i := 157) rfl))) (mvT hZ (hw _ (List.mem_of_getElem? (i := 158) rfl))) (mvT hZ (hw _ (List.mem_of_getElem? (i := 159) rfl))) (mvT hZ (hw _ (List.mem_of_getElem? (i := 160) rfl))) (by decide) (backOf (W := 0) (rm22_1 l Z ar0 hw [] xa w_STRING w_OBJECT w_INT w_MAP w_BIGDECIMAL w_DATE w_LONG w_LIST w_BOOLEAN w_DEFAULTCAPACITY_EMPTY_ELEMENTDATA c_DEFAULTCAPACITY_EMPTY_ELEMENTDATA w_EMPTY_LIST w_EMPTY w_ELEMS c_ELEMS w_MIR kxa el0 h0 n0 O0 F V_xa E_xa Ovr_xa E_el0) hZ (hw _ (List.mem_of_getElem? (i := 160) rfl)) (hw _ (List.mem_of_getElem? (i := 159) rfl)) (by decide) (by decide)) (g := (mkF m 8 #[.val (.ref a0)] [(.int (1 : Int32)), (.ref xa)])) rfl (by rw [hml]; rfl) (argsL := [(.ref xa), (.int (1 : Int32))]) (rest := []) (lenOf pd_21_1_8 rfl) rfl (by show 2 * 0 + _ ≤ _; exact Nat.le_of_eq rfl) (hb hby d21_1_8) (fun _ _ => ⟨rfl, e2, (by decide : 0 + 1 ≤ _), (by decide : 0 + 1 ≤ _)⟩)
  dsimp only [Pt.U, Pt.locs, Pt.cells, Pt.slots] at X3 l3 y3 z3 st3 hQ3
  subst l3 y3 z3
  obtain ⟨b3_2_2, k2_2_3, rfl, N3q, O3, Kc3, sz3_0, fq3_0, fq3_1, fq3_2⟩ := hQ3
  have N3 := Fr.app N0 N3q
  have ne_a0_b3_2_2 : a0 ≠ b3_2_2 := Nat.ne_of_lt (Nat.lt_of_lt_of_le E_a0.lt sz3_0)
  have ne_xa_b3_2_2 : xa ≠ b3_2_2 := Nat.ne_of_lt (Nat.lt_of_lt_of_le V_xa.lt sz3_0)
  have ne_el0_b3_2_2 : el0 ≠ b3_2_2 := Nat.ne_of_lt (Nat.lt_of_lt_of_le E_el0.lt sz3_0)
  have g_b3_2_2 : n0 ≤ b3_2_2 := Nat.le_trans (own_old_le O0) sz3_0
  have sz_b3_2_2 : h0.size ≤ b3_2_2 := Nat.le_trans K0.1 sz3_0
  have K3 : Keep h0 T3.heap [] := K0.trans Kc3 all0
  have E_a0 := (E_a0.keep Kc3)
  have F_modCount_a0 := (F_modCount_a0.keep Kc3 nin0)
  have F_elementData_a0 := (F_elementData_a0.keep Kc3 nin0)
  have F_size_a0 := (F_size_a0.keep Kc3 nin0)
  have V_xa := (V_xa.keep Kc3 nin0)
  have E_xa := (E_xa.keep Kc3)
  have E_el0 := (E_el0.keep Kc3)
  have E_b3_2_2 := fq3_0
  have Ovr_b3_2_2 := fq3_1
  have V_b3_2_2 := fq3_2
  obtain ⟨fs, hr, hrun, hended, hW, hsame⟩ := X3.leave (v := some (.ref b3_2_2)) (fun h => by rw [Bd.returns] at h; cases h)
  refine ⟨_, _, pre0 _ ?_, hrun, hended, _, _, rfl, ?_, ⟨_, rfl⟩, hW, hsame.mono (by decide) (by decide)⟩
  · show Steps p.tables e below (s₁.setTop (mkF m 0 #[.val (.ref a0)] [])) _
    refine XS.aloadN X0.here hx rfl (hb hby d21_1_0) rfl rfl ?_
    show Steps p.tables e below (s₁.setTop (mkF m 1 #[.val (.ref a0)] [(.ref a0)])) _
    refine st1 _ ?_
    show Steps p.tables e below (T1.setTop (mkF m 4 #[.val (.ref a0)] [(.ref xa)])) _
    refine XS.aloadN X1.here hx rfl (hb hby d21_1_4) rfl rfl ?_
    show Steps p.tables e below (T1.setTop (mkF m 5 #[.val (.ref a0)] [(.ref a0), (.ref xa)])) _
    refine st2 _ ?_
    show Steps p.tables e below (T2.setTop (mkF m 8 #[.val (.ref a0)] [(.int (1 : Int32)), (.ref xa)])) _
    refine st3 _ ?_
    show Steps p.tables e below (T3.setTop (mkF m 11 #[.val (.ref a0)] [(.ref b3_2_2)])) _
    exact retOut X3 hx Bd.returns rfl (Or.inr (Or.inr (Or.inr (Or.inr ⟨rfl, rfl, rfl⟩)))) (hb hby d21_1_11) hr
  · show Q21_1 Z a0 w_STRING w_OBJECT w_INT w_MAP w_BIGDECIMAL w_DATE w_LONG w_LIST w_BOOLEAN w_DEFAULTCAPACITY_EMPTY_ELEMENTDATA c_DEFAULTCAPACITY_EMPTY_ELEMENTDATA w_EMPTY_LIST w_EMPTY w_ELEMS c_ELEMS w_MIR u_modCount_a0 xa kxa el0 h0 n0 _ T3.heap _
    skip
    exact ⟨b3_2_2, k2_2_3, rfl, N3, O3, K3, sz_b3_2_2, E_b3_2_2, Ovr_b3_2_2, V_b3_2_2⟩

theorem d25_1_0 : decode jdk_40_method_47_code 0 = .ok (.aload_n 0, 1) := by decide +kernel
theorem d25_1_1 : decode jdk_40_method_47_code 1 = .ok (.arraylength, 1) := by decide +kernel
theorem d25_1_2 : decode jdk_40_method_47_code 2 = .ok (.tableswitch 57 0 2 #[26, 32, 43], 26) := by decide +kernel
theorem d25_1_34 : decode jdk_40_method_47_code 34 = .ok (.new 96, 3) := by decide +kernel
theorem d25_1_37 : decode jdk_40_method_47_code 37 = .ok (.dup, 1) := by decide +kernel
theorem d25_1_38 : decode jdk_40_method_47_code 38 = .ok (.aload_n 0, 1) := by decide +kernel
theorem d25_1_39 : decode jdk_40_method_47_code 39 = .ok (.iconst 0, 1) := by decide +kernel
theorem d25_1_40 : decode jdk_40_method_47_code 40 = .ok (.aaload, 1) := by decide +kernel
theorem d25_1_41 : decode jdk_40_method_47_code 41 = .ok (.invokespecial 98, 3) := by decide +kernel
theorem d25_1_44 : decode jdk_40_method_47_code 44 = .ok (.areturn, 1) := by decide +kernel
theorem pn_25_1 : plainName "java/util/List" = true := by first | (simp [plainName, overriddenIn]; done) | decide +kernel
theorem pd_25_1_41 : parseMethodDescriptor "(Ljava/lang/Object;)V" = some ⟨[(.object "java/lang/Object")], none⟩ := by decide +kernel
theorem ef_25_1 (m : MethodId) (a0 : Addr) : entryFrame m #[(.ref a0)] 2 = mkF m 0 #[.val (.ref a0), .unset] [] := by first | (simp [entryFrame, mkF, argsToLocals, Value.category]; done) | rfl
def Q25_1 (Z : State) (a0 : Addr) (w_STRING : Addr) (w_OBJECT : Addr) (w_INT : Addr) (w_MAP : Addr) (w_BIGDECIMAL : Addr) (w_DATE : Addr) (w_LONG : Addr) (w_LIST : Addr) (w_BOOLEAN : Addr) (w_DEFAULTCAPACITY_EMPTY_ELEMENTDATA : Addr) (c_DEFAULTCAPACITY_EMPTY_ELEMENTDATA : Cell) (w_EMPTY_LIST : Addr) (w_EMPTY : Addr) (w_ELEMS : Addr) (c_ELEMS : Cell) (w_MIR : Addr) (ka0 : ClassId) (el0 : Addr) (h0 : Heap) (n0 : Nat) (v : Option Value) (h : Heap) (L : List Loc) : Prop := ∃ (b2 : Addr) , v = some (.ref b2) ∧ Fr n0 L ∧ Old Z n0 h ∧ Keep h0 h [] ∧ h0.size ≤ b2 ∧ (Exa Z h b2 "java/util/ImmutableCollections$List12") ∧ (Fld Z h b2 "java/util/ImmutableCollections$List12" "e0" "Ljava/lang/Object;" (.ref el0)) ∧ (Fld Z h b2 "java/util/ImmutableCollections$List12" "e1" "Ljava/lang/Object;" (.ref w_EMPTY))
set_option maxRecDepth 65536 in
set_option maxHeartbeats 40000000 in
theorem rm25_1 (l : Launch) (Z : State) (ar0 : Array Value) (hw : ∀ d ∈ tables_1, d.before ar0 Z = true) (ws : List Jvm.Cond) (a0 : Addr) (w_STRING : Addr) (w_OBJECT : Addr) (w_INT : Addr) (w_MAP : Addr) (w_BIGDECIMAL : Addr) (w_DATE : Addr) (w_LONG : Addr) (w_LIST : Addr) (w_BOOLEAN : Addr) (w_DEFAULTCAPACITY_EMPTY_ELEMENTDATA : Addr) (c_DEFAULTCAPACITY_EMPTY_ELEMENTDATA : Cell) (w_EMPTY_LIST : Addr) (w_EMPTY : Addr) (w_ELEMS : Addr) (c_ELEMS : Cell) (w_MIR : Addr) (ka0 : ClassId) (el0 : Addr) (h0 : Heap) (n0 : Nat) (O0 : Old Z n0 h0) (F : Fx Z Z.heap w_STRING w_OBJECT w_INT w_MAP w_BIGDECIMAL w_DATE w_LONG w_LIST w_BOOLEAN w_DEFAULTCAPACITY_EMPTY_ELEMENTDATA c_DEFAULTCAPACITY_EMPTY_ELEMENTDATA w_EMPTY_LIST w_EMPTY w_ELEMS c_ELEMS w_MIR) (V_a00 : Arv Z h0 a0 ka0 (.object "java/lang/Object") (1 : Int32) [(.ref el0)] .null) (E_a00 : Exa Z h0 a0 "[Ljava/lang/Object;") (Ovr_a00 : Ovr Z ka0 "java/lang/Object") (E_el00 : Exa Z h0 el0 "com/example/declared_endpoints/declaredendpoints/model/FieldType$Container") :
    MetFree l (⟨"java/util/List", "of", "([Ljava/lang/Object;)Ljava/util/List;"⟩ : MethodName) (head1 ((Jvm.Cond.code (⟨"java/util/List", "of", "([Ljava/lang/Object;)Ljava/util/List;"⟩ : MethodName) jdk_40_method_47_code 2 (some (.object "java/util/List"))) :: ws) ({ frames := 5, cells := 1, slots := 2, locals := 62 } : Room)) (fun a U => a = #[(.ref a0)] ∧ Z.Warmed39 U.vm ∧ U.heap = h0) (fun _ _ _ _ _ => True) (fun _ U o U' => ∃ v L, o = .returned v ∧ Q25_1 Z a0 w_STRING w_OBJECT w_INT w_MAP w_BIGDECIMAL w_DATE w_LONG w_LIST w_BOOLEAN w_DEFAULTCAPACITY_EMPTY_ELEMENTDATA c_DEFAULTCAPACITY_EMPTY_ELEMENTDATA w_EMPTY_LIST w_EMPTY w_ELEMS c_ELEMS w_MIR ka0 el0 h0 n0 v U'.heap L ∧ FrameEnd U o U' L ({ frames := 5, cells := 1, slots := 2, locals := 62 } : Room).cells ({ frames := 5, cells := 1, slots := 2, locals := 62 } : Room).slots) := by
  obtain ⟨S_STRING, E_STRING, S_OBJECT, E_OBJECT, F_ordinal_STRING, F_ordinal_OBJECT, S_INT, E_INT, F_ordinal_INT, S_MAP, E_MAP, S_BIGDECIMAL, E_BIGDECIMAL, S_DATE, E_DATE, S_LONG, E_LONG, F_ordinal_LONG, F_ordinal_BIGDECIMAL, S_LIST, E_LIST, S_BOOLEAN, E_BOOLEAN, F_ordinal_BOOLEAN, F_ordinal_DATE, S_DEFAULTCAPACITY_EMPTY_ELEMENTDATA, E_DEFAULTCAPACITY_EMPTY_ELEMENTDATA, A_DEFAULTCAPACITY_EMPTY_ELEMENTDATA, L_DEFAULTCAPACITY_EMPTY_ELEMENTDATA, S_EMPTY_LIST, E_EMPTY_LIST, S_EMPTY, E_EMPTY, F_elements_EMPTY_LIST, A_ELEMS, L_ELEMS, M_MIR⟩ := id F
  refine MetFree.of_bodySF (plainFor_of_name pn_25_1) hisR ?_
  intro p e s m args below meth c s₁ Bd hml0 hP hK
  obtain ⟨rfl, hZ, hh⟩ := hP
  have hx := Bd.exec
  have hby := Bd.bytes
  have hml : c.maxLocals = 2 := hml0
  have hown : s.vm.findClass "java/util/List" = some m.cls := findClass_of_methodNamed Bd.named
  have hnm := (name_of_methodNamed Bd.named Bd.method).1
  have X0 : Stand p l e ({ frames := 5, cells := 1, slots := 2, locals := 62 } : Room) s m #[(.ref a0)] below meth c s₁ [] 0 0 := Stand.of_body Bd
  have e0 : s₁.heap = h0 := by rw [← hh, Bd.state]; rfl
  have N0 := Fr.nil n0
  have K0 : Keep h0 h0 [] := Keep.refl _ _
  have pre0 : ∀ t, Steps p.tables e below (s₁.setTop (mkF m 0 #[.val (.ref a0), .unset] [])) t → Steps p.tables e below (s₁.setTop (entryFrame m #[(.ref a0)] 2)) t := fun t k => castTop (ef_25_1 m a0) k
  have V_a0 := V_a00
  have E_a0 := E_a00
  have Ovr_a0 := Ovr_a00
  have E_el0 := E_el00
  obtain ⟨c1, Ar1, q1, S1, M1, Ha1, G1⟩ := id V_a0
  obtain ⟨T2, h2, X2, e2, E2, A2, D2, -, st2⟩ := newO X0 hx hZ hown (hw _ (List.mem_of_getElem? (i := 182) rfl)) (hw _ (List.mem_of_getElem? (i := 183) rfl)) (hw _ (List.mem_of_getElem? (i := 184) rfl)) e0 (g := (mkF m 34 #[.val (.ref a0), .unset] [])) rfl (hb hby d25_1_34) (by decide) (by decide)
  obtain ⟨b2, g2⟩ : ∃ z, z = h0.size := ⟨_, rfl⟩
  rw [← g2] at A2 D2 st2
  have ne_a0_b2 : a0 ≠ b2 := Nat.ne_of_lt (Nat.lt_of_lt_of_le V_a0.lt (Nat.le_of_eq g2.symm))
  have ne_el0_b2 : el0 ≠ b2 := Nat.ne_of_lt (Nat.lt_of_lt_of_le E_el0.lt (Nat.le_of_eq g2.symm))
  have g_b2 : n0 ≤ b2 := Nat.le_trans (own_old_le O0) (Nat.le_of_eq g2.symm)
  have sz_b2 : h0.size ≤ b2 := Nat.le_trans K0.1 (Nat.le_of_eq g2.symm)
  have O2 : Old Z n0 h2 := O0.ext E2
  have K2 : Keep h0 h2 [] := K0.ext E2
  have V_a0 := (V_a0.ext E2)
  have E_a0 := (E_a0.ext E2)
  have E_el0 := (E_el0.ext E2)
  have E_b2 := A2
  have F_e0_b2 : Fld Z h2 b2 "java/util/ImmutableCollections$List12" "e0" "Ljava/lang/Object;" .null := D2 (Or.inr (hw _ (List.mem_of_getElem? (i := 207) rfl))) (ty := (.object "java/lang/Object")) (by decide)
  have F_e1_b2 : Fld Z h2 b2 "java/util/ImmutableCollections$List12" "e1" "Ljava/lang/Object;" .null := D2 (Or.inr (hw _ (List.mem_of_getElem? (i := 209) rfl))) (ty := (.object "java/lang/Object")) (by decide)
  obtain ⟨c3, Ar3, q3, S3, M3, Ha3, G3⟩ := id V_a0
  have hin3 : ¬ ((0 : Int32) < 0 ∨ c3.slots.size ≤ ((0 : Int32)).toNatClampNeg) := inb_of S3 ⟨by decide, by decide⟩
  obtain ⟨_, _, ⟨T4, L4, k4, n4⟩, -, X4, ⟨Lc4, hQ4, l4, y4, z4⟩, st4⟩ := X2.specialBack hx (y := (⟨"java/util/ImmutableCollections$List12", "<init>", "(Ljava/lang/Object;)V"⟩ : MethodName)) rfl hown (mvT hZ (hw _ (List.mem_of_getElem? (i := 218) rfl))) (mvT hZ (hw _ (List.mem_of_getElem? (i := 219) rfl))) (mvT hZ (hw _ (List.mem_of_getElem? (i := 220) rfl))) (by decide) (backOf (W := 1) (rm31 l Z ar0 hw [] b2 el0 w_STRING w_OBJECT w_INT w_MAP w_BIGDECIMAL w_DATE w_LONG w_LIST w_BOOLEAN w_DEFAULTCAPACITY_EMPTY_ELEMENTDATA c_DEFAULTCAPACITY_EMPTY_ELEMENTDATA w_EMPTY_LIST w_EMPTY w_ELEMS c_ELEMS w_MIR .null .null h2 n0 O2 F E_b2 F_e0_b2 g_b2 F_e1_b2) hZ (hw _ (List.mem_of_getElem? (i := 220) rfl)) (hw _ (List.mem_of_getElem? (i := 184) rfl)) (by decide) (by decide)) (g := (mkF m 41 #[.val (.ref a0), .unset] [(.ref el0), (.ref b2), (.ref b2)])) rfl (by rw [hml]; rfl) (Steps.refl _) (a := b2) (argsL := [(.ref el0)]) (rest := [(.ref b2)]) (lenOf pd_25_1_41 rfl) rfl (by show 2 * 0 + _ ≤ _; exact Nat.le_of_eq rfl) (hb hby d25_1_41) (fun _ _ => ⟨rfl, e2, (by decide : 1 + 0 ≤ _), (by decide : 2 + 0 ≤ _)⟩)
  dsimp only [Pt.U, Pt.locs, Pt.cells, Pt.slots] at X4 l4 y4 z4 st4 hQ4
  subst l4 y4 z4
  obtain ⟨rfl, N4q, O4, Kc4, fq4_0, fq4_1⟩ := hQ4
  have N4 := Fr.app N0 N4q
  have K4 : Keep h0 T4.heap [] := K2.trans Kc4 (allS (Or.inr sz_b2) all0)
  have V_a0 := (V_a0.keep Kc4 (ninS ne_a0_b2 nin0))
  have E_a0 := (E_a0.keep Kc4)
  have E_el0 := (E_el0.keep Kc4)
  have E_b2 := (E_b2.keep Kc4)
  have F_e0_b2 := fq4_0
  have F_e1_b2 := fq4_1
  obtain ⟨fs, hr, hrun, hended, hW, hsame⟩ := X4.leave (v := some (.ref b2)) (fun h => by rw [Bd.returns] at h; cases h)
  refine ⟨_, _, pre0 _ ?_, hrun, hended, _, _, rfl, ?_, ⟨_, rfl⟩, hW, hsame.mono (by decide) (by decide)⟩
  · show Steps p.tables e below (s₁.setTop (mkF m 0 #[.val (.ref a0), .unset] [])) _
    refine XS.aloadN X0.here hx rfl (hb hby d25_1_0) rfl rfl ?_
    show Steps p.tables e below (s₁.setTop (mkF m 1 #[.val (.ref a0), .unset] [(.ref a0)])) _
    refine X0.arraylength hx (by rw [e0]; exact Ar1.1) (State.isArrayOf_alike hZ.alike Ar1.2.1) (g := (mkF m 1 #[.val (.ref a0), .unset] [(.ref a0)])) rfl rfl (hb hby d25_1_1) _ ?_
    rw [len_of S1 M1]
    show Steps p.tables e below (s₁.setTop (mkF m 2 #[.val (.ref a0), .unset] [(.int (1 : Int32))])) _
    refine XS.tswIn X0.here hx rfl (pc0 := 2) (pc' := 34) rfl (hb hby d25_1_2) rfl (by decide) rfl (by decide) (by decide) ?_
    show Steps p.tables e below (s₁.setTop (mkF m 34 #[.val (.ref a0), .unset] [])) _
    refine st2 _ ?_
    show Steps p.tables e below (T2.setTop (mkF m 37 #[.val (.ref a0), .unset] [(.ref b2)])) _
    refine XS.dup X2.here hx rfl (hb hby d25_1_37) rfl rfl ?_
    show Steps p.tables e below (T2.setTop (mkF m 38 #[.val (.ref a0), .unset] [(.ref b2), (.ref b2)])) _
    refine XS.aloadN X2.here hx rfl (hb hby d25_1_38) rfl rfl ?_
    show Steps p.tables e below (T2.setTop (mkF m 39 #[.val (.ref a0), .unset] [(.ref a0), (.ref b2), (.ref b2)])) _
    refine XS.iconst X2.here hx rfl (hb hby d25_1_39) ?_
    show Steps p.tables e below (T2.setTop (mkF m 40 #[.val (.ref a0), .unset] [(.int (0 : Int32)), (.ref a0), (.ref b2), (.ref b2)])) _
    refine X2.aaload hx (j := (0 : Int32)) (v := (.ref el0)) (by rw [e2]; exact Ar3.1) (State.isArrayOf_alike hZ.alike Ar3.2.1) rfl Ar3.2.2 hin3 (Ha3.at hin3 rfl) (g := (mkF m 40 #[.val (.ref a0), .unset] [(.int (0 : Int32)), (.ref a0), (.ref b2), (.ref b2)])) rfl rfl (hb hby d25_1_40) _ ?_
    show Steps p.tables e below (T2.setTop (mkF m 41 #[.val (.ref a0), .unset] [(.ref el0), (.ref b2), (.ref b2)])) _
    refine st4.trans ?_
    show Steps p.tables e below (T4.setTop (mkF m 44 #[.val (.ref a0), .unset] [(.ref b2)])) _
    exact retOut X4 hx Bd.returns rfl (Or.inr (Or.inr (Or.inr (Or.inr ⟨rfl, rfl, rfl⟩)))) (hb hby d25_1_44) hr
  · show Q25_1 Z a0 w_STRING w_OBJECT w_INT w_MAP w_BIGDECIMAL w_DATE w_LONG w_LIST w_BOOLEAN w_DEFAULTCAPACITY_EMPTY_ELEMENTDATA c_DEFAULTCAPACITY_EMPTY_ELEMENTDATA w_EMPTY_LIST w_EMPTY w_ELEMS c_ELEMS w_MIR ka0 el0 h0 n0 _ T4.heap _
    skip
    exact ⟨b2, rfl, N4, O4, K4, sz_b2, E_b2, F_e0_b2, F_e1_b2⟩

theorem d10_1_0 : decode jdk_56_method_3_code 0 = .ok (.aload_n 0, 1) := by decide +kernel
theorem d10_1_1 : decode jdk_56_method_3_code 1 = .ok (.instanceof 10, 3) := by decide +kernel
theorem d10_1_4 : decode jdk_56_method_3_code 4 = .ok (.ifCond .ne 22, 3) := by decide +kernel
theorem d10_1_7 : decode jdk_56_method_3_code 7 = .ok (.aload_n 0, 1) := by decide +kernel
theorem d10_1_8 : decode jdk_56_method_3_code 8 = .ok (.instanceof 12, 3) := by decide +kernel
theorem d10_1_11 : decode jdk_56_method_3_code 11 = .ok (.ifCond .eq 20, 3) := by decide +kernel
theorem d10_1_31 : decode jdk_56_method_3_code 31 = .ok (.aload_n 0, 1) := by decide +kernel
theorem d10_1_32 : decode jdk_56_method_3_code 32 = .ok (.invokeinterface 20 1, 5) := by decide +kernel
theorem d10_1_37 : decode jdk_56_method_3_code 37 = .ok (.ifCond .eq 7, 3) := by decide +kernel
theorem d10_1_44 : decode jdk_56_method_3_code 44 = .ok (.aload_n 0, 1) := by decide +kernel
theorem d10_1_45 : decode jdk_56_method_3_code 45 = .ok (.invokeinterface 30 1, 5) := by decide +kernel
theorem d10_1_50 : decode jdk_56_method_3_code 50 = .ok (.invokestatic 34, 3) := by decide +kernel
theorem d10_1_53 : decode jdk_56_method_3_code 53 = .ok (.areturn, 1) := by decide +kernel
theorem pn_10_1 : plainName "java/util/ImmutableCollections" = true := by first | (simp [plainName, overriddenIn]; done) | decide +kernel
theorem pd_10_1_32 : parseMethodDescriptor "()Z" = some ⟨[], some .boolean⟩ := by decide +kernel
theorem pd_10_1_45 : parseMethodDescriptor "()[Ljava/lang/Object;" = some ⟨[], some (.array (.object "java/lang/Object"))⟩ := by decide +kernel
theorem pd_10_1_50 : parseMethodDescriptor "([Ljava/lang/Object;)Ljava/util/List;" = some ⟨[(.array (.object "java/lang/Object"))], some (.object "java/util/List")⟩ := by decide +kernel
theorem ef_10_1 (m : MethodId) (a0 : Addr) : entryFrame m #[(.ref a0)] 2 = mkF m 0 #[.val (.ref a0), .unset] [] := by first | (simp [entryFrame, mkF, argsToLocals, Value.category]; done) | rfl
def Q10_1 (Z : State) (a0 : Addr) (w_STRING : Addr) (w_OBJECT : Addr) (w_INT : Addr) (w_MAP : Addr) (w_BIGDECIMAL : Addr) (w_DATE : Addr) (w_LONG : Addr) (w_LIST : Addr) (w_BOOLEAN : Addr) (w_DEFAULTCAPACITY_EMPTY_ELEMENTDATA : Addr) (c_DEFAULTCAPACITY_EMPTY_ELEMENTDATA : Cell) (w_EMPTY_LIST : Addr) (w_EMPTY : Addr) (w_ELEMS : Addr) (c_ELEMS : Cell) (w_MIR : Addr) (u_modCount_a0 : Value) (xa : Addr) (kxa : ClassId) (el0 : Addr) (h0 : Heap) (n0 : Nat) (v : Option Value) (h : Heap) (L : List Loc) : Prop := ∃ (b5_2 : Addr) , v = some (.ref b5_2) ∧ Fr n0 L ∧ Old Z n0 h ∧ Keep h0 h [] ∧ h0.size ≤ b5_2 ∧ (Exa Z h b5_2 "java/util/ImmutableCollections$List12") ∧ (Fld Z h b5_2 "java/util/ImmutableCollections$List12" "e0" "Ljava/lang/Object;" (.ref el0)) ∧ (Fld Z h b5_2 "java/util/ImmutableCollections$List12" "e1" "Ljava/lang/Object;" (.ref w_EMPTY))
set_option maxRecDepth 65536 in
set_option maxHeartbeats 40000000 in
theorem rm10_1 (l : Launch) (Z : State) (ar0 : Array Value) (hw : ∀ d ∈ tables_1, d.before ar0 Z = true) (ws : List Jvm.Cond) (a0 : Addr) (w_STRING : Addr) (w_OBJECT : Addr) (w_INT : Addr) (w_MAP : Addr) (w_BIGDECIMAL : Addr) (w_DATE : Addr) (w_LONG : Addr) (w_LIST : Addr) (w_BOOLEAN : Addr) (w_DEFAULTCAPACITY_EMPTY_ELEMENTDATA : Addr) (c_DEFAULTCAPACITY_EMPTY_ELEMENTDATA : Cell) (w_EMPTY_LIST : Addr) (w_EMPTY : Addr) (w_ELEMS : Addr) (c_ELEMS : Cell) (w_MIR : Addr) (u_modCount_a0 : Value) (xa : Addr) (kxa : ClassId) (el0 : Addr) (h0 : Heap) (n0 : Nat) (O0 : Old Z n0 h0) (F : Fx Z Z.heap w_STRING w_OBJECT w_INT w_MAP w_BIGDECIMAL w_DATE w_LONG w_LIST w_BOOLEAN w_DEFAULTCAPACITY_EMPTY_ELEMENTDATA c_DEFAULTCAPACITY_EMPTY_ELEMENTDATA w_EMPTY_LIST w_EMPTY w_ELEMS c_ELEMS w_MIR) (E_a00 : Exa Z h0 a0 "java/util/ArrayList") (F_modCount_a00 : Fld Z h0 a0 "java/util/AbstractList" "modCount" "I" u_modCount_a0) (F_elementData_a00 : Fld Z h0 a0 "java/util/ArrayList" "elementData" "[Ljava/lang/Object;" (.ref xa)) (F_size_a00 : Fld Z h0 a0 "java/util/ArrayList" "size" "I" (.int (1 : Int32))) (V_xa0 : Arv Z h0 xa kxa (.object "java/lang/Object") (10 : Int32) [(.ref el0), .null, .null, .null, .null, .null, .null, .null, .null, .null] .null) (E_xa0 : Exa Z h0 xa "[Ljava/lang/Object;") (Ovr_xa0 : Ovr Z kxa "java/lang/Object") (E_el00 : Exa Z h0 el0 "com/example/declared_endpoints/declaredendpoints/model/FieldType$Container") :
    MetFree l (⟨"java/util/ImmutableCollections", "listCopy", "(Ljava/util/Collection;)Ljava/util/List;"⟩ : MethodName) (head1 ((Jvm.Cond.code (⟨"java/util/ImmutableCollections", "listCopy", "(Ljava/util/Collection;)Ljava/util/List;"⟩ : MethodName) jdk_56_method_3_code 2 (some (.object "java/util/List"))) :: ws) ({ frames := 6, cells := 2, slots := 3, locals := 75 } : Room)) (fun a U => a = #[(.ref a0)] ∧ Z.Warmed39 U.vm ∧ U.heap = h0) (fun _ _ _ _ _ => True) (fun _ U o U' => ∃ v L, o = .returned v ∧ Q10_1 Z a0 w_STRING w_OBJECT w_INT w_MAP w_BIGDECIMAL w_DATE w_LONG w_LIST w_BOOLEAN w_DEFAULTCAPACITY_EMPTY_ELEMENTDATA c_DEFAULTCAPACITY_EMPTY_ELEMENTDATA w_EMPTY_LIST w_EMPTY w_ELEMS c_ELEMS w_MIR u_modCount_a0 xa kxa el0 h0 n0 v U'.heap L ∧ FrameEnd U o U' L ({ frames := 6, cells := 2, slots := 3, locals := 75 } : Room).cells ({ frames := 6, cells := 2, slots := 3, locals := 75 } : Room).slots) := by
  obtain ⟨S_STRING, E_STRING, S_OBJECT, E_OBJECT, F_ordinal_STRING, F_ordinal_OBJECT, S_INT, E_INT, F_ordinal_INT, S_MAP, E_MAP, S_BIGDECIMAL, E_BIGDECIMAL, S_DATE, E_DATE, S_LONG, E_LONG, F_ordinal_LONG, F_ordinal_BIGDECIMAL, S_LIST, E_LIST, S_BOOLEAN, E_BOOLEAN, F_ordinal_BOOLEAN, F_ordinal_DATE, S_DEFAULTCAPACITY_EMPTY_ELEMENTDATA, E_DEFAULTCAPACITY_EMPTY_ELEMENTDATA, A_DEFAULTCAPACITY_EMPTY_ELEMENTDATA, L_DEFAULTCAPACITY_EMPTY_ELEMENTDATA, S_EMPTY_LIST, E_EMPTY_LIST, S_EMPTY, E_EMPTY, F_elements_EMPTY_LIST, A_ELEMS, L_ELEMS, M_MIR⟩ := id F
  refine MetFree.of_bodySF (plainFor_of_name pn_10_1) hisR ?_
  intro p e s m args below meth c s₁ Bd hml0 hP hK
  obtain ⟨rfl, hZ, hh⟩ := hP
  have hx := Bd.exec
  have hby := Bd.bytes
  have hml : c.maxLocals = 2 := hml0
  have hown : s.vm.findClass "java/util/ImmutableCollections" = some m.cls := findClass_of_methodNamed Bd.named
  have hnm := (name_of_methodNamed Bd.named Bd.method).1
  have X0 : Stand p l e ({ frames := 6, cells := 2, slots := 3, locals := 75 } : Room) s m #[(.ref a0)] below meth c s₁ [] 0 0 := Stand.of_body Bd
  have e0 : s₁.heap = h0 := by rw [← hh, Bd.state]; rfl
  have N0 := Fr.nil n0
  have K0 : Keep h0 h0 [] := Keep.refl _ _
  have pre0 : ∀ t, Steps p.tables e below (s₁.setTop (mkF m 0 #[.val (.ref a0), .unset] [])) t → Steps p.tables e below (s₁.setTop (entryFrame m #[(.ref a0)] 2)) t := fun t k => castTop (ef_10_1 m a0) k
  have E_a0 := E_a00
  have F_modCount_a0 := F_modCount_a00
  have F_elementData_a0 := F_elementData_a00
  have F_size_a0 := F_size_a00
  have V_xa := V_xa0
  have E_xa := E_xa0
  have Ovr_xa := Ovr_xa0
  have E_el0 := E_el00
  obtain ⟨T1, X1, e1, st1⟩ := instNo X0 hx hZ hown (hw _ (List.mem_of_getElem? (i := 66) rfl)) e0 E_a0 (own_nol_L12 hw) (g := (mkF m 1 #[.val (.ref a0), .unset] [(.ref a0)])) rfl rfl (hb hby d10_1_1)
  obtain ⟨T2, X2, e2, st2⟩ := instNo X1 hx hZ hown (hw _ (List.mem_of_getElem? (i := 71) rfl)) e1 E_a0 (own_nol_LN hw) (g := (mkF m 8 #[.val (.ref a0), .unset] [(.ref a0)])) rfl rfl (hb hby d10_1_8)
  obtain ⟨cq3, kq3, q3a, q3b, q3c⟩ := isOf hZ e2 E_a0
  obtain ⟨_, _, ⟨T3, L3, k3, n3⟩, -, X3, ⟨Lc3, hQ3, l3, y3, z3⟩, st3⟩ := X2.interfaceBack hx (xi := (⟨"java/util/Collection", "isEmpty", "()Z"⟩ : MethodName)) (y := (⟨"java/util/ArrayList", "isEmpty", "()Z"⟩ : MethodName)) hown (mvT hZ (hw _ (List.mem_of_getElem? (i := 72) rfl))) (mvT hZ (hw _ (List.mem_of_getElem? (i := 73) rfl))) (mvT hZ (hw _ (List.mem_of_getElem? (i := 74) rfl))) (mvT hZ (hw _ (List.mem_of_getElem? (i := 75) rfl))) (mvT hZ (hw _ (List.mem_of_getElem? (i := 76) rfl))) (mvT hZ (hw _ (List.mem_of_getElem? (i := 77) rfl))) (mvT hZ (hw _ (List.mem_of_getElem? (i := 78) rfl))) (mvT hZ (hw _ (List.mem_of_getElem? (i := 79) rfl))) (by decide) (backOf (W := 0) (rm11n l Z ar0 hw [] a0 w_STRING w_OBJECT w_INT w_MAP w_BIGDECIMAL w_DATE w_LONG w_LIST w_BOOLEAN w_DEFAULTCAPACITY_EMPTY_ELEMENTDATA c_DEFAULTCAPACITY_EMPTY_ELEMENTDATA w_EMPTY_LIST w_EMPTY w_ELEMS c_ELEMS w_MIR (1 : Int32) h0 n0 O0 F F_size_a0 (by first | decide | assumption)) hZ (hw _ (List.mem_of_getElem? (i := 80) rfl)) (hw _ (List.mem_of_getElem? (i := 3) rfl)) (by decide) (by decide)) q3a q3b q3c (g := (mkF m 32 #[.val (.ref a0), .unset] [(.ref a0)])) rfl (by rw [hml]; rfl) (Steps.refl _) (argsL := []) (rest := []) (lenOf pd_10_1_32 rfl) rfl (by show 2 * 0 + _ ≤ _; exact Nat.le_of_eq rfl) (hb hby d10_1_32) (fun _ _ => ⟨rfl, e2, (by decide : 0 + 0 ≤ _), (by decide : 0 + 0 ≤ _)⟩)
  dsimp only [Pt.U, Pt.locs, Pt.cells, Pt.slots] at X3 l3 y3 z3 st3 hQ3
  subst l3 y3 z3
  obtain ⟨rfl, N3q, O3, Kc3⟩ := hQ3
  have N3 := Fr.app N0 N3q
  have K3 : Keep h0 T3.heap [] := K0.trans Kc3 all0
  have E_a0 := (E_a0.keep Kc3)
  have F_modCount_a0 := (F_modCount_a0.keep Kc3 nin0)
  have F_elementData_a0 := (F_elementData_a0.keep Kc3 nin0)
  have F_size_a0 := (F_size_a0.keep Kc3 nin0)
  have V_xa := (V_xa.keep Kc3 nin0)
  have E_xa := (E_xa.keep Kc3)
  have E_el0 := (E_el0.keep Kc3)
  obtain ⟨cq4, kq4, q4a, q4b, q4c⟩ := isOf hZ rfl E_a0
  obtain ⟨_, _, ⟨T4, L4, k4, n4⟩, -, X4, ⟨Lc4, hQ4, l4, y4, z4⟩, st4⟩ := X3.interfaceBack hx (xi := (⟨"java/util/Collection", "toArray", "()[Ljava/lang/Object;"⟩ : MethodName)) (y := (⟨"java/util/ArrayList", "toArray", "()[Ljava/lang/Object;"⟩ : MethodName)) hown (mvT hZ (hw _ (List.mem_of_getElem? (i := 149) rfl))) (mvT hZ (hw _ (List.mem_of_getElem? (i := 150) rfl))) (mvT hZ (hw _ (List.mem_of_getElem? (i := 151) rfl))) (mvT hZ (hw _ (List.mem_of_getElem? (i := 152) rfl))) (mvT hZ (hw _ (List.mem_of_getElem? (i := 153) rfl))) (mvT hZ (hw _ (List.mem_of_getElem? (i := 154) rfl))) (mvT hZ (hw _ (List.mem_of_getElem? (i := 155) rfl))) (mvT hZ (hw _ (List.mem_of_getElem? (i := 79) rfl))) (by decide) (backOf (W := 0) (rm21_1 l Z ar0 hw [] a0 w_STRING w_OBJECT w_INT w_MAP w_BIGDECIMAL w_DATE w_LONG w_LIST w_BOOLEAN w_DEFAULTCAPACITY_EMPTY_ELEMENTDATA c_DEFAULTCAPACITY_EMPTY_ELEMENTDATA w_EMPTY_LIST w_EMPTY w_ELEMS c_ELEMS w_MIR u_modCount_a0 xa kxa el0 T3.heap n0 O3 F E_a0 F_modCount_a0 F_elementData_a0 F_size_a0 V_xa E_xa Ovr_xa E_el0) hZ (hw _ (List.mem_of_getElem? (i := 156) rfl)) (hw _ (List.mem_of_getElem? (i := 3) rfl)) (by decide) (by decide)) q4a q4b q4c (g := (mkF m 45 #[.val (.ref a0), .unset] [(.ref a0)])) rfl (by rw [hml]; rfl) (Steps.refl _) (argsL := []) (rest := []) (lenOf pd_10_1_45 rfl) rfl (by show 2 * 0 + _ ≤ _; exact Nat.le_of_eq rfl) (hb hby d10_1_45) (fun _ _ => ⟨rfl, rfl, (by decide : 0 + 1 ≤ _), (by decide : 0 + 1 ≤ _)⟩)
  dsimp only [Pt.U, Pt.locs, Pt.cells, Pt.slots] at X4 l4 y4 z4 st4 hQ4
  subst l4 y4 z4
  obtain ⟨b4_3_2_2, k2_2_3_4, rfl, N4q, O4, Kc4, sz4_0, fq4_0, fq4_1, fq4_2⟩ := hQ4
  have N4 := Fr.app N3 N4q
  have ne_a0_b4_3_2_2 : a0 ≠ b4_3_2_2 := Nat.ne_of_lt (Nat.lt_of_lt_of_le E_a0.lt sz4_0)
  have ne_xa_b4_3_2_2 : xa ≠ b4_3_2_2 := Nat.ne_of_lt (Nat.lt_of_lt_of_le V_xa.lt sz4_0)
  have ne_el0_b4_3_2_2 : el0 ≠ b4_3_2_2 := Nat.ne_of_lt (Nat.lt_of_lt_of_le E_el0.lt sz4_0)
  have g_b4_3_2_2 : n0 ≤ b4_3_2_2 := Nat.le_trans (own_old_le O3) sz4_0
  have sz_b4_3_2_2 : h0.size ≤ b4_3_2_2 := Nat.le_trans K3.1 sz4_0
  have K4 : Keep h0 T4.heap [] := K3.trans Kc4 all0
  have E_a0 := (E_a0.keep Kc4)
  have F_modCount_a0 := (F_modCount_a0.keep Kc4 nin0)
  have F_elementData_a0 := (F_elementData_a0.keep Kc4 nin0)
  have F_size_a0 := (F_size_a0.keep Kc4 nin0)
  have V_xa := (V_xa.keep Kc4 nin0)
  have E_xa := (E_xa.keep Kc4)
  have E_el0 := (E_el0.keep Kc4)
  have E_b4_3_2_2 := fq4_0
  have Ovr_b4_3_2_2 := fq4_1
  have V_b4_3_2_2 := fq4_2
  obtain ⟨_, _, ⟨T5, L5, k5, n5⟩, -, X5, ⟨Lc5, hQ5, l5, y5, z5⟩, st5⟩ := Jvm.LawKit.callS X4 hx (y := (⟨"java/util/List", "of", "([Ljava/lang/Object;)Ljava/util/List;"⟩ : MethodName)) hown (mvT hZ (hw _ (List.mem_of_getElem? (i := 179) rfl))) (mvT hZ (hw _ (List.mem_of_getElem? (i := 180) rfl))) (mvT hZ (hw _ (List.mem_of_getElem? (i := 60) rfl))) (mvT hZ (hw _ (List.mem_of_getElem? (i := 181) rfl))) (by decide) (backOf (W := 0) (rm25_1 l Z ar0 hw [] b4_3_2_2 w_STRING w_OBJECT w_INT w_MAP w_BIGDECIMAL w_DATE w_LONG w_LIST w_BOOLEAN w_DEFAULTCAPACITY_EMPTY_ELEMENTDATA c_DEFAULTCAPACITY_EMPTY_ELEMENTDATA w_EMPTY_LIST w_EMPTY w_ELEMS c_ELEMS w_MIR k2_2_3_4 el0 T4.heap n0 O4 F V_b4_3_2_2 E_b4_3_2_2 Ovr_b4_3_2_2 E_el0) hZ (hw _ (List.mem_of_getElem? (i := 181) rfl)) (hw _ (List.mem_of_getElem? (i := 60) rfl)) (by decide) (by decide)) (g := (mkF m 50 #[.val (.ref a0), .unset] [(.ref b4_3_2_2)])) rfl (by rw [hml]; rfl) (argsL := [(.ref b4_3_2_2)]) (rest := []) (lenOf pd_10_1_50 rfl) rfl (by show 2 * 0 + _ ≤ _; exact Nat.le_of_eq rfl) (hb hby d10_1_50) (fun _ _ => ⟨rfl, rfl, (by decide : 1 + 1 ≤ _), (by decide : 1 + 2 ≤ _)⟩)
  dsimp only [Pt.U, Pt.locs, Pt.cells, Pt.slots] at X5 l5 y5 z5 st5 hQ5
  subst l5 y5 z5
  obtain ⟨b5_2, rfl, N5q, O5, Kc5, sz5_0, fq5_0, fq5_1, fq5_2⟩ := hQ5
  have N5 := Fr.app N4 N5q
  have ne_a0_b5_2 : a0 ≠ b5_2 := Nat.ne_of_lt (Nat.lt_of_lt_of_le E_a0.lt sz5_0)
  have ne_xa_b5_2 : xa ≠ b5_2 := Nat.ne_of_lt (Nat.lt_of_lt_of_le V_xa.lt sz5_0)
  have ne_el0_b5_2 : el0 ≠ b5_2 := Nat.ne_of_lt (Nat.lt_of_lt_of_le E_el0.lt sz5_0)
  have ne_b4_3_2_2_b5_2 : b4_3_2_2 ≠ b5_2 := Nat.ne_of_lt (Nat.lt_of_lt_of_le E_b4_3_2_2.lt sz5_0)
  have g_b5_2 : n0 ≤ b5_2 := Nat.le_trans (own_old_le O4) sz5_0
  have sz_b5_2 : h0.size ≤ b5_2 := Nat.le_trans K4.1 sz5_0
  have K5 : Keep h0 T5.heap [] := K4.trans Kc5 all0
  have E_a0 := (E_a0.keep Kc5)
  have F_modCount_a0 := (F_modCount_a0.keep Kc5 nin0)
  have F_elementData_a0 := (F_elementData_a0.keep Kc5 nin0)
  have F_size_a0 := (F_size_a0.keep Kc5 nin0)
  have V_xa := (V_xa.keep Kc5 nin0)
  have E_xa := (E_xa.keep Kc5)
  have E_el0 := (E_el0.keep Kc5)
  have E_b4_3_2_2 := (E_b4_3_2_2.keep Kc5)
  have V_b4_3_2_2 := (V_b4_3_2_2.keep Kc5 nin0)
  have E_b5_2 := fq5_0
  have F_e0_b5_2 := fq5_1
  have F_e1_b5_2 := fq5_2
  obtain ⟨fs, hr, hrun, hended, hW, hsame⟩ := X5.leave (v := some (.ref b5_2)) (fun h => by rw [Bd.returns] at h; cases h)
  refine ⟨_, _, pre0 _ ?_, hrun, hended, _, _, rfl, ?_, ⟨_, rfl⟩, hW, hsame.mono (by decide) (by decide)⟩
  · show Steps p.tables e below (s₁.setTop (mkF m 0 #[.val (.ref a0), .unset] [])) _
    refine XS.aloadN X0.here hx rfl (hb hby d10_1_0) rfl rfl ?_
    show Steps p.tables e below (s₁.setTop (mkF m 1 #[.val (.ref a0), .unset] [(.ref a0)])) _
    refine st1 _ ?_
    show Steps p.tables e below (T1.setTop (mkF m 4 #[.val (.ref a0), .unset] [(.int (0 : Int32))])) _
    refine XS.ifNo X1.here hx rfl (hb hby d10_1_4) rfl ((if0 _ _).trans (teq (by decide : (0 : Int32) = (0 : Int32))).2) ?_
    show Steps p.tables e below (T1.setTop (mkF m 7 #[.val (.ref a0), .unset] [])) _
    refine XS.aloadN X1.here hx rfl (hb hby d10_1_7) rfl rfl ?_
    show Steps p.tables e below (T1.setTop (mkF m 8 #[.val (.ref a0), .unset] [(.ref a0)])) _
    refine st2 _ ?_
    show Steps p.tables e below (T2.setTop (mkF m 11 #[.val (.ref a0), .unset] [(.int (0 : Int32))])) _
    refine XS.ifYes X2.here hx rfl (pc0 := 11) (pc' := 31) rfl (hb hby d10_1_11) rfl ((if0 _ _).trans (teq (by decide : (0 : Int32) = (0 : Int32))).1) (by decide) (by decide) ?_
    show Steps p.tables e below (T2.setTop (mkF m 31 #[.val (.ref a0), .unset] [])) _
    refine XS.aloadN X2.here hx rfl (hb hby d10_1_31) rfl rfl ?_
    show Steps p.tables e below (T2.setTop (mkF m 32 #[.val (.ref a0), .unset] [(.ref a0)])) _
    refine st3.trans ?_
    show Steps p.tables e below (T3.setTop (mkF m 37 #[.val (.ref a0), .unset] [(.int (0 : Int32))])) _
    refine XS.ifYes X3.here hx rfl (pc0 := 37) (pc' := 44) rfl (hb hby d10_1_37) rfl ((if0 _ _).trans (teq (by decide : (0 : Int32) = (0 : Int32))).1) (by decide) (by decide) ?_
    show Steps p.tables e below (T3.setTop (mkF m 44 #[.val (.ref a0), .unset] [])) _
    refine XS.aloadN X3.here hx rfl (hb hby d10_1_44) rfl rfl ?_
    show Steps p.tables e below (T3.setTop (mkF m 45 #[.val (.ref a0), .unset] [(.ref a0)])) _
    refine st4.trans ?_
    show Steps p.tables e below (T4.setTop (mkF m 50 #[.val (.ref a0), .unset] [(.ref b4_3_2_2)])) _
    refine st5 _ ?_
    show Steps p.tables e below (T5.setTop (mkF m 53 #[.val (.ref a0), .unset] [(.ref b5_2)])) _
    exact retOut X5 hx Bd.returns rfl (Or.inr (Or.inr (Or.inr (Or.inr ⟨rfl, rfl, rfl⟩)))) (hb hby d10_1_53) hr
  · show Q10_1 Z a0 w_STRING w_OBJECT w_INT w_MAP w_BIGDECIMAL w_DATE w_LONG w_LIST w_BOOLEAN w_DEFAULTCAPACITY_EMPTY_ELEMENTDATA c_DEFAULTCAPACITY_EMPTY_ELEMENTDATA w_EMPTY_LIST w_EMPTY w_ELEMS c_ELEMS w_MIR u_modCount_a0 xa kxa el0 h0 n0 _ T5.heap _
    skip
    exact ⟨b5_2, rfl, N5, O5, K5, sz_b5_2, E_b5_2, F_e0_b5_2, F_e1_b5_2⟩

theorem d9_1_0 : decode jdk_40_method_48_code 0 = .ok (.aload_n 0, 1) := by decide +kernel
theorem d9_1_1 : decode jdk_40_method_48_code 1 = .ok (.invokestatic 112, 3) := by decide +kernel
theorem d9_1_4 : decode jdk_40_method_48_code 4 = .ok (.areturn, 1) := by decide +kernel
theorem pn_9_1 : plainName "java/util/List" = true := by first | (simp [plainName, overriddenIn]; done) | decide +kernel
theorem pd_9_1_1 : parseMethodDescriptor "(Ljava/util/Collection;)Ljava/util/List;" = some ⟨[(.object "java/util/Collection")], some (.object "java/util/List")⟩ := by decide +kernel
theorem ef_9_1 (m : MethodId) (a0 : Addr) : entryFrame m #[(.ref a0)] 1 = mkF m 0 #[.val (.ref a0)] [] := by first | (simp [entryFrame, mkF, argsToLocals, Value.category]; done) | rfl
def Q9_1 (Z : State) (a0 : Addr) (w_STRING : Addr) (w_OBJECT : Addr) (w_INT : Addr) (w_MAP : Addr) (w_BIGDECIMAL : Addr) (w_DATE : Addr) (w_LONG : Addr) (w_LIST : Addr) (w_BOOLEAN : Addr) (w_DEFAULTCAPACITY_EMPTY_ELEMENTDATA : Addr) (c_DEFAULTCAPACITY_EMPTY_ELEMENTDATA : Cell) (w_EMPTY_LIST : Addr) (w_EMPTY : Addr) (w_ELEMS : Addr) (c_ELEMS : Cell) (w_MIR : Addr) (u_modCount_a0 : Value) (xa : Addr) (kxa : ClassId) (el0 : Addr) (h0 : Heap) (n0 : Nat) (v : Option Value) (h : Heap) (L : List Loc) : Prop := ∃ (b1_5_2 : Addr) , v = some (.ref b1_5_2) ∧ Fr n0 L ∧ Old Z n0 h ∧ Keep h0 h [] ∧ h0.size ≤ b1_5_2 ∧ (Exa Z h b1_5_2 "java/util/ImmutableCollections$List12") ∧ (Fld Z h b1_5_2 "java/util/ImmutableCollections$List12" "e0" "Ljava/lang/Object;" (.ref el0)) ∧ (Fld Z h b1_5_2 "java/util/ImmutableCollections$List12" "e1" "Ljava/lang/Object;" (.ref w_EMPTY))
set_option maxRecDepth 65536 in
set_option maxHeartbeats 40000000 in
theorem rm9_1 (l : Launch) (Z : State) (ar0 : Array Value) (hw : ∀ d ∈ tables_1, d.before ar0 Z = true) (ws : List Jvm.Cond) (a0 : Addr) (w_STRING : Addr) (w_OBJECT : Addr) (w_INT : Addr) (w_MAP : Addr) (w_BIGDECIMAL : Addr) (w_DATE : Addr) (w_LONG : Addr) (w_LIST : Addr) (w_BOOLEAN : Addr) (w_DEFAULTCAPACITY_EMPTY_ELEMENTDATA : Addr) (c_DEFAULTCAPACITY_EMPTY_ELEMENTDATA : Cell) (w_EMPTY_LIST : Addr) (w_EMPTY : Addr) (w_ELEMS : Addr) (c_ELEMS : Cell) (w_MIR : Addr) (u_modCount_a0 : Value) (xa : Addr) (kxa : ClassId) (el0 : Addr) (h0 : Heap) (n0 : Nat) (O0 : Old Z n0 h0) (F : Fx Z Z.heap w_STRING w_OBJECT w_INT w_MAP w_BIGDECIMAL w_DATE w_LONG w_LIST w_BOOLEAN w_DEFAULTCAPACITY_EMPTY_ELEMENTDATA c_DEFAULTCAPACITY_EMPTY_ELEMENTDATA w_EMPTY_LIST w_EMPTY w_ELEMS c_ELEMS w_MIR) (E_a00 : Exa Z h0 a0 "java/util/ArrayList") (F_modCount_a00 : Fld Z h0 a0 "java/util/AbstractList" "modCount" "I" u_modCount_a0) (F_elementData_a00 : Fld Z h0 a0 "java/util/ArrayList" "elementData" "[Ljava/lang/Object;" (.ref xa)) (F_size_a00 : Fld Z h0 a0 "java/util/ArrayList" "size" "I" (.int (1 : Int32))) (V_xa0 : Arv Z h0 xa kxa (.object "java/lang/Object") (10 : Int32) [(.ref el0), .null, .null, .null, .null, .null, .null, .null, .null, .null] .null) (E_xa0 : Exa Z h0 xa "[Ljava/lang/Object;") (Ovr_xa0 : Ovr Z kxa "java/lang/Object") (E_el00 : Exa Z h0 el0 "com/example/declared_endpoints/declaredendpoints/model/FieldType$Container") :
    MetFree l (⟨"java/util/List", "copyOf", "(Ljava/util/Collection;)Ljava/util/List;"⟩ : MethodName) (head1 ((Jvm.Cond.code (⟨"java/util/List", "copyOf", "(Ljava/util/Collection;)Ljava/util/List;"⟩ : MethodName) jdk_40_method_48_code 1 (some (.object "java/util/List"))) :: ws) ({ frames := 7, cells := 2, slots := 3, locals := 88 } : Room)) (fun a U => a = #[(.ref a0)] ∧ Z.Warmed39 U.vm ∧ U.heap = h0) (fun _ _ _ _ _ => True) (fun _ U o U' => ∃ v L, o = .returned v ∧ Q9_1 Z a0 w_STRING w_OBJECT w_INT w_MAP w_BIGDECIMAL w_DATE w_LONG w_LIST w_BOOLEAN w_DEFAULTCAPACITY_EMPTY_ELEMENTDATA c_DEFAULTCAPACITY_EMPTY_ELEMENTDATA w_EMPTY_LIST w_EMPTY w_ELEMS c_ELEMS w_MIR u_modCount_a0 xa kxa el0 h0 n0 v U'.heap L ∧ FrameEnd U o U' L ({ frames := 7, cells := 2, slots := 3, locals := 88 } : Room).cells ({ frames := 7, cells := 2, slots := 3, locals := 88 } : Room).slots) := by
  obtain ⟨S_STRING, E_STRING, S_OBJECT, E_OBJECT, F_ordinal_STRING, F_ordinal_OBJECT, S_INT, E_INT, F_ordinal_INT, S_MAP, E_MAP, S_BIGDECIMAL, E_BIGDECIMAL, S_DATE, E_DATE, S_LONG, E_LONG, F_ordinal_LONG, F_ordinal_BIGDECIMAL, S_LIST, E_LIST, S_BOOLEAN, E_BOOLEAN, F_ordinal_BOOLEAN, F_ordinal_DATE, S_DEFAULTCAPACITY_EMPTY_ELEMENTDATA, E_DEFAULTCAPACITY_EMPTY_ELEMENTDATA, A_DEFAULTCAPACITY_EMPTY_ELEMENTDATA, L_DEFAULTCAPACITY_EMPTY_ELEMENTDATA, S_EMPTY_LIST, E_EMPTY_LIST, S_EMPTY, E_EMPTY, F_elements_EMPTY_LIST, A_ELEMS, L_ELEMS, M_MIR⟩ := id F
  refine MetFree.of_bodySF (plainFor_of_name pn_9_1) hisR ?_
  intro p e s m args below meth c s₁ Bd hml0 hP hK
  obtain ⟨rfl, hZ, hh⟩ := hP
  have hx := Bd.exec
  have hby := Bd.bytes
  have hml : c.maxLocals = 1 := hml0
  have hown : s.vm.findClass "java/util/List" = some m.cls := findClass_of_methodNamed Bd.named
  have hnm := (name_of_methodNamed Bd.named Bd.method).1
  have X0 : Stand p l e ({ frames := 7, cells := 2, slots := 3, locals := 88 } : Room) s m #[(.ref a0)] below meth c s₁ [] 0 0 := Stand.of_body Bd
  have e0 : s₁.heap = h0 := by rw [← hh, Bd.state]; rfl
  have N0 := Fr.nil n0
  have K0 : Keep h0 h0 [] := Keep.refl _ _
  have pre0 : ∀ t, Steps p.tables e below (s₁.setTop (mkF m 0 #[.val (.ref a0)] [])) t → Steps p.tables e below (s₁.setTop (entryFrame m #[(.ref a0)] 1)) t := fun t k => castTop (ef_9_1 m a0) k
  have E_a0 := E_a00
  have F_modCount_a0 := F_modCount_a00
  have F_elementData_a0 := F_elementData_a00
  have F_size_a0 := F_size_a00
  have V_xa := V_xa0
  have E_xa := E_xa0
  have Ovr_xa := Ovr_xa0
  have E_el0 := E_el00
  obtain ⟨_, _, ⟨T1, L1, k1, n1⟩, -, X1, ⟨Lc1, hQ1, l1, y1, z1⟩, st1⟩ := Jvm.LawKit.callS X0 hx (y := (⟨"java/util/ImmutableCollections", "listCopy", "(Ljava/util/Collection;)Ljava/util/List;"⟩ : MethodName)) hown (mvT hZ (hw _ (List.mem_of_getElem? (i := 62) rfl))) (mvT hZ (hw _ (List.mem_of_getElem? (i := 63) rfl))) (mvT hZ (hw _ (List.mem_of_getElem? (i := 64) rfl))) (mvT hZ (hw _ (List.mem_of_getElem? (i := 65) rfl))) (by decide) (backOf (W := 0) (rm10_1 l Z ar0 hw [] a0 w_STRING w_OBJECT w_INT w_MAP w_BIGDECIMAL w_DATE w_LONG w_LIST w_BOOLEAN w_DEFAULTCAPACITY_EMPTY_ELEMENTDATA c_DEFAULTCAPACITY_EMPTY_ELEMENTDATA w_EMPTY_LIST w_EMPTY w_ELEMS c_ELEMS w_MIR u_modCount_a0 xa kxa el0 h0 n0 O0 F E_a0 F_modCount_a0 F_elementData_a0 F_size_a0 V_xa E_xa Ovr_xa E_el0) hZ (hw _ (List.mem_of_getElem? (i := 65) rfl)) (hw _ (List.mem_of_getElem? (i := 64) rfl)) (by decide) (by decide)) (g := (mkF m 1 #[.val (.ref a0)] [(.ref a0)])) rfl (by rw [hml]; rfl) (argsL := [(.ref a0)]) (rest := []) (lenOf pd_9_1_1 rfl) rfl (by show 2 * 0 + _ ≤ _; exact Nat.le_of_eq rfl) (hb hby d9_1_1) (fun _ _ => ⟨rfl, e0, (by decide : 0 + 2 ≤ _), (by decide : 0 + 3 ≤ _)⟩)
  dsimp only [Pt.U, Pt.locs, Pt.cells, Pt.slots] at X1 l1 y1 z1 st1 hQ1
  subst l1 y1 z1
  obtain ⟨b1_5_2, rfl, N1q, O1, Kc1, sz1_0, fq1_0, fq1_1, fq1_2⟩ := hQ1
  have N1 := Fr.app N0 N1q
  have ne_a0_b1_5_2 : a0 ≠ b1_5_2 := Nat.ne_of_lt (Nat.lt_of_lt_of_le E_a0.lt sz1_0)
  have ne_xa_b1_5_2 : xa ≠ b1_5_2 := Nat.ne_of_lt (Nat.lt_of_lt_of_le V_xa.lt sz1_0)
  have ne_el0_b1_5_2 : el0 ≠ b1_5_2 := Nat.ne_of_lt (Nat.lt_of_lt_of_le E_el0.lt sz1_0)
  have g_b1_5_2 : n0 ≤ b1_5_2 := Nat.le_trans (own_old_le O0) sz1_0
  have sz_b1_5_2 : h0.size ≤ b1_5_2 := Nat.le_trans K0.1 sz1_0
  have K1 : Keep h0 T1.heap [] := K0.trans Kc1 all0
  have E_a0 := (E_a0.keep Kc1)
  have F_modCount_a0 := (F_modCount_a0.keep Kc1 nin0)
  have F_elementData_a0 := (F_elementData_a0.keep Kc1 nin0)
  have F_size_a0 := (F_size_a0.keep Kc1 nin0)
  have V_xa := (V_xa.keep Kc1 nin0)
  have E_xa := (E_xa.keep Kc1)
  have E_el0 := (E_el0.keep Kc1)
  have E_b1_5_2 := fq1_0
  have F_e0_b1_5_2 := fq1_1
  have F_e1_b1_5_2 := fq1_2
  obtain ⟨fs, hr, hrun, hended, hW, hsame⟩ := X1.leave (v := some (.ref b1_5_2)) (fun h => by rw [Bd.returns] at h; cases h)
  refine ⟨_, _, pre0 _ ?_, hrun, hended, _, _, rfl, ?_, ⟨_, rfl⟩, hW, hsame.mono (by decide) (by decide)⟩
  · show Steps p.tables e below (s₁.setTop (mkF m 0 #[.val (.ref a0)] [])) _
    refine XS.aloadN X0.here hx rfl (hb hby d9_1_0) rfl rfl ?_
    show Steps p.tables e below (s₁.setTop (mkF m 1 #[.val (.ref a0)] [(.ref a0)])) _
    refine st1 _ ?_
    show Steps p.tables e below (T1.setTop (mkF m 4 #[.val (.ref a0)] [(.ref b1_5_2)])) _
    exact retOut X1 hx Bd.returns rfl (Or.inr (Or.inr (Or.inr (Or.inr ⟨rfl, rfl, rfl⟩)))) (hb hby d9_1_4) hr
  · show Q9_1 Z a0 w_STRING w_OBJECT w_INT w_MAP w_BIGDECIMAL w_DATE w_LONG w_LIST w_BOOLEAN w_DEFAULTCAPACITY_EMPTY_ELEMENTDATA c_DEFAULTCAPACITY_EMPTY_ELEMENTDATA w_EMPTY_LIST w_EMPTY w_ELEMS c_ELEMS w_MIR u_modCount_a0 xa kxa el0 h0 n0 _ T1.heap _
    skip
    exact ⟨b1_5_2, rfl, N1, O1, K1, sz_b1_5_2, E_b1_5_2, F_e0_b1_5_2, F_e1_b1_5_2⟩

theorem d24_2_0 : decode jdk_29_method_69_code 0 = .ok (.iload_n 0, 1) := by decide +kernel
theorem d24_2_1 : decode jdk_29_method_69_code 1 = .ok (.iload_n 1, 1) := by decide +kernel
theorem d24_2_2 : decode jdk_29_method_69_code 2 = .ok (.if_icmp .gt 7, 3) := by decide +kernel
theorem d24_2_9 : decode jdk_29_method_69_code 9 = .ok (.iload_n 1, 1) := by decide +kernel
theorem d24_2_10 : decode jdk_29_method_69_code 10 = .ok (.ireturn, 1) := by decide +kernel
theorem pn_24_2 : plainFor (⟨"java/lang/Math", "min", "(II)I"⟩ : MethodName) = true := by decide +kernel
theorem ef_24_2 (m : MethodId)  : entryFrame m #[(.int (10 : Int32)), (.int (2 : Int32))] 2 = mkF m 0 #[.val (.int (10 : Int32)), .val (.int (2 : Int32))] [] := by first | (simp [entryFrame, mkF, argsToLocals, Value.category]; done) | rfl
def Q24_2 (Z : State)  (w_STRING : Addr) (w_OBJECT : Addr) (w_INT : Addr) (w_MAP : Addr) (w_BIGDECIMAL : Addr) (w_DATE : Addr) (w_LONG : Addr) (w_LIST : Addr) (w_BOOLEAN : Addr) (w_DEFAULTCAPACITY_EMPTY_ELEMENTDATA : Addr) (c_DEFAULTCAPACITY_EMPTY_ELEMENTDATA : Cell) (w_EMPTY_LIST : Addr) (w_EMPTY : Addr) (w_ELEMS : Addr) (c_ELEMS : Cell) (w_MIR : Addr)  (h0 : Heap) (n0 : Nat) (v : Option Value) (h : Heap) (L : List Loc) : Prop := v = some (.int (2 : Int32)) ∧ Fr n0 L ∧ Old Z n0 h ∧ Keep h0 h []
set_option maxRecDepth 65536 in
set_option maxHeartbeats 40000000 in
theorem rm24_2 (l : Launch) (Z : State) (ar0 : Array Value) (hw : ∀ d ∈ tables_1, d.before ar0 Z = true) (ws : List Jvm.Cond)  (w_STRING : Addr) (w_OBJECT : Addr) (w_INT : Addr) (w_MAP : Addr) (w_BIGDECIMAL : Addr) (w_DATE : Addr) (w_LONG : Addr) (w_LIST : Addr) (w_BOOLEAN : Addr) (w_DEFAULTCAPACITY_EMPTY_ELEMENTDATA : Addr) (c_DEFAULTCAPACITY_EMPTY_ELEMENTDATA : Cell) (w_EMPTY_LIST : Addr) (w_EMPTY : Addr) (w_ELEMS : Addr) (c_ELEMS : Cell) (w_MIR : Addr)  (h0 : Heap) (n0 : Nat) (O0 : Old Z n0 h0) (F : Fx Z Z.heap w_STRING w_OBJECT w_INT w_MAP w_BIGDECIMAL w_DATE w_LONG w_LIST w_BOOLEAN w_DEFAULTCAPACITY_EMPTY_ELEMENTDATA c_DEFAULTCAPACITY_EMPTY_ELEMENTDATA w_EMPTY_LIST w_EMPTY w_ELEMS c_ELEMS w_MIR)  :
    MetFree l (⟨"java/lang/Math", "min", "(II)I"⟩ : MethodName) (head1 ((Jvm.Cond.code (⟨"java/lang/Math", "min", "(II)I"⟩ : MethodName) jdk_29_method_69_code 2 (some .int)) :: ws) ({ frames := 0, cells := 0, slots := 0, locals := 0 } : Room)) (fun a U => a = #[(.int (10 : Int32)), (.int (2 : Int32))] ∧ Z.Warmed39 U.vm ∧ U.heap = h0) (fun _ _ _ _ _ => True) (fun _ U o U' => ∃ v L, o = .returned v ∧ Q24_2 Z  w_STRING w_OBJECT w_INT w_MAP w_BIGDECIMAL w_DATE w_LONG w_LIST w_BOOLEAN w_DEFAULTCAPACITY_EMPTY_ELEMENTDATA c_DEFAULTCAPACITY_EMPTY_ELEMENTDATA w_EMPTY_LIST w_EMPTY w_ELEMS c_ELEMS w_MIR  h0 n0 v U'.heap L ∧ FrameEnd U o U' L ({ frames := 0, cells := 0, slots := 0, locals := 0 } : Room).cells ({ frames := 0, cells := 0, slots := 0, locals := 0 } : Room).slots) := by
  obtain ⟨S_STRING, E_STRING, S_OBJECT, E_OBJECT, F_ordinal_STRING, F_ordinal_OBJECT, S_INT, E_INT, F_ordinal_INT, S_MAP, E_MAP, S_BIGDECIMAL, E_BIGDECIMAL, S_DATE, E_DATE, S_LONG, E_LONG, F_ordinal_LONG, F_ordinal_BIGDECIMAL, S_LIST, E_LIST, S_BOOLEAN, E_BOOLEAN, F_ordinal_BOOLEAN, F_ordinal_DATE, S_DEFAULTCAPACITY_EMPTY_ELEMENTDATA, E_DEFAULTCAPACITY_EMPTY_ELEMENTDATA, A_DEFAULTCAPACITY_EMPTY_ELEMENTDATA, L_DEFAULTCAPACITY_EMPTY_ELEMENTDATA, S_EMPTY_LIST, E_EMPTY_LIST, S_EMPTY, E_EMPTY, F_elements_EMPTY_LIST, A_ELEMS, L_ELEMS, M_MIR⟩ := id F
  refine MetFree.of_bodySF pn_24_2 hisR ?_
  intro p e s m args below meth c s₁ Bd hml0 hP hK
  obtain ⟨rfl, hZ, hh⟩ := hP
  have hx := Bd.exec
  have hby := Bd.bytes
  have hml : c.maxLocals = 2 := hml0
  have hown : s.vm.findClass "java/lang/Math" = some m.cls := findClass_of_methodNamed Bd.named
  have hnm := (name_of_methodNamed Bd.named Bd.method).1
  have X0 : Stand p l e ({ frames := 0, cells := 0, slots := 0, locals := 0 } : Room) s m #[(.int (10 : Int32)), (.int (2 : Int32))] below meth c s₁ [] 0 0 := Stand.of_body Bd
  have e0 : s₁.heap = h0 := by rw [← hh, Bd.state]; rfl
  have N0 := Fr.nil n0
  have K0 : Keep h0 h0 [] := Keep.refl _ _
  have pre0 : ∀ t, Steps p.tables e below (s₁.setTop (mkF m 0 #[.val (.int (10 : Int32)), .val (.int (2 : Int32))] [])) t → Steps p.tables e below (s₁.setTop (entryFrame m #[(.int (10 : Int32)), (.int (2 : Int32))] 2)) t := fun t k => castTop (ef_24_2 m ) k
  obtain ⟨fs, hr, hrun, hended, hW, hsame⟩ := X0.leave (v := some (.int (2 : Int32))) (fun h => by rw [Bd.returns] at h; cases h)
  refine ⟨_, _, pre0 _ ?_, hrun, hended, _, _, rfl, ?_, ⟨_, rfl⟩, hW, hsame.mono (by decide) (by decide)⟩
  · show Steps p.tables e below (s₁.setTop (mkF m 0 #[.val (.int (10 : Int32)), .val (.int (2 : Int32))] [])) _
    refine XS.iloadN X0.here hx rfl (hb hby d24_2_0) rfl ?_
    show Steps p.tables e below (s₁.setTop (mkF m 1 #[.val (.int (10 : Int32)), .val (.int (2 : Int32))] [(.int (10 : Int32))])) _
    refine XS.iloadN X0.here hx rfl (hb hby d24_2_1) rfl ?_
    show Steps p.tables e below (s₁.setTop (mkF m 2 #[.val (.int (10 : Int32)), .val (.int (2 : Int32))] [(.int (2 : Int32)), (.int (10 : Int32))])) _
    refine XS.icmpYes X0.here hx rfl (pc0 := 2) (pc' := 9) rfl (hb hby d24_2_2) rfl (tlt (by decide : (2 : Int32) < (10 : Int32))).2.2.1 (by decide) (by decide) ?_
    show Steps p.tables e below (s₁.setTop (mkF m 9 #[.val (.int (10 : Int32)), .val (.int (2 : Int32))] [])) _
    refine XS.iloadN X0.here hx rfl (hb hby d24_2_9) rfl ?_
    show Steps p.tables e below (s₁.setTop (mkF m 10 #[.val (.int (10 : Int32)), .val (.int (2 : Int32))] [(.int (2 : Int32))])) _
    exact retI X0 hx Bd.returns (hb hby d24_2_10) hr
  · show Q24_2 Z  w_STRING w_OBJECT w_INT w_MAP w_BIGDECIMAL w_DATE w_LONG w_LIST w_BOOLEAN w_DEFAULTCAPACITY_EMPTY_ELEMENTDATA c_DEFAULTCAPACITY_EMPTY_ELEMENTDATA w_EMPTY_LIST w_EMPTY w_ELEMS c_ELEMS w_MIR  h0 n0 _ s₁.heap _
    rw [e0]
    exact ⟨rfl, N0, O0, K0⟩

theorem d23_2_0 : decode jdk_65_method_120_code 0 = .ok (.aload_n 2, 1) := by decide +kernel
theorem d23_2_1 : decode jdk_65_method_120_code 1 = .ok (.ldc 110, 2) := by decide +kernel
theorem d23_2_3 : decode jdk_65_method_120_code 3 = .ok (.if_acmp .ne 10, 3) := by decide +kernel
theorem d23_2_6 : decode jdk_65_method_120_code 6 = .ok (.iload_n 1, 1) := by decide +kernel
theorem d23_2_7 : decode jdk_65_method_120_code 7 = .ok (.anewarray 2, 3) := by decide +kernel
theorem d23_2_10 : decode jdk_65_method_120_code 10 = .ok (.goto 14, 3) := by decide +kernel
theorem d23_2_24 : decode jdk_65_method_120_code 24 = .ok (.astore_n 3, 1) := by decide +kernel
theorem d23_2_25 : decode jdk_65_method_120_code 25 = .ok (.aload_n 0, 1) := by decide +kernel
theorem d23_2_26 : decode jdk_65_method_120_code 26 = .ok (.iconst 0, 1) := by decide +kernel
theorem d23_2_27 : decode jdk_65_method_120_code 27 = .ok (.aload_n 3, 1) := by decide +kernel
theorem d23_2_28 : decode jdk_65_method_120_code 28 = .ok (.iconst 0, 1) := by decide +kernel
theorem d23_2_29 : decode jdk_65_method_120_code 29 = .ok (.aload_n 0, 1) := by decide +kernel
theorem d23_2_30 : decode jdk_65_method_120_code 30 = .ok (.arraylength, 1) := by decide +kernel
theorem d23_2_31 : decode jdk_65_method_120_code 31 = .ok (.iload_n 1, 1) := by decide +kernel
theorem d23_2_32 : decode jdk_65_method_120_code 32 = .ok (.invokestatic 304, 3) := by decide +kernel
theorem d23_2_35 : decode jdk_65_method_120_code 35 = .ok (.invokestatic 150, 3) := by decide +kernel
theorem d23_2_38 : decode jdk_65_method_120_code 38 = .ok (.aload_n 3, 1) := by decide +kernel
theorem d23_2_39 : decode jdk_65_method_120_code 39 = .ok (.areturn, 1) := by decide +kernel
theorem pn_23_2 : plainName "java/util/Arrays" = true := by first | (simp [plainName, overriddenIn]; done) | decide +kernel
theorem pd_23_2_32 : parseMethodDescriptor "(II)I" = some ⟨[.int, .int], some .int⟩ := by decide +kernel
theorem ef_23_2 (m : MethodId) (a0 : Addr) : entryFrame m #[(.ref a0), (.int (2 : Int32)), (.ref w_MIR)] 4 = mkF m 0 #[.val (.ref a0), .val (.int (2 : Int32)), .val (.ref w_MIR), .unset] [] := by first | (simp [entryFrame, mkF, argsToLocals, Value.category]; done) | rfl
def Q23_2 (Z : State) (a0 : Addr) (w_STRING : Addr) (w_OBJECT : Addr) (w_INT : Addr) (w_MAP : Addr) (w_BIGDECIMAL : Addr) (w_DATE : Addr) (w_LONG : Addr) (w_LIST : Addr) (w_BOOLEAN : Addr) (w_DEFAULTCAPACITY_EMPTY_ELEMENTDATA : Addr) (c_DEFAULTCAPACITY_EMPTY_ELEMENTDATA : Cell) (w_EMPTY_LIST : Addr) (w_EMPTY : Addr) (w_ELEMS : Addr) (c_ELEMS : Cell) (w_MIR : Addr) (ka0 : ClassId) (el0 : Addr) (el1 : Addr) (h0 : Heap) (n0 : Nat) (v : Option Value) (h : Heap) (L : List Loc) : Prop := ∃ (b2 : Addr) (k2 : ClassId), v = some (.ref b2) ∧ Fr n0 L ∧ Old Z n0 h ∧ Keep h0 h [] ∧ h0.size ≤ b2 ∧ (Exa Z h b2 "[Ljava/lang/Object;") ∧ (Ovr Z k2 "java/lang/Object") ∧ (Arv Z h b2 k2 (.object "java/lang/Object") (2 : Int32) [(.ref el0), (.ref el1)] .null)
set_option maxRecDepth 65536 in
set_option maxHeartbeats 40000000 in
theorem rm23_2 (l : Launch) (Z : State) (ar0 : Array Value) (hw : ∀ d ∈ tables_1, d.before ar0 Z = true) (ws : List Jvm.Cond) (a0 : Addr) (w_STRING : Addr) (w_OBJECT : Addr) (w_INT : Addr) (w_MAP : Addr) (w_BIGDECIMAL : Addr) (w_DATE : Addr) (w_LONG : Addr) (w_LIST : Addr) (w_BOOLEAN : Addr) (w_DEFAULTCAPACITY_EMPTY_ELEMENTDATA : Addr) (c_DEFAULTCAPACITY_EMPTY_ELEMENTDATA : Cell) (w_EMPTY_LIST : Addr) (w_EMPTY : Addr) (w_ELEMS : Addr) (c_ELEMS : Cell) (w_MIR : Addr) (ka0 : ClassId) (el0 : Addr) (el1 : Addr) (h0 : Heap) (n0 : Nat) (O0 : Old Z n0 h0) (F : Fx Z Z.heap w_STRING w_OBJECT w_INT w_MAP w_BIGDECIMAL w_DATE w_LONG w_LIST w_BOOLEAN w_DEFAULTCAPACITY_EMPTY_ELEMENTDATA c_DEFAULTCAPACITY_EMPTY_ELEMENTDATA w_EMPTY_LIST w_EMPTY w_ELEMS c_ELEMS w_MIR) (V_a00 : Arv Z h0 a0 ka0 (.object "java/lang/Object") (10 : Int32) [(.ref el0), (.ref el1), .null, .null, .null, .null, .null, .null, .null, .null] .null) (E_a00 : Exa Z h0 a0 "[Ljava/lang/Object;") (Ovr_a00 : Ovr Z ka0 "java/lang/Object") (E_el00 : Exa Z h0 el0 "com/example/declared_endpoints/declaredendpoints/model/FieldType$Container") (E_el10 : Exa Z h0 el1 "com/example/declared_endpoints/declaredendpoints/model/FieldType$Container") :
    MetFree l (⟨"java/util/Arrays", "copyOf", "([Ljava/lang/Object;ILjava/lang/Class;)[Ljava/lang/Object;"⟩ : MethodName) (head1 ((Jvm.Cond.code (⟨"java/util/Arrays", "copyOf", "([Ljava/lang/Object;ILjava/lang/Class;)[Ljava/lang/Object;"⟩ : MethodName) jdk_65_method_120_code 4 (some (.array (.object "java/lang/Object")))) :: ws) ({ frames := 1, cells := 1, slots := 2, locals := 18 } : Room)) (fun a U => a = #[(.ref a0), (.int (2 : Int32)), (.ref w_MIR)] ∧ Z.Warmed39 U.vm ∧ U.heap = h0) (fun _ _ _ _ _ => True) (fun _ U o U' => ∃ v L, o = .returned v ∧ Q23_2 Z a0 w_STRING w_OBJECT w_INT w_MAP w_BIGDECIMAL w_DATE w_LONG w_LIST w_BOOLEAN w_DEFAULTCAPACITY_EMPTY_ELEMENTDATA c_DEFAULTCAPACITY_EMPTY_ELEMENTDATA w_EMPTY_LIST w_EMPTY w_ELEMS c_ELEMS w_MIR ka0 el0 el1 h0 n0 v U'.heap L ∧ FrameEnd U o U' L ({ frames := 1, cells := 1, slots := 2, locals := 18 } : Room).cells ({ frames := 1, cells := 1, slots := 2, locals := 18 } : Room).slots) := by
  obtain ⟨S_STRING, E_STRING, S_OBJECT, E_OBJECT, F_ordinal_STRING, F_ordinal_OBJECT, S_INT, E_INT, F_ordinal_INT, S_MAP, E_MAP, S_BIGDECIMAL, E_BIGDECIMAL, S_DATE, E_DATE, S_LONG, E_LONG, F_ordinal_LONG, F_ordinal_BIGDECIMAL, S_LIST, E_LIST, S_BOOLEAN, E_BOOLEAN, F_ordinal_BOOLEAN, F_ordinal_DATE, S_DEFAULTCAPACITY_EMPTY_ELEMENTDATA, E_DEFAULTCAPACITY_EMPTY_ELEMENTDATA, A_DEFAULTCAPACITY_EMPTY_ELEMENTDATA, L_DEFAULTCAPACITY_EMPTY_ELEMENTDATA, S_EMPTY_LIST, E_EMPTY_LIST, S_EMPTY, E_EMPTY, F_elements_EMPTY_LIST, A_ELEMS, L_ELEMS, M_MIR⟩ := id F
  refine MetFree.of_bodySF (plainFor_of_name pn_23_2) hisR ?_
  intro p e s m args below meth c s₁ Bd hml0 hP hK
  obtain ⟨rfl, hZ, hh⟩ := hP
  have hx := Bd.exec
  have hby := Bd.bytes
  have hml : c.maxLocals = 4 := hml0
  have hown : s.vm.findClass "java/util/Arrays" = some m.cls := findClass_of_methodNamed Bd.named
  have hnm := (name_of_methodNamed Bd.named Bd.method).1
  have X0 : Stand p l e ({ frames := 1, cells := 1, slots := 2, locals := 18 } : Room) s m #[(.ref a0), (.int (2 : Int32)), (.ref w_MIR)] below meth c s₁ [] 0 0 := Stand.of_body Bd
  have e0 : s₁.heap = h0 := by rw [← hh, Bd.state]; rfl
  have N0 := Fr.nil n0
  have K0 : Keep h0 h0 [] := Keep.refl _ _
  have pre0 : ∀ t, Steps p.tables e below (s₁.setTop (mkF m 0 #[.val (.ref a0), .val (.int (2 : Int32)), .val (.ref w_MIR), .unset] [])) t → Steps p.tables e below (s₁.setTop (entryFrame m #[(.ref a0), (.int (2 : Int32)), (.ref w_MIR)] 4)) t := fun t k => castTop (ef_23_2 m a0) k
  have V_a0 := V_a00
  have E_a0 := E_a00
  have Ovr_a0 := Ovr_a00
  have E_el0 := E_el00
  have E_el1 := E_el10
  obtain ⟨T1, X1, e1, st1⟩ := own_ldcM X0 hx hZ hown (hw _ (List.mem_of_getElem? (i := 170) rfl)) e0 M_MIR (g := (mkF m 1 #[.val (.ref a0), .val (.int (2 : Int32)), .val (.ref w_MIR), .unset] [(.ref w_MIR)])) rfl (hb hby d23_2_1)
  obtain ⟨T2, h2, k2, X2, e2, E2, A2, Ex2, Ov2, st2⟩ := newRE X1 hx hZ hown (hw _ (List.mem_of_getElem? (i := 171) rfl)) (hw _ (List.mem_of_getElem? (i := 145) rfl)) e1 (g := (mkF m 7 #[.val (.ref a0), .val (.int (2 : Int32)), .val (.ref w_MIR), .unset] [(.int (2 : Int32))])) rfl (hb hby d23_2_7) rfl (by decide) (cap := 2) (by decide) (by decide) (by decide) (by decide) (ad := "[Ljava/lang/Object;") (by decide)
  obtain ⟨b2, g2⟩ : ∃ z, z = h0.size := ⟨_, rfl⟩
  rw [← g2] at A2 Ex2 st2
  have ne_a0_b2 : a0 ≠ b2 := Nat.ne_of_lt (Nat.lt_of_lt_of_le V_a0.lt (Nat.le_of_eq g2.symm))
  have ne_el0_b2 : el0 ≠ b2 := Nat.ne_of_lt (Nat.lt_of_lt_of_le E_el0.lt (Nat.le_of_eq g2.symm))
  have ne_el1_b2 : el1 ≠ b2 := Nat.ne_of_lt (Nat.lt_of_lt_of_le E_el1.lt (Nat.le_of_eq g2.symm))
  have g_b2 : n0 ≤ b2 := Nat.le_trans (own_old_le O0) (Nat.le_of_eq g2.symm)
  have sz_b2 : h0.size ≤ b2 := Nat.le_trans K0.1 (Nat.le_of_eq g2.symm)
  have O2 : Old Z n0 h2 := O0.ext E2
  have K2 : Keep h0 h2 [] := K0.ext E2
  have V_a0 := (V_a0.ext E2)
  have E_a0 := (E_a0.ext E2)
  have E_el0 := (E_el0.ext E2)
  have E_el1 := (E_el1.ext E2)
  have V_b2 : Arv Z h2 b2 k2 (.object "java/lang/Object") (2 : Int32) [.null, .null] .null := (Arv.new A2 (by decide)).pad (pad_rep [] .null 2)
  have E_b2 := Ex2
  have Ovr_b2 := Ov2
  obtain ⟨c3, Ar3, q3, S3, M3, Ha3, G3⟩ := id V_a0
  obtain ⟨_, _, ⟨T4, L4, k4, n4⟩, -, X4, ⟨Lc4, hQ4, l4, y4, z4⟩, st4⟩ := Jvm.LawKit.callS X2 hx (y := (⟨"java/lang/Math", "min", "(II)I"⟩ : MethodName)) hown (mvT hZ (hw _ (List.mem_of_getElem? (i := 172) rfl))) (mvT hZ (hw _ (List.mem_of_getElem? (i := 173) rfl))) (mvT hZ (hw _ (List.mem_of_getElem? (i := 142) rfl))) (mvT hZ (hw _ (List.mem_of_getElem? (i := 174) rfl))) (by decide) (backOf (W := 4) (rm24_2 l Z ar0 hw []  w_STRING w_OBJECT w_INT w_MAP w_BIGDECIMAL w_DATE w_LONG w_LIST w_BOOLEAN w_DEFAULTCAPACITY_EMPTY_ELEMENTDATA c_DEFAULTCAPACITY_EMPTY_ELEMENTDATA w_EMPTY_LIST w_EMPTY w_ELEMS c_ELEMS w_MIR  h2 n0 O2 F ) hZ (hw _ (List.mem_of_getElem? (i := 174) rfl)) (hw _ (List.mem_of_getElem? (i := 142) rfl)) (by decide) (by decide)) (g := (mkF m 32 #[.val (.ref a0), .val (.int (2 : Int32)), .val (.ref w_MIR), .val (.ref b2)] [(.int (2 : Int32)), (.int (10 : Int32)), (.int (0 : Int32)), (.ref b2), (.int (0 : Int32)), (.ref a0)])) rfl (by rw [hml]; rfl) (argsL := [(.int (10 : Int32)), (.int (2 : Int32))]) (rest := [(.int (0 : Int32)), (.ref b2), (.int (0 : Int32)), (.ref a0)]) (lenOf pd_23_2_32 rfl) rfl (by show 2 * 0 + _ ≤ _; exact Nat.le_of_eq rfl) (hb hby d23_2_32) (fun _ _ => ⟨rfl, e2, (by decide : 1 + 0 ≤ _), (by decide : 2 + 0 ≤ _)⟩)
  dsimp only [Pt.U, Pt.locs, Pt.cells, Pt.slots] at X4 l4 y4 z4 st4 hQ4
  subst l4 y4 z4
  obtain ⟨rfl, N4q, O4, Kc4⟩ := hQ4
  have N4 := Fr.app N0 N4q
  have K4 : Keep h0 T4.heap [] := K2.trans Kc4 all0
  have V_a0 := (V_a0.keep Kc4 nin0)
  have E_a0 := (E_a0.keep Kc4)
  have E_el0 := (E_el0.keep Kc4)
  have E_el1 := (E_el1.keep Kc4)
  have V_b2 := (V_b2.keep Kc4 nin0)
  have E_b2 := (E_b2.keep Kc4)
  obtain ⟨c5, Ar5, q5, S5, M5, Ha5, G5⟩ := id V_b2
  obtain ⟨T5, h5, L5, X5, e5, N5, Kc5, Vn5, st5⟩ := cpA X4 hx hZ hown (hw _ (List.mem_of_getElem? (i := 175) rfl)) (hw _ (List.mem_of_getElem? (i := 178) rfl)) (hw _ (List.mem_of_getElem? (i := 176) rfl)) (hw _ (List.mem_of_getElem? (i := 177) rfl)) rfl V_a0 V_b2 (Or.inr ⟨rfl, rfl, ⟨Sto.ofV Ar5 q5 Ovr_b2 (Ins.of_exa E_el0 (hw _ (List.mem_of_getElem? (i := 146) rfl))), Sto.ofV Ar5 q5 Ovr_b2 (Ins.of_exa E_el1 (hw _ (List.mem_of_getElem? (i := 146) rfl))), trivial⟩⟩) (us := [(.ref el0), (.ref el1)]) (by decide) (by decide) (by decide) (by decide) (by decide) rfl (by decide) N4 g_b2 (g := (mkF m 35 #[.val (.ref a0), .val (.int (2 : Int32)), .val (.ref w_MIR), .val (.ref b2)] [(.int (2 : Int32)), (.int (0 : Int32)), (.ref b2), (.int (0 : Int32)), (.ref a0)])) rfl (by rw [hml]; rfl) rfl (hb hby d23_2_35) (by decide) (W := 0) (by show 2 * 0 + _ ≤ _; exact Nat.le_of_eq rfl) (by decide)
  have O5 : Old Z n0 h5 := O4.keep Kc5 (allS g_b2 all0)
  have K5 : Keep h0 h5 [] := K4.trans Kc5 (allS (Or.inr sz_b2) all0)
  have V_a0 := (V_a0.keep Kc5 (ninS ne_a0_b2 nin0))
  have E_a0 := (E_a0.keep Kc5)
  have E_el0 := (E_el0.keep Kc5)
  have E_el1 := (E_el1.keep Kc5)
  have E_b2 := (E_b2.keep Kc5)
  have V_b2 : Arv Z h5 b2 k2 (.object "java/lang/Object") (2 : Int32) [(.ref el0), (.ref el1)] .null := Vn5
  obtain ⟨fs, hr, hrun, hended, hW, hsame⟩ := X5.leave (v := some (.ref b2)) (fun h => by rw [Bd.returns] at h; cases h)
  refine ⟨_, _, pre0 _ ?_, hrun, hended, _, _, rfl, ?_, ⟨_, rfl⟩, hW, hsame.mono (by decide) (by decide)⟩
  · show Steps p.tables e below (s₁.setTop (mkF m 0 #[.val (.ref a0), .val (.int (2 : Int32)), .val (.ref w_MIR), .unset] [])) _
    refine XS.aloadN X0.here hx rfl (hb hby d23_2_0) rfl rfl ?_
    show Steps p.tables e below (s₁.setTop (mkF m 1 #[.val (.ref a0), .val (.int (2 : Int32)), .val (.ref w_MIR), .unset] [(.ref w_MIR)])) _
    refine st1 _ ?_
    show Steps p.tables e below (T1.setTop (mkF m 3 #[.val (.ref a0), .val (.int (2 : Int32)), .val (.ref w_MIR), .unset] [(.ref w_MIR), (.ref w_MIR)])) _
    refine Jvm.RoadKit.acmp (g := (mkF m 3 #[.val (.ref a0), .val (.int (2 : Int32)), .val (.ref w_MIR), .unset] [(.ref w_MIR), (.ref w_MIR)])) X1 hx rfl rfl rfl (pc0 := 3) (pc' := 6) (same := true) rfl (hb hby d23_2_3) rfl (decide_eq_true rfl) (by decide) (by decide) ?_
    show Steps p.tables e below (T1.setTop (mkF m 6 #[.val (.ref a0), .val (.int (2 : Int32)), .val (.ref w_MIR), .unset] [])) _
    refine XS.iloadN X1.here hx rfl (hb hby d23_2_6) rfl ?_
    show Steps p.tables e below (T1.setTop (mkF m 7 #[.val (.ref a0), .val (.int (2 : Int32)), .val (.ref w_MIR), .unset] [(.int (2 : Int32))])) _
    refine st2 _ ?_
    show Steps p.tables e below (T2.setTop (mkF m 10 #[.val (.ref a0), .val (.int (2 : Int32)), .val (.ref w_MIR), .unset] [(.ref b2)])) _
    refine XS.goto X2.here hx rfl (pc0 := 10) (pc' := 24) rfl (hb hby d23_2_10) (by decide) (by decide) ?_
    show Steps p.tables e below (T2.setTop (mkF m 24 #[.val (.ref a0), .val (.int (2 : Int32)), .val (.ref w_MIR), .unset] [(.ref b2)])) _
    refine XS.astoreN X2.here hx rfl (hb hby d23_2_24) rfl rfl (l' := #[.val (.ref a0), .val (.int (2 : Int32)), .val (.ref w_MIR), .val (.ref b2)]) rfl ?_
    show Steps p.tables e below (T2.setTop (mkF m 25 #[.val (.ref a0), .val (.int (2 : Int32)), .val (.ref w_MIR), .val (.ref b2)] [])) _
    refine XS.aloadN X2.here hx rfl (hb hby d23_2_25) rfl rfl ?_
    show Steps p.tables e below (T2.setTop (mkF m 26 #[.val (.ref a0), .val (.int (2 : Int32)), .val (.ref w_MIR), .val (.ref b2)] [(.ref a0)])) _
    refine XS.iconst X2.here hx rfl (hb hby d23_2_26) ?_
    show Steps p.tables e below (T2.setTop (mkF m 27 #[.val (.ref a0), .val (.int (2 : Int32)), .val (.ref w_MIR), .val (.ref b2)] [(.int (0 : Int32)), (.ref a0)])) _
    refine XS.aloadN X2.here hx rfl (hb hby d23_2_27) rfl rfl ?_
    show Steps p.tables e below (T2.setTop (mkF m 28 #[.val (.ref a0), .val (.int (2 : Int32)), .val (.ref w_MIR), .val (.ref b2)] [(.ref b2), (.int (0 : Int32)), (.ref a0)])) _
    refine XS.iconst X2.here hx rfl (hb hby d23_2_28) ?_
    show Steps p.tables e below (T2.setTop (mkF m 29 #[.val (.ref a0), .val (.int (2 : Int32)), .val (.ref w_MIR), .val (.ref b2)] [(.int (0 : Int32)), (.ref b2), (.int (0 : Int32)), (.ref a0)])) _
    refine XS.aloadN X2.here hx rfl (hb hby d23_2_29) rfl rfl ?_
    show Steps p.tables e below (T2.setTop (mkF m 30 #[.val (.ref a0), .val (.int (2 : Int32)), .val (.ref w_MIR), .val (.ref b2)] [(.ref a0), (.int (0 : Int32)), (.ref b2), (.int (0 : Int32)), (.ref a0)])) _
    refine X2.arraylength hx (by rw [e2]; exact Ar3.1) (State.isArrayOf_alike hZ.alike Ar3.2.1) (g := (mkF m 30 #[.val (.ref a0), .val (.int (2 : Int32)), .val (.ref w_MIR), .val (.ref b2)] [(.ref a0), (.int (0 : Int32)), (.ref b2), (.int (0 : Int32)), (.ref a0)])) rfl rfl (hb hby d23_2_30) _ ?_
    rw [len_of S3 M3]
    show Steps p.tables e below (T2.setTop (mkF m 31 #[.val (.ref a0), .val (.int (2 : Int32)), .val (.ref w_MIR), .val (.ref b2)] [(.int (10 : Int32)), (.int (0 : Int32)), (.ref b2), (.int (0 : Int32)), (.ref a0)])) _
    refine XS.iloadN X2.here hx rfl (hb hby d23_2_31) rfl ?_
    show Steps p.tables e below (T2.setTop (mkF m 32 #[.val (.ref a0), .val (.int (2 : Int32)), .val (.ref w_MIR), .val (.ref b2)] [(.int (2 : Int32)), (.int (10 : Int32)), (.int (0 : Int32)), (.ref b2), (.int (0 : Int32)), (.ref a0)])) _
    refine st4 _ ?_
    show Steps p.tables e below (T4.setTop (mkF m 35 #[.val (.ref a0), .val (.int (2 : Int32)), .val (.ref w_MIR), .val (.ref b2)] [(.int (2 : Int32)), (.int (0 : Int32)), (.ref b2), (.int (0 : Int32)), (.ref a0)])) _
    refine st5 _ ?_
    show Steps p.tables e below (T5.setTop (mkF m 38 #[.val (.ref a0), .val (.int (2 : Int32)), .val (.ref w_MIR), .val (.ref b2)] [])) _
    refine XS.aloadN X5.here hx rfl (hb hby d23_2_38) rfl rfl ?_
    show Steps p.tables e below (T5.setTop (mkF m 39 #[.val (.ref a0), .val (.int (2 : Int32)), .val (.ref w_MIR), .val (.ref b2)] [(.ref b2)])) _
    exact retOut X5 hx Bd.returns rfl (Or.inr (Or.inr (Or.inr (Or.inr ⟨rfl, rfl, rfl⟩)))) (hb hby d23_2_39) hr
  · show Q23_2 Z a0 w_STRING w_OBJECT w_INT w_MAP w_BIGDECIMAL w_DATE w_LONG w_LIST w_BOOLEAN w_DEFAULTCAPACITY_EMPTY_ELEMENTDATA c_DEFAULTCAPACITY_EMPTY_ELEMENTDATA w_EMPTY_LIST w_EMPTY w_ELEMS c_ELEMS w_MIR ka0 el0 el1 h0 n0 _ T5.heap _
    rw [e5]
    exact ⟨b2, k2, rfl, N5, O5, K5, sz_b2, E_b2, Ovr_b2, V_b2⟩

theorem d22_2_0 : decode jdk_65_method_119_code 0 = .ok (.aload_n 0, 1) := by decide +kernel
theorem d22_2_1 : decode jdk_65_method_119_code 1 = .ok (.iload_n 1, 1) := by decide +kernel
theorem d22_2_2 : decode jdk_65_method_119_code 2 = .ok (.aload_n 0, 1) := by decide +kernel
theorem d22_2_3 : decode jdk_65_method_119_code 3 = .ok (.invokevirtual 86, 3) := by decide +kernel
theorem d22_2_6 : decode jdk_65_method_119_code 6 = .ok (.invokestatic 300, 3) := by decide +kernel
theorem d22_2_9 : decode jdk_65_method_119_code 9 = .ok (.areturn, 1) := by decide +kernel
theorem pn_22_2 : plainName "java/util/Arrays" = true := by first | (simp [plainName, overriddenIn]; done) | decide +kernel
theorem pd_22_2_6 : parseMethodDescriptor "([Ljava/lang/Object;ILjava/lang/Class;)[Ljava/lang/Object;" = some ⟨[(.array (.object "java/lang/Object")), .int, (.object "java/lang/Class")], some (.array (.object "java/lang/Object"))⟩ := by decide +kernel
theorem ef_22_2 (m : MethodId) (a0 : Addr) : entryFrame m #[(.ref a0), (.int (2 : Int32))] 2 = mkF m 0 #[.val (.ref a0), .val (.int (2 : Int32))] [] := by first | (simp [entryFrame, mkF, argsToLocals, Value.category]; done) | rfl
def Q22_2 (Z : State) (a0 : Addr) (w_STRING : Addr) (w_OBJECT : Addr) (w_INT : Addr) (w_MAP : Addr) (w_BIGDECIMAL : Addr) (w_DATE : Addr) (w_LONG : Addr) (w_LIST : Addr) (w_BOOLEAN : Addr) (w_DEFAULTCAPACITY_EMPTY_ELEMENTDATA : Addr) (c_DEFAULTCAPACITY_EMPTY_ELEMENTDATA : Cell) (w_EMPTY_LIST : Addr) (w_EMPTY : Addr) (w_ELEMS : Addr) (c_ELEMS : Cell) (w_MIR : Addr) (ka0 : ClassId) (el0 : Addr) (el1 : Addr) (h0 : Heap) (n0 : Nat) (v : Option Value) (h : Heap) (L : List Loc) : Prop := ∃ (b2_2 : Addr) (k2_2 : ClassId), v = some (.ref b2_2) ∧ Fr n0 L ∧ Old Z n0 h ∧ Keep h0 h [] ∧ h0.size ≤ b2_2 ∧ (Exa Z h b2_2 "[Ljava/lang/Object;") ∧ (Ovr Z k2_2 "java/lang/Object") ∧ (Arv Z h b2_2 k2_2 (.object "java/lang/Object") (2 : Int32) [(.ref el0), (.ref el1)] .null)
set_option maxRecDepth 65536 in
set_option maxHeartbeats 40000000 in
theorem rm22_2 (l : Launch) (Z : State) (ar0 : Array Value) (hw : ∀ d ∈ tables_1, d.before ar0 Z = true) (ws : List Jvm.Cond) (a0 : Addr) (w_STRING : Addr) (w_OBJECT : Addr) (w_INT : Addr) (w_MAP : Addr) (w_BIGDECIMAL : Addr) (w_DATE : Addr) (w_LONG : Addr) (w_LIST : Addr) (w_BOOLEAN : Addr) (w_DEFAULTCAPACITY_EMPTY_ELEMENTDATA : Addr) (c_DEFAULTCAPACITY_EMPTY_ELEMENTDATA : Cell) (w_EMPTY_LIST : Addr) (w_EMPTY : Addr) (w_ELEMS : Addr) (c_ELEMS : Cell) (w_MIR : Addr) (ka0 : ClassId) (el0 : Addr) (el1 : Addr) (h0 : Heap) (n0 : Nat) (O0 : Old Z n0 h0) (F : Fx Z Z.heap w_STRING w_OBJECT w_INT w_MAP w_BIGDECIMAL w_DATE w_LONG w_LIST w_BOOLEAN w_DEFAULTCAPACITY_EMPTY_ELEMENTDATA c_DEFAULTCAPACITY_EMPTY_ELEMENTDATA w_EMPTY_LIST w_EMPTY w_ELEMS c_ELEMS w_MIR) (V_a00 : Arv Z h0 a0 ka0 (.object "java/lang/Object") (10 : Int32) [(.ref el0), (.ref el1), .null, .null, .null, .null, .null, .null, .null, .null] .null) (E_a00 : Exa Z h0 a0 "[Ljava/lang/Object;") (Ovr_a00 : Ovr Z ka0 "java/lang/Object") (E_el00 : Exa Z h0 el0 "com/example/declared_endpoints/declaredendpoints/model/FieldType$Container") (E_el10 : Exa Z h0 el1 "com/example/declared_endpoints/declaredendpoints/model/FieldType$Container") :
    MetFree l (⟨"java/util/Arrays", "copyOf", "([Ljava/lang/Object;I)[Ljava/lang/Object;"⟩ : MethodName) (head1 ((Jvm.Cond.code (⟨"java/util/Arrays", "copyOf", "([Ljava/lang/Object;I)[Ljava/lang/Object;"⟩ : MethodName) jdk_65_method_119_code 2 (some (.array (.object "java/lang/Object")))) :: ws) ({ frames := 2, cells := 1, slots := 2, locals := 33 } : Room)) (fun a U => a = #[(.ref a0), (.int (2 : Int32))] ∧ Z.Warmed39 U.vm ∧ U.heap = h0) (fun _ _ _ _ _ => True) (fun _ U o U' => ∃ v L, o = .returned v ∧ Q22_2 Z a0 w_STRING w_OBJECT w_INT w_MAP w_BIGDECIMAL w_DATE w_LONG w_LIST w_BOOLEAN w_DEFAULTCAPACITY_EMPTY_ELEMENTDATA c_DEFAULTCAPACITY_EMPTY_ELEMENTDATA w_EMPTY_LIST w_EMPTY w_ELEMS c_ELEMS w_MIR ka0 el0 el1 h0 n0 v U'.heap L ∧ FrameEnd U o U' L ({ frames := 2, cells := 1, slots := 2, locals := 33 } : Room).cells ({ frames := 2, cells := 1, slots := 2, locals := 33 } : Room).slots) := by
  obtain ⟨S_STRING, E_STRING, S_OBJECT, E_OBJECT, F_ordinal_STRING, F_ordinal_OBJECT, S_INT, E_INT, F_ordinal_INT, S_MAP, E_MAP, S_BIGDECIMAL, E_BIGDECIMAL, S_DATE, E_DATE, S_LONG, E_LONG, F_ordinal_LONG, F_ordinal_BIGDECIMAL, S_LIST, E_LIST, S_BOOLEAN, E_BOOLEAN, F_ordinal_BOOLEAN, F_ordinal_DATE, S_DEFAULTCAPACITY_EMPTY_ELEMENTDATA, E_DEFAULTCAPACITY_EMPTY_ELEMENTDATA, A_DEFAULTCAPACITY_EMPTY_ELEMENTDATA, L_DEFAULTCAPACITY_EMPTY_ELEMENTDATA, S_EMPTY_LIST, E_EMPTY_LIST, S_EMPTY, E_EMPTY, F_elements_EMPTY_LIST, A_ELEMS, L_ELEMS, M_MIR⟩ := id F
  refine MetFree.of_bodySF (plainFor_of_name pn_22_2) hisR ?_
  intro p e s m args below meth c s₁ Bd hml0 hP hK
  obtain ⟨rfl, hZ, hh⟩ := hP
  have hx := Bd.exec
  have hby := Bd.bytes
  have hml : c.maxLocals = 2 := hml0
  have hown : s.vm.findClass "java/util/Arrays" = some m.cls := findClass_of_methodNamed Bd.named
  have hnm := (name_of_methodNamed Bd.named Bd.method).1
  have X0 : Stand p l e ({ frames := 2, cells := 1, slots := 2, locals := 33 } : Room) s m #[(.ref a0), (.int (2 : Int32))] below meth c s₁ [] 0 0 := Stand.of_body Bd
  have e0 : s₁.heap = h0 := by rw [← hh, Bd.state]; rfl
  have N0 := Fr.nil n0
  have K0 : Keep h0 h0 [] := Keep.refl _ _
  have pre0 : ∀ t, Steps p.tables e below (s₁.setTop (mkF m 0 #[.val (.ref a0), .val (.int (2 : Int32))] [])) t → Steps p.tables e below (s₁.setTop (entryFrame m #[(.ref a0), (.int (2 : Int32))] 2)) t := fun t k => castTop (ef_22_2 m a0) k
  have V_a0 := V_a00
  have E_a0 := E_a00
  have Ovr_a0 := Ovr_a00
  have E_el0 := E_el00
  have E_el1 := E_el10
  obtain ⟨T1, X1, e1, st1⟩ := own_gcls X0 hx hZ hown (hw _ (List.mem_of_getElem? (i := 161) rfl)) (hw _ (List.mem_of_getElem? (i := 162) rfl)) (hw _ (List.mem_of_getElem? (i := 70) rfl)) (hw _ (List.mem_of_getElem? (i := 164) rfl)) (hw _ (List.mem_of_getElem? (i := 163) rfl)) (hw _ (List.mem_of_getElem? (i := 165) rfl)) e0 E_a0 M_MIR (g := (mkF m 3 #[.val (.ref a0), .val (.int (2 : Int32))] [(.ref a0), (.int (2 : Int32)), (.ref a0)])) rfl (by rw [hml]; rfl) rfl (hb hby d22_2_3) (by decide) (W := 2) (by show 2 * 0 + _ ≤ _; exact Nat.le_of_eq rfl) (by decide)
  obtain ⟨_, _, ⟨T2, L2, k2, n2⟩, -, X2, ⟨Lc2, hQ2, l2, y2, z2⟩, st2⟩ := Jvm.LawKit.callS X1 hx (y := (⟨"java/util/Arrays", "copyOf", "([Ljava/lang/Object;ILjava/lang/Class;)[Ljava/lang/Object;"⟩ : MethodName)) hown (mvT hZ (hw _ (List.mem_of_getElem? (i := 167) rfl))) (mvT hZ (hw _ (List.mem_of_getElem? (i := 168) rfl))) (mvT hZ (hw _ (List.mem_of_getElem? (i := 159) rfl))) (mvT hZ (hw _ (List.mem_of_getElem? (i := 169) rfl))) (by decide) (backOf (W := 0) (rm23_2 l Z ar0 hw [] a0 w_STRING w_OBJECT w_INT w_MAP w_BIGDECIMAL w_DATE w_LONG w_LIST w_BOOLEAN w_DEFAULTCAPACITY_EMPTY_ELEMENTDATA c_DEFAULTCAPACITY_EMPTY_ELEMENTDATA w_EMPTY_LIST w_EMPTY w_ELEMS c_ELEMS w_MIR ka0 el0 el1 h0 n0 O0 F V_a0 E_a0 Ovr_a0 E_el0 E_el1) hZ (hw _ (List.mem_of_getElem? (i := 169) rfl)) (hw _ (List.mem_of_getElem? (i := 159) rfl)) (by decide) (by decide)) (g := (mkF m 6 #[.val (.ref a0), .val (.int (2 : Int32))] [(.ref w_MIR), (.int (2 : Int32)), (.ref a0)])) rfl (by rw [hml]; rfl) (argsL := [(.ref a0), (.int (2 : Int32)), (.ref w_MIR)]) (rest := []) (lenOf pd_22_2_6 rfl) rfl (by show 2 * 0 + _ ≤ _; exact Nat.le_of_eq rfl) (hb hby d22_2_6) (fun _ _ => ⟨rfl, e1, (by decide : 0 + 1 ≤ _), (by decide : 0 + 2 ≤ _)⟩)
  dsimp only [Pt.U, Pt.locs, Pt.cells, Pt.slots] at X2 l2 y2 z2 st2 hQ2
  subst l2 y2 z2
  obtain ⟨b2_2, k2_2, rfl, N2q, O2, Kc2, sz2_0, fq2_0, fq2_1, fq2_2⟩ := hQ2
  have N2 := Fr.app N0 N2q
  have ne_a0_b2_2 : a0 ≠ b2_2 := Nat.ne_of_lt (Nat.lt_of_lt_of_le V_a0.lt sz2_0)
  have ne_el0_b2_2 : el0 ≠ b2_2 := Nat.ne_of_lt (Nat.lt_of_lt_of_le E_el0.lt sz2_0)
  have ne_el1_b2_2 : el1 ≠ b2_2 := Nat.ne_of_lt (Nat.lt_of_lt_of_le E_el1.lt sz2_0)
  have g_b2_2 : n0 ≤ b2_2 := Nat.le_trans (own_old_le O0) sz2_0
  have sz_b2_2 : h0.size ≤ b2_2 := Nat.le_trans K0.1 sz2_0
  have K2 : Keep h0 T2.heap [] := K0.trans Kc2 all0
  have V_a0 := (V_a0.keep Kc2 nin0)
  have E_a0 := (E_a0.keep Kc2)
  have E_el0 := (E_el0.keep Kc2)
  have E_el1 := (E_el1.keep Kc2)
  have E_b2_2 := fq2_0
  have Ovr_b2_2 := fq2_1
  have V_b2_2 := fq2_2
  obtain ⟨fs, hr, hrun, hended, hW, hsame⟩ := X2.leave (v := some (.ref b2_2)) (fun h => by rw [Bd.returns] at h; cases h)
  refine ⟨_, _, pre0 _ ?_, hrun, hended, _, _, rfl, ?_, ⟨_, rfl⟩, hW, hsame.mono (by decide) (by decide)⟩
  · show Steps p.tables e below (s₁.setTop (mkF m 0 #[.val (.ref a0), .val (.int (2 : Int32))] [])) _
    refine XS.aloadN X0.here hx rfl (hb hby d22_2_0) rfl rfl ?_
    show Steps p.tables e below (s₁.setTop (mkF m 1 #[.val (.ref a0), .val (.int (2 : Int32))] [(.ref a0)])) _
    refine XS.iloadN X0.here hx rfl (hb hby d22_2_1) rfl ?_
    show Steps p.tables e below (s₁.setTop (mkF m 2 #[.val (.ref a0), .val (.int (2 : Int32))] [(.int (2 : Int32)), (.ref a0)])) _
    refine XS.aloadN X0.here hx rfl (hb hby d22_2_2) rfl rfl ?_
    show Steps p.tables e below (s₁.setTop (mkF m 3 #[.val (.ref a0), .val (.int (2 : Int32))] [(.ref a0), (.int (2 : Int32)), (.ref a0)])) _
    refine st1 _ ?_
    show Steps p.tables e below (T1.setTop (mkF m 6 #[.val (.ref a0), .val (.int (2 : Int32))] [(.ref w_MIR), (.int (2 : Int32)), (.ref a0)])) _
    refine st2 _ ?_
    show Steps p.tables e below (T2.setTop (mkF m 9 #[.val (.ref a0), .val (.int (2 : Int32))] [(.ref b2_2)])) _
    exact retOut X2 hx Bd.returns rfl (Or.inr (Or.inr (Or.inr (Or.inr ⟨rfl, rfl, rfl⟩)))) (hb hby d22_2_9) hr
  · show Q22_2 Z a0 w_STRING w_OBJECT w_INT w_MAP w_BIGDECIMAL w_DATE w_LONG w_LIST w_BOOLEAN w_DEFAULTCAPACITY_EMPTY_ELEMENTDATA c_DEFAULTCAPACITY_EMPTY_ELEMENTDATA w_EMPTY_LIST w_EMPTY w_ELEMS c_ELEMS w_MIR ka0 el0 el1 h0 n0 _ T2.heap _
    skip
    exact ⟨b2_2, k2_2, rfl, N2, O2, K2, sz_b2_2, E_b2_2, Ovr_b2_2, V_b2_2⟩

theorem d21_2_0 : decode jdk_38_method_16_code 0 = .ok (.aload_n 0, 1) := by decide +kernel
theorem d21_2_1 : decode jdk_38_method_16_code 1 = .ok (.getfield 9, 3) := by decide +kernel
theorem d21_2_4 : decode jdk_38_method_16_code 4 = .ok (.aload_n 0, 1) := by decide +kernel
theorem d21_2_5 : decode jdk_38_method_16_code 5 = .ok (.getfield 48, 3) := by decide +kernel
theorem d21_2_8 : decode jdk_38_method_16_code 8 = .ok (.invokestatic 66, 3) := by decide +kernel
theorem d21_2_11 : decode jdk_38_method_16_code 11 = .ok (.areturn, 1) := by decide +kernel
theorem pn_21_2 : plainName "java/util/ArrayList" = true := by first | (simp [plainName, overriddenIn]; done) | decide +kernel
theorem pd_21_2_8 : parseMethodDescriptor "([Ljava/lang/Object;I)[Ljava/lang/Object;" = some ⟨[(.array (.object "java/lang/Object")), .int], some (.array (.object "java/lang/Object"))⟩ := by decide +kernel
theorem ef_21_2 (m : MethodId) (a0 : Addr) : entryFrame m #[(.ref a0)] 1 = mkF m 0 #[.val (.ref a0)] [] := by first | (simp [entryFrame, mkF, argsToLocals, Value.category]; done) | rfl
def Q21_2 (Z : State) (a0 : Addr) (w_STRING : Addr) (w_OBJECT : Addr) (w_INT : Addr) (w_MAP : Addr) (w_BIGDECIMAL : Addr) (w_DATE : Addr) (w_LONG : Addr) (w_LIST : Addr) (w_BOOLEAN : Addr) (w_DEFAULTCAPACITY_EMPTY_ELEMENTDATA : Addr) (c_DEFAULTCAPACITY_EMPTY_ELEMENTDATA : Cell) (w_EMPTY_LIST : Addr) (w_EMPTY : Addr) (w_ELEMS : Addr) (c_ELEMS : Cell) (w_MIR : Addr) (u_modCount_a0 : Value) (xa : Addr) (kxa : ClassId) (el0 : Addr) (el1 : Addr) (h0 : Heap) (n0 : Nat) (v : Option Value) (h : Heap) (L : List Loc) : Prop := ∃ (b3_2_2 : Addr) (k2_2_3 : ClassId), v = some (.ref b3_2_2) ∧ Fr n0 L ∧ Old Z n0 h ∧ Keep h0 h [] ∧ h0.size ≤ b3_2_2 ∧ (Exa Z h b3_2_2 "[Ljava/lang/Object;") ∧ (Ovr Z k2_2_3 "java/lang/Object") ∧ (Arv Z h b3_2_2 k2_2_3 (.object "java/lang/Object") (2 : Int32) [(.ref el0), (.ref el1)] .null)
set_option maxRecDepth 65536 in
set_option maxHeartbeats 40000000 in
theorem rm21_2 (l : Launch) (Z : State) (ar0 : Array Value) (hw : ∀ d ∈ tables_1, d.before ar0 Z = true) (ws : List Jvm.Cond) (a0 : Addr) (w_STRING : Addr) (w_OBJECT : Addr) (w_INT : Addr) (w_MAP : Addr) (w_BIGDECIMAL : Addr) (w_DATE : Addr) (w_LONG : Addr) (w_LIST : Addr) (w_BOOLEAN : Addr) (w_DEFAULTCAPACITY_EMPTY_ELEMENTDATA : Addr) (c_DEFAULTCAPACITY_EMPTY_ELEMENTDATA : Cell) (w_EMPTY_LIST : Addr) (w_EMPTY : Addr) (w_ELEMS : Addr) (c_ELEMS : Cell) (w_MIR : Addr) (u_modCount_a0 : Value) (xa : Addr) (kxa : ClassId) (el0 : Addr) (el1 : Addr) (h0 : Heap) (n0 : Nat) (O0 : Old Z n0 h0) (F : Fx Z Z.heap w_STRING w_OBJECT w_INT w_MAP w_BIGDECIMAL w_DATE w_LONG w_LIST w_BOOLEAN w_DEFAULTCAPACITY_EMPTY_ELEMENTDATA c_DEFAULTCAPACITY_EMPTY_ELEMENTDATA w_EMPTY_LIST w_EMPTY w_ELEMS c_ELEMS w_MIR) (E_a00 : Exa Z h0 a0 "java/util/ArrayList") (F_modCount_a00 : Fld Z h0 a0 "java/util/AbstractList" "modCount" "I" u_modCount_a0) (F_elementData_a00 : Fld Z h0 a0 "java/util/ArrayList" "elementData" "[Ljava/lang/Object;" (.ref xa)) (F_size_a00 : Fld Z h0 a0 "java/util/ArrayList" "size" "I" (.int (2 : Int32))) (V_xa0 : Arv Z h0 xa kxa (.object "java/lang/Object") (10 : Int32) [(.ref el0), (.ref el1), .null, .null, .null, .null, .null, .null, .null, .null] .null) (E_xa0 : Exa Z h0 xa "[Ljava/lang/Object;") (Ovr_xa0 : Ovr Z kxa "java/lang/Object") (E_el00 : Exa Z h0 el0 "com/example/declared_endpoints/declaredendpoints/model/FieldType$Container") (E_el10 : Exa Z h0 el1 "com/example/declared_endpoints/declaredendpoints/model/FieldType$Container") :
    MetFree l (⟨"java/util/ArrayList", "toArray", "()[Ljava/lang/Object;"⟩ : MethodName) (head1 ((Jvm.Cond.code (⟨"java/util/ArrayList", "toArray", "()[Ljava/lang/Object;"⟩ : MethodName) jdk_38_method_16_code 1 (some (.array (.object "java/lang/Object")))) :: ws) ({ frames := 3, cells := 1, slots := 2, locals := 46 } : Room)) (fun a U => a = #[(.ref a0)] ∧ Z.Warmed39 U.vm ∧ U.heap = h0) (fun _ _ _ _ _ => True) (fun _ U o U' => ∃ v L, o = .returned v ∧ Q21_2 Z a0 w_STRING w_OBJECT w_INT w_MAP w_BIGDECIMAL w_DATE w_LONG w_LIST w_BOOLEAN w_DEFAULTCAPACITY_EMPTY_ELEMENTDATA c_DEFAULTCAPACITY_EMPTY_ELEMENTDATA w_EMPTY_LIST w_EMPTY w_ELEMS c_ELEMS w_MIR u_modCount_a0 xa kxa el0 el1 h0 n0 v U'.heap L ∧ FrameEnd U o U' L ({ frames := 3, cells := 1, slots := 2, locals := 46 } : Room).cells ({ frames := 3, cells := 1, slots := 2, locals := 46 } : Room).slots) := by
  obtain ⟨S_STRING, E_STRING, S_OBJECT, E_OBJECT, F_ordinal_STRING, F_ordinal_OBJECT, S_INT, E_INT, F_ordinal_INT, S_MAP, E_MAP, S_BIGDECIMAL, E_BIGDECIMAL, S_DATE, E_DATE, S_LONG, E_LONG, F_ordinal_LONG, F_ordinal_BIGDECIMAL, S_LIST, E_LIST, S_BOOLEAN, E_BOOLEAN, F_ordinal_BOOLEAN, F_ordinal_DATE, S_DEFAULTCAPACITY_EMPTY_ELEMENTDATA, E_DEFAULTCAPACITY_EMPTY_ELEMENTDATA, A_DEFAULTCAPACITY_EMPTY_ELEMENTDATA, L_DEFAULTCAPACITY_EMPTY_ELEMENTDATA, S_EMPTY_LIST, E_EMPTY_LIST, S_EMPTY, E_EMPTY, F_elements_EMPTY_LIST, A_ELEMS, L_ELEMS, M_MIR⟩ := id F
  refine MetFree.of_bodySF (plainFor_of_name pn_21_2) hisR ?_
  intro p e s m args below meth c s₁ Bd hml0 hP hK
  obtain ⟨rfl, hZ, hh⟩ := hP
  have hx := Bd.exec
  have hby := Bd.bytes
  have hml : c.maxLocals = 1 := hml0
  have hown : s.vm.findClass "java/util/ArrayList" = some m.cls := findClass_of_methodNamed Bd.named
  have hnm := (name_of_methodNamed Bd.named Bd.method).1
  have X0 : Stand p l e ({ frames := 3, cells := 1, slots := 2, locals := 46 } : Room) s m #[(.ref a0)] below meth c s₁ [] 0 0 := Stand.of_body Bd
  have e0 : s₁.heap = h0 := by rw [← hh, Bd.state]; rfl
  have N0 := Fr.nil n0
  have K0 : Keep h0 h0 [] := Keep.refl _ _
  have pre0 : ∀ t, Steps p.tables e below (s₁.setTop (mkF m 0 #[.val (.ref a0)] [])) t → Steps p.tables e below (s₁.setTop (entryFrame m #[(.ref a0)] 1)) t := fun t k => castTop (ef_21_2 m a0) k
  have E_a0 := E_a00
  have F_modCount_a0 := F_modCount_a00
  have F_elementData_a0 := F_elementData_a00
  have F_size_a0 := F_size_a00
  have V_xa := V_xa0
  have E_xa := E_xa0
  have Ovr_xa := Ovr_xa0
  have E_el0 := E_el00
  have E_el1 := E_el10
  obtain ⟨T1, X1, e1, st1⟩ := getF X0 hx hZ hown (host := "") (Or.inl (hw _ (List.mem_of_getElem? (i := 25) rfl))) Via.refl e0 F_elementData_a0 (g := (mkF m 1 #[.val (.ref a0)] [(.ref a0)])) rfl rfl (hb hby d21_2_1)
  obtain ⟨T2, X2, e2, st2⟩ := getF X1 hx hZ hown (host := "") (Or.inl (hw _ (List.mem_of_getElem? (i := 81) rfl))) Via.refl e1 F_size_a0 (g := (mkF m 5 #[.val (.ref a0)] [(.ref a0), (.ref xa)])) rfl rfl (hb hby d21_2_5)
  obtain ⟨_, _, ⟨T3, L3, k3, n3⟩, -, X3, ⟨Lc3, hQ3, l3, y3, z3⟩, st3⟩ := Jvm.LawKit.callS X2 hx (y := (⟨"java/util/Arrays", "copyOf", "([Ljava/lang/Object;I)[Ljava/lang/Object;"⟩ : MethodName)) hown (mvT hZ (hw _ (List.mem_of_getElem? (i := 157) rfl))) (mvT hZ (hw _ (List.mem_of_getElem? (i := 158) rfl))) (mvT hZ (hw _ (List.mem_of_getElem? (i := 159) rfl))) (mvT hZ (hw _ (List.mem_of_getElem? (i := 160) rfl))) (by decide) (backOf (W := 0) (rm22_2 l Z ar0 hw [] xa w_STRING w_OBJECT w_INT w_MAP w_BIGDECIMAL w_DATE w_LONG w_LIST w_BOOLEAN w_DEFAULTCAPACITY_EMPTY_ELEMENTDATA c_DEFAULTCAPACITY_EMPTY_ELEMENTDATA w_EMPTY_LIST w_EMPTY w_ELEMS c_ELEMS w_MIR kxa el0 el1 h0 n0 O0 F V_xa E_xa Ovr_xa E_el0 E_el1) hZ (hw _ (List.mem_of_getElem? (i := 160) rfl)) (hw _ (List.mem_of_getElem? (i := 159) rfl)) (by decide) (by decide)) (g := (mkF m 8 #[.val (.ref a0)] [(.int (2 : Int32)), (.ref xa)])) rfl (by rw [hml]; rfl) (argsL := [(.ref xa), (.int (2 : Int32))]) (rest := []) (lenOf pd_21_2_8 rfl) rfl (by show 2 * 0 + _ ≤ _; exact Nat.le_of_eq rfl) (hb hby d21_2_8) (fun _ _ => ⟨rfl, e2, (by decide : 0 + 1 ≤ _), (by decide : 0 + 2 ≤ _)⟩)
  dsimp only [Pt.U, Pt.locs, Pt.cells, Pt.slots] at X3 l3 y3 z3 st3 hQ3
  subst l3 y3 z3
  obtain ⟨b3_2_2, k2_2_3, rfl, N3q, O3, Kc3, sz3_0, fq3_0, fq3_1, fq3_2⟩ := hQ3
  have N3 := Fr.app N0 N3q
  have ne_a0_b3_2_2 : a0 ≠ b3_2_2 := Nat.ne_of_lt (Nat.lt_of_lt_of_le E_a0.lt sz3_0)
  have ne_xa_b3_2_2 : xa ≠ b3_2_2 := Nat.ne_of_lt (Nat.lt_of_lt_of_le V_xa.lt sz3_0)
  have ne_el0_b3_2_2 : el0 ≠ b3_2_2 := Nat.ne_of_lt (Nat.lt_of_lt_of_le E_el0.lt sz3_0)
  have ne_el1_b3_2_2 : el1 ≠ b3_2_2 := Nat.ne_of_lt (Nat.lt_of_lt_of_le E_el1.lt sz3_0)
  have g_b3_2_2 : n0 ≤ b3_2_2 := Nat.le_trans (own_old_le O0) sz3_0
  have sz_b3_2_2 : h0.size ≤ b3_2_2 := Nat.le_trans K0.1 sz3_0
  have K3 : Keep h0 T3.heap [] := K0.trans Kc3 all0
  have E_a0 := (E_a0.keep Kc3)
  have F_modCount_a0 := (F_modCount_a0.keep Kc3 nin0)
  have F_elementData_a0 := (F_elementData_a0.keep Kc3 nin0)
  have F_size_a0 := (F_size_a0.keep Kc3 nin0)
  have V_xa := (V_xa.keep Kc3 nin0)
  have E_xa := (E_xa.keep Kc3)
  have E_el0 := (E_el0.keep Kc3)
  have E_el1 := (E_el1.keep Kc3)
  have E_b3_2_2 := fq3_0
  have Ovr_b3_2_2 := fq3_1
  have V_b3_2_2 := fq3_2
  obtain ⟨fs, hr, hrun, hended, hW, hsame⟩ := X3.leave (v := some (.ref b3_2_2)) (fun h => by rw [Bd.returns] at h; cases h)
  refine ⟨_, _, pre0 _ ?_, hrun, hended, _, _, rfl, ?_, ⟨_, rfl⟩, hW, hsame.mono (by decide) (by decide)⟩
  · show Steps p.tables e below (s₁.setTop (mkF m 0 #[.val (.ref a0)] [])) _
    refine XS.aloadN X0.here hx rfl (hb hby d21_2_0) rfl rfl ?_
    show Steps p.tables e below (s₁.setTop (mkF m 1 #[.val (.ref a0)] [(.ref a0)])) _
    refine st1 _ ?_
    show Steps p.tables e below (T1.setTop (mkF m 4 #[.val (.ref a0)] [(.ref xa)])) _
    refine XS.aloadN X1.here hx rfl (hb hby d21_2_4) rfl rfl ?_
    show Steps p.tables e below (T1.setTop (mkF m 5 #[.val (.ref a0)] [(.ref a0), (.ref xa)])) _
    refine st2 _ ?_
    show Steps p.tables e below (T2.setTop (mkF m 8 #[.val (.ref a0)] [(.int (2 : Int32)), (.ref xa)])) _
    refine st3 _ ?_
    show Steps p.tables e below (T3.setTop (mkF m 11 #[.val (.ref a0)] [(.ref b3_2_2)])) _
    exact retOut X3 hx Bd.returns rfl (Or.inr (Or.inr (Or.inr (Or.inr ⟨rfl, rfl, rfl⟩)))) (hb hby d21_2_11) hr
  · show Q21_2 Z a0 w_STRING w_OBJECT w_INT w_MAP w_BIGDECIMAL w_DATE w_LONG w_LIST w_BOOLEAN w_DEFAULTCAPACITY_EMPTY_ELEMENTDATA c_DEFAULTCAPACITY_EMPTY_ELEMENTDATA w_EMPTY_LIST w_EMPTY w_ELEMS c_ELEMS w_MIR u_modCount_a0 xa kxa el0 el1 h0 n0 _ T3.heap _
    skip
    exact ⟨b3_2_2, k2_2_3, rfl, N3, O3, K3, sz_b3_2_2, E_b3_2_2, Ovr_b3_2_2, V_b3_2_2⟩

theorem d25_2_0 : decode jdk_40_method_47_code 0 = .ok (.aload_n 0, 1) := by decide +kernel
theorem d25_2_1 : decode jdk_40_method_47_code 1 = .ok (.arraylength, 1) := by decide +kernel
theorem d25_2_2 : decode jdk_40_method_47_code 2 = .ok (.tableswitch 57 0 2 #[26, 32, 43], 26) := by decide +kernel
theorem d25_2_45 : decode jdk_40_method_47_code 45 = .ok (.new 96, 3) := by decide +kernel
theorem d25_2_48 : decode jdk_40_method_47_code 48 = .ok (.dup, 1) := by decide +kernel
theorem d25_2_49 : decode jdk_40_method_47_code 49 = .ok (.aload_n 0, 1) := by decide +kernel
theorem d25_2_50 : decode jdk_40_method_47_code 50 = .ok (.iconst 0, 1) := by decide +kernel
theorem d25_2_51 : decode jdk_40_method_47_code 51 = .ok (.aaload, 1) := by decide +kernel
theorem d25_2_52 : decode jdk_40_method_47_code 52 = .ok (.aload_n 0, 1) := by decide +kernel
theorem d25_2_53 : decode jdk_40_method_47_code 53 = .ok (.iconst 1, 1) := by decide +kernel
theorem d25_2_54 : decode jdk_40_method_47_code 54 = .ok (.aaload, 1) := by decide +kernel
theorem d25_2_55 : decode jdk_40_method_47_code 55 = .ok (.invokespecial 100, 3) := by decide +kernel
theorem d25_2_58 : decode jdk_40_method_47_code 58 = .ok (.areturn, 1) := by decide +kernel
theorem pn_25_2 : plainName "java/util/List" = true := by first | (simp [plainName, overriddenIn]; done) | decide +kernel
theorem pd_25_2_55 : parseMethodDescriptor "(Ljava/lang/Object;Ljava/lang/Object;)V" = some ⟨[(.object "java/lang/Object"), (.object "java/lang/Object")], none⟩ := by decide +kernel
theorem ef_25_2 (m : MethodId) (a0 : Addr) : entryFrame m #[(.ref a0)] 2 = mkF m 0 #[.val (.ref a0), .unset] [] := by first | (simp [entryFrame, mkF, argsToLocals, Value.category]; done) | rfl
def Q25_2 (Z : State) (a0 : Addr) (w_STRING : Addr) (w_OBJECT : Addr) (w_INT : Addr) (w_MAP : Addr) (w_BIGDECIMAL : Addr) (w_DATE : Addr) (w_LONG : Addr) (w_LIST : Addr) (w_BOOLEAN : Addr) (w_DEFAULTCAPACITY_EMPTY_ELEMENTDATA : Addr) (c_DEFAULTCAPACITY_EMPTY_ELEMENTDATA : Cell) (w_EMPTY_LIST : Addr) (w_EMPTY : Addr) (w_ELEMS : Addr) (c_ELEMS : Cell) (w_MIR : Addr) (ka0 : ClassId) (el0 : Addr) (el1 : Addr) (h0 : Heap) (n0 : Nat) (v : Option Value) (h : Heap) (L : List Loc) : Prop := ∃ (b2 : Addr) , v = some (.ref b2) ∧ Fr n0 L ∧ Old Z n0 h ∧ Keep h0 h [] ∧ h0.size ≤ b2 ∧ (Exa Z h b2 "java/util/ImmutableCollections$List12") ∧ (Fld Z h b2 "java/util/ImmutableCollections$List12" "e0" "Ljava/lang/Object;" (.ref el0)) ∧ (Fld Z h b2 "java/util/ImmutableCollections$List12" "e1" "Ljava/lang/Object;" (.ref el1))
set_option maxRecDepth 65536 in
set_option maxHeartbeats 40000000 in
theorem rm25_2 (l : Launch) (Z : State) (ar0 : Array Value) (hw : ∀ d ∈ tables_1, d.before ar0 Z = true) (ws : List Jvm.Cond) (a0 : Addr) (w_STRING : Addr) (w_OBJECT : Addr) (w_INT : Addr) (w_MAP : Addr) (w_BIGDECIMAL : Addr) (w_DATE : Addr) (w_LONG : Addr) (w_LIST : Addr) (w_BOOLEAN : Addr) (w_DEFAULTCAPACITY_EMPTY_ELEMENTDATA : Addr) (c_DEFAULTCAPACITY_EMPTY_ELEMENTDATA : Cell) (w_EMPTY_LIST : Addr) (w_EMPTY : Addr) (w_ELEMS : Addr) (c_ELEMS : Cell) (w_MIR : Addr) (ka0 : ClassId) (el0 : Addr) (el1 : Addr) (h0 : Heap) (n0 : Nat) (O0 : Old Z n0 h0) (F : Fx Z Z.heap w_STRING w_OBJECT w_INT w_MAP w_BIGDECIMAL w_DATE w_LONG w_LIST w_BOOLEAN w_DEFAULTCAPACITY_EMPTY_ELEMENTDATA c_DEFAULTCAPACITY_EMPTY_ELEMENTDATA w_EMPTY_LIST w_EMPTY w_ELEMS c_ELEMS w_MIR) (V_a00 : Arv Z h0 a0 ka0 (.object "java/lang/Object") (2 : Int32) [(.ref el0), (.ref el1)] .null) (E_a00 : Exa Z h0 a0 "[Ljava/lang/Object;") (Ovr_a00 : Ovr Z ka0 "java/lang/Object") (E_el00 : Exa Z h0 el0 "com/example/declared_endpoints/declaredendpoints/model/FieldType$Container") (E_el10 : Exa Z h0 el1 "com/example/declared_endpoints/declaredendpoints/model/FieldType$Container") :
    MetFree l (⟨"java/util/List", "of", "([Ljava/lang/Object;)Ljava/util/List;"⟩ : MethodName) (head1 ((Jvm.Cond.code (⟨"java/util/List", "of", "([Ljava/lang/Object;)Ljava/util/List;"⟩ : MethodName) jdk_40_method_47_code 2 (some (.object "java/util/List"))) :: ws) ({ frames := 5, cells := 1, slots := 2, locals := 63 } : Room)) (fun a U => a = #[(.ref a0)] ∧ Z.Warmed39 U.vm ∧ U.heap = h0) (fun _ _ _ _ _ => True) (fun _ U o U' => ∃ v L, o = .returned v ∧ Q25_2 Z a0 w_STRING w_OBJECT w_INT w_MAP w_BIGDECIMAL w_DATE w_LONG w_LIST w_BOOLEAN w_DEFAULTCAPACITY_EMPTY_ELEMENTDATA c_DEFAULTCAPACITY_EMPTY_ELEMENTDATA w_EMPTY_LIST w_EMPTY w_ELEMS c_ELEMS w_MIR ka0 el0 el1 h0 n0 v U'.heap L ∧ FrameEnd U o U' L ({ frames := 5, cells := 1, slots := 2, locals := 63 } : Room).cells ({ frames := 5, cells := 1, slots := 2, locals := 63 } : Room).slots) := by
  obtain ⟨S_STRING, E_STRING, S_OBJECT, E_OBJECT, F_ordinal_STRING, F_ordinal_OBJECT, S_INT, E_INT, F_ordinal_INT, S_MAP, E_MAP, S_BIGDECIMAL, E_BIGDECIMAL, S_DATE, E_DATE, S_LONG, E_LONG, F_ordinal_LONG, F_ordinal_BIGDECIMAL, S_LIST, E_LIST, S_BOOLEAN, E_BOOLEAN, F_ordinal_BOOLEAN, F_ordinal_DATE, S_DEFAULTCAPACITY_EMPTY_ELEMENTDATA, E_DEFAULTCAPACITY_EMPTY_ELEMENTDATA, A_DEFAULTCAPACITY_EMPTY_ELEMENTDATA, L_DEFAULTCAPACITY_EMPTY_ELEMENTDATA, S_EMPTY_LIST, E_EMPTY_LIST, S_EMPTY, E_EMPTY, F_elements_EMPTY_LIST, A_ELEMS, L_ELEMS, M_MIR⟩ := id F
  refine MetFree.of_bodySF (plainFor_of_name pn_25_2) hisR ?_
  intro p e s m args below meth c s₁ Bd hml0 hP hK
  obtain ⟨rfl, hZ, hh⟩ := hP
  have hx := Bd.exec
  have hby := Bd.bytes
  have hml : c.maxLocals = 2 := hml0
  have hown : s.vm.findClass "java/util/List" = some m.cls := findClass_of_methodNamed Bd.named
  have hnm := (name_of_methodNamed Bd.named Bd.method).1
  have X0 : Stand p l e ({ frames := 5, cells := 1, slots := 2, locals := 63 } : Room) s m #[(.ref a0)] below meth c s₁ [] 0 0 := Stand.of_body Bd
  have e0 : s₁.heap = h0 := by rw [← hh, Bd.state]; rfl
  have N0 := Fr.nil n0
  have K0 : Keep h0 h0 [] := Keep.refl _ _
  have pre0 : ∀ t, Steps p.tables e below (s₁.setTop (mkF m 0 #[.val (.ref a0), .unset] [])) t → Steps p.tables e below (s₁.setTop (entryFrame m #[(.ref a0)] 2)) t := fun t k => castTop (ef_25_2 m a0) k
  have V_a0 := V_a00
  have E_a0 := E_a00
  have Ovr_a0 := Ovr_a00
  have E_el0 := E_el00
  have E_el1 := E_el10
  obtain ⟨c1, Ar1, q1, S1, M1, Ha1, G1⟩ := id V_a0
  obtain ⟨T2, h2, X2, e2, E2, A2, D2, -, st2⟩ := newO X0 hx hZ hown (hw _ (List.mem_of_getElem? (i := 182) rfl)) (hw _ (List.mem_of_getElem? (i := 183) rfl)) (hw _ (List.mem_of_getElem? (i := 184) rfl)) e0 (g := (mkF m 45 #[.val (.ref a0), .unset] [])) rfl (hb hby d25_2_45) (by decide) (by decide)
  obtain ⟨b2, g2⟩ : ∃ z, z = h0.size := ⟨_, rfl⟩
  rw [← g2] at A2 D2 st2
  have ne_a0_b2 : a0 ≠ b2 := Nat.ne_of_lt (Nat.lt_of_lt_of_le V_a0.lt (Nat.le_of_eq g2.symm))
  have ne_el0_b2 : el0 ≠ b2 := Nat.ne_of_lt (Nat.lt_of_lt_of_le E_el0.lt (Nat.le_of_eq g2.symm))
  have ne_el1_b2 : el1 ≠ b2 := Nat.ne_of_lt (Nat.lt_of_lt_of_le E_el1.lt (Nat.le_of_eq g2.symm))
  have g_b2 : n0 ≤ b2 := Nat.le_trans (own_old_le O0) (Nat.le_of_eq g2.symm)
  have sz_b2 : h0.size ≤ b2 := Nat.le_trans K0.1 (Nat.le_of_eq g2.symm)
  have O2 : Old Z n0 h2 := O0.ext E2
  have K2 : Keep h0 h2 [] := K0.ext E2
  have V_a0 := (V_a0.ext E2)
  have E_a0 := (E_a0.ext E2)
  have E_el0 := (E_el0.ext E2)
  have E_el1 := (E_el1.ext E2)
  have E_b2 := A2
  have F_e0_b2 : Fld Z h2 b2 "java/util/ImmutableCollections$List12" "e0" "Ljava/lang/Object;" .null := D2 (Or.inr (hw _ (List.mem_of_getElem? (i := 207) rfl))) (ty := (.object "java/lang/Object")) (by decide)
  have F_e1_b2 : Fld Z h2 b2 "java/util/ImmutableCollections$List12" "e1" "Ljava/lang/Object;" .null := D2 (Or.inr (hw _ (List.mem_of_getElem? (i := 209) rfl))) (ty := (.object "java/lang/Object")) (by decide)
  obtain ⟨c3, Ar3, q3, S3, M3, Ha3, G3⟩ := id V_a0
  have hin3 : ¬ ((0 : Int32) < 0 ∨ c3.slots.size ≤ ((0 : Int32)).toNatClampNeg) := inb_of S3 ⟨by decide, by decide⟩
  obtain ⟨c4, Ar4, q4, S4, M4, Ha4, G4⟩ := id V_a0
  have hin4 : ¬ ((1 : Int32) < 0 ∨ c4.slots.size ≤ ((1 : Int32)).toNatClampNeg) := inb_of S4 ⟨by decide, by decide⟩
  obtain ⟨_, _, ⟨T5, L5, k5, n5⟩, -, X5, ⟨Lc5, hQ5, l5, y5, z5⟩, st5⟩ := X2.specialBack hx (y := (⟨"java/util/ImmutableCollections$List12", "<init>", "(Ljava/lang/Object;Ljava/lang/Object;)V"⟩ : MethodName)) rfl hown (mvT hZ (hw _ (List.mem_of_getElem? (i := 185) rfl))) (mvT hZ (hw _ (List.mem_of_getElem? (i := 186) rfl))) (mvT hZ (hw _ (List.mem_of_getElem? (i := 188) rfl))) (by decide) (backOf (W := 1) (rm26 l Z ar0 hw [] b2 el0 el1 w_STRING w_OBJECT w_INT w_MAP w_BIGDECIMAL w_DATE w_LONG w_LIST w_BOOLEAN w_DEFAULTCAPACITY_EMPTY_ELEMENTDATA c_DEFAULTCAPACITY_EMPTY_ELEMENTDATA w_EMPTY_LIST w_EMPTY w_ELEMS c_ELEMS w_MIR .null .null h2 n0 O2 F E_b2 F_e0_b2 g_b2 F_e1_b2) hZ (hw _ (List.mem_of_getElem? (i := 188) rfl)) (hw _ (List.mem_of_getElem? (i := 184) rfl)) (by decide) (by decide)) (g := (mkF m 55 #[.val (.ref a0), .unset] [(.ref el1), (.ref el0), (.ref b2), (.ref b2)])) rfl (by rw [hml]; rfl) (Steps.refl _) (a := b2) (argsL := [(.ref el0), (.ref el1)]) (rest := [(.ref b2)]) (lenOf pd_25_2_55 rfl) rfl (by show 2 * 0 + _ ≤ _; exact Nat.le_of_eq rfl) (hb hby d25_2_55) (fun _ _ => ⟨rfl, e2, (by decide : 1 + 0 ≤ _), (by decide : 2 + 0 ≤ _)⟩)
  dsimp only [Pt.U, Pt.locs, Pt.cells, Pt.slots] at X5 l5 y5 z5 st5 hQ5
  subst l5 y5 z5
  obtain ⟨rfl, N5q, O5, Kc5, fq5_0, fq5_1⟩ := hQ5
  have N5 := Fr.app N0 N5q
  have K5 : Keep h0 T5.heap [] := K2.trans Kc5 (allS (Or.inr sz_b2) all0)
  have V_a0 := (V_a0.keep Kc5 (ninS ne_a0_b2 nin0))
  have E_a0 := (E_a0.keep Kc5)
  have E_el0 := (E_el0.keep Kc5)
  have E_el1 := (E_el1.keep Kc5)
  have E_b2 := (E_b2.keep Kc5)
  have F_e0_b2 := fq5_0
  have F_e1_b2 := fq5_1
  obtain ⟨fs, hr, hrun, hended, hW, hsame⟩ := X5.leave (v := some (.ref b2)) (fun h => by rw [Bd.returns] at h; cases h)
  refine ⟨_, _, pre0 _ ?_, hrun, hended, _, _, rfl, ?_, ⟨_, rfl⟩, hW, hsame.mono (by decide) (by decide)⟩
  · show Steps p.tables e below (s₁.setTop (mkF m 0 #[.val (.ref a0), .unset] [])) _
    refine XS.aloadN X0.here hx rfl (hb hby d25_2_0) rfl rfl ?_
    show Steps p.tables e below (s₁.setTop (mkF m 1 #[.val (.ref a0), .unset] [(.ref a0)])) _
    refine X0.arraylength hx (by rw [e0]; exact Ar1.1) (State.isArrayOf_alike hZ.alike Ar1.2.1) (g := (mkF m 1 #[.val (.ref a0), .unset] [(.ref a0)])) rfl rfl (hb hby d25_2_1) _ ?_
    rw [len_of S1 M1]
    show Steps p.tables e below (s₁.setTop (mkF m 2 #[.val (.ref a0), .unset] [(.int (2 : Int32))])) _
    refine XS.tswIn X0.here hx rfl (pc0 := 2) (pc' := 45) rfl (hb hby d25_2_2) rfl (by decide) rfl (by decide) (by decide) ?_
    show Steps p.tables e below (s₁.setTop (mkF m 45 #[.val (.ref a0), .unset] [])) _
    refine st2 _ ?_
    show Steps p.tables e below (T2.setTop (mkF m 48 #[.val (.ref a0), .unset] [(.ref b2)])) _
    refine XS.dup X2.here hx rfl (hb hby d25_2_48) rfl rfl ?_
    show Steps p.tables e below (T2.setTop (mkF m 49 #[.val (.ref a0), .unset] [(.ref b2), (.ref b2)])) _
    refine XS.aloadN X2.here hx rfl (hb hby d25_2_49) rfl rfl ?_
    show Steps p.tables e below (T2.setTop (mkF m 50 #[.val (.ref a0), .unset] [(.ref a0), (.ref b2), (.ref b2)])) _
    refine XS.iconst X2.here hx rfl (hb hby d25_2_50) ?_
    show Steps p.tables e below (T2.setTop (mkF m 51 #[.val (.ref a0), .unset] [(.int (0 : Int32)), (.ref a0), (.ref b2), (.ref b2)])) _
    refine X2.aaload hx (j := (0 : Int32)) (v := (.ref el0)) (by rw [e2]; exact Ar3.1) (State.isArrayOf_alike hZ.alike Ar3.2.1) rfl Ar3.2.2 hin3 (Ha3.at hin3 rfl) (g := (mkF m 51 #[.val (.ref a0), .unset] [(.int (0 : Int32)), (.ref a0), (.ref b2), (.ref b2)])) rfl rfl (hb hby d25_2_51) _ ?_
    show Steps p.tables e below (T2.setTop (mkF m 52 #[.val (.ref a0), .unset] [(.ref el0), (.ref b2), (.ref b2)])) _
    refine XS.aloadN X2.here hx rfl (hb hby d25_2_52) rfl rfl ?_
    show Steps p.tables e below (T2.setTop (mkF m 53 #[.val (.ref a0), .unset] [(.ref a0), (.ref el0), (.ref b2), (.ref b2)])) _
    refine XS.iconst X2.here hx rfl (hb hby d25_2_53) ?_
    show Steps p.tables e below (T2.setTop (mkF m 54 #[.val (.ref a0), .unset] [(.int (1 : Int32)), (.ref a0), (.ref el0), (.ref b2), (.ref b2)])) _
    refine X2.aaload hx (j := (1 : Int32)) (v := (.ref el1)) (by rw [e2]; exact Ar4.1) (State.isArrayOf_alike hZ.alike Ar4.2.1) rfl Ar4.2.2 hin4 (Ha4.at hin4 rfl) (g := (mkF m 54 #[.val (.ref a0), .unset] [(.int (1 : Int32)), (.ref a0), (.ref el0), (.ref b2), (.ref b2)])) rfl rfl (hb hby d25_2_54) _ ?_
    show Steps p.tables e below (T2.setTop (mkF m 55 #[.val (.ref a0), .unset] [(.ref el1), (.ref el0), (.ref b2), (.ref b2)])) _
    refine st5.trans ?_
    show Steps p.tables e below (T5.setTop (mkF m 58 #[.val (.ref a0), .unset] [(.ref b2)])) _
    exact retOut X5 hx Bd.returns rfl (Or.inr (Or.inr (Or.inr (Or.inr ⟨rfl, rfl, rfl⟩)))) (hb hby d25_2_58) hr
  · show Q25_2 Z a0 w_STRING w_OBJECT w_INT w_MAP w_BIGDECIMAL w_DATE w_LONG w_LIST w_BOOLEAN w_DEFAULTCAPACITY_EMPTY_ELEMENTDATA c_DEFAULTCAPACITY_EMPTY_ELEMENTDATA w_EMPTY_LIST w_EMPTY w_ELEMS c_ELEMS w_MIR ka0 el0 el1 h0 n0 _ T5.heap _
    skip
    exact ⟨b2, rfl, N5, O5, K5, sz_b2, E_b2, F_e0_b2, F_e1_b2⟩

theorem d10_2_0 : decode jdk_56_method_3_code 0 = .ok (.aload_n 0, 1) := by decide +kernel
theorem d10_2_1 : decode jdk_56_method_3_code 1 = .ok (.instanceof 10, 3) := by decide +kernel
theorem d10_2_4 : decode jdk_56_method_3_code 4 = .ok (.ifCond .ne 22, 3) := by decide +kernel
theorem d10_2_7 : decode jdk_56_method_3_code 7 = .ok (.aload_n 0, 1) := by decide +kernel
theorem d10_2_8 : decode jdk_56_method_3_code 8 = .ok (.instanceof 12, 3) := by decide +kernel
theorem d10_2_11 : decode jdk_56_method_3_code 11 = .ok (.ifCond .eq 20, 3) := by decide +kernel
theorem d10_2_31 : decode jdk_56_method_3_code 31 = .ok (.aload_n 0, 1) := by decide +kernel
theorem d10_2_32 : decode jdk_56_method_3_code 32 = .ok (.invokeinterface 20 1, 5) := by decide +kernel
theorem d10_2_37 : decode jdk_56_method_3_code 37 = .ok (.ifCond .eq 7, 3) := by decide +kernel
theorem d10_2_44 : decode jdk_56_method_3_code 44 = .ok (.aload_n 0, 1) := by decide +kernel
theorem d10_2_45 : decode jdk_56_method_3_code 45 = .ok (.invokeinterface 30 1, 5) := by decide +kernel
theorem d10_2_50 : decode jdk_56_method_3_code 50 = .ok (.invokestatic 34, 3) := by decide +kernel
theorem d10_2_53 : decode jdk_56_method_3_code 53 = .ok (.areturn, 1) := by decide +kernel
theorem pn_10_2 : plainName "java/util/ImmutableCollections" = true := by first | (simp [plainName, overriddenIn]; done) | decide +kernel
theorem pd_10_2_32 : parseMethodDescriptor "()Z" = some ⟨[], some .boolean⟩ := by decide +kernel
theorem pd_10_2_45 : parseMethodDescriptor "()[Ljava/lang/Object;" = some ⟨[], some (.array (.object "java/lang/Object"))⟩ := by decide +kernel
theorem pd_10_2_50 : parseMethodDescriptor "([Ljava/lang/Object;)Ljava/util/List;" = some ⟨[(.array (.object "java/lang/Object"))], some (.object "java/util/List")⟩ := by decide +kernel
theorem ef_10_2 (m : MethodId) (a0 : Addr) : entryFrame m #[(.ref a0)] 2 = mkF m 0 #[.val (.ref a0), .unset] [] := by first | (simp [entryFrame, mkF, argsToLocals, Value.category]; done) | rfl
def Q10_2 (Z : State) (a0 : Addr) (w_STRING : Addr) (w_OBJECT : Addr) (w_INT : Addr) (w_MAP : Addr) (w_BIGDECIMAL : Addr) (w_DATE : Addr) (w_LONG : Addr) (w_LIST : Addr) (w_BOOLEAN : Addr) (w_DEFAULTCAPACITY_EMPTY_ELEMENTDATA : Addr) (c_DEFAULTCAPACITY_EMPTY_ELEMENTDATA : Cell) (w_EMPTY_LIST : Addr) (w_EMPTY : Addr) (w_ELEMS : Addr) (c_ELEMS : Cell) (w_MIR : Addr) (u_modCount_a0 : Value) (xa : Addr) (kxa : ClassId) (el0 : Addr) (el1 : Addr) (h0 : Heap) (n0 : Nat) (v : Option Value) (h : Heap) (L : List Loc) : Prop := ∃ (b5_2 : Addr) , v = some (.ref b5_2) ∧ Fr n0 L ∧ Old Z n0 h ∧ Keep h0 h [] ∧ h0.size ≤ b5_2 ∧ (Exa Z h b5_2 "java/util/ImmutableCollections$List12") ∧ (Fld Z h b5_2 "java/util/ImmutableCollections$List12" "e0" "Ljava/lang/Object;" (.ref el0)) ∧ (Fld Z h b5_2 "java/util/ImmutableCollections$List12" "e1" "Ljava/lang/Object;" (.ref el1))
set_option maxRecDepth 65536 in
set_option maxHeartbeats 40000000 in
theorem rm10_2 (l : Launch) (Z : State) (ar0 : Array Value) (hw : ∀ d ∈ tables_1, d.before ar0 Z = true) (ws : List Jvm.Cond) (a0 : Addr) (w_STRING : Addr) (w_OBJECT : Addr) (w_INT : Addr) (w_MAP : Addr) (w_BIGDECIMAL : Addr) (w_DATE : Addr) (w_LONG : Addr) (w_LIST : Addr) (w_BOOLEAN : Addr) (w_DEFAULTCAPACITY_EMPTY_ELEMENTDATA : Addr) (c_DEFAULTCAPACITY_EMPTY_ELEMENTDATA : Cell) (w_EMPTY_LIST : Addr) (w_EMPTY : Addr) (w_ELEMS : Addr) (c_ELEMS : Cell) (w_MIR : Addr) (u_modCount_a0 : Value) (xa : Addr) (kxa : ClassId) (el0 : Addr) (el1 : Addr) (h0 : Heap) (n0 : Nat) (O0 : Old Z n0 h0) (F : Fx Z Z.heap w_STRING w_OBJECT w_INT w_MAP w_BIGDECIMAL w_DATE w_LONG w_LIST w_BOOLEAN w_DEFAULTCAPACITY_EMPTY_ELEMENTDATA c_DEFAULTCAPACITY_EMPTY_ELEMENTDATA w_EMPTY_LIST w_EMPTY w_ELEMS c_ELEMS w_MIR) (E_a00 : Exa Z h0 a0 "java/util/ArrayList") (F_modCount_a00 : Fld Z h0 a0 "java/util/AbstractList" "modCount" "I" u_modCount_a0) (F_elementData_a00 : Fld Z h0 a0 "java/util/ArrayList" "elementData" "[Ljava/lang/Object;" (.ref xa)) (F_size_a00 : Fld Z h0 a0 "java/util/ArrayList" "size" "I" (.int (2 : Int32))) (V_xa0 : Arv Z h0 xa kxa (.object "java/lang/Object") (10 : Int32) [(.ref el0), (.ref el1), .null, .null, .null, .null, .null, .null, .null, .null] .null) (E_xa0 : Exa Z h0 xa "[Ljava/lang/Object;") (Ovr_xa0 : Ovr Z kxa "java/lang/Object") (E_el00 : Exa Z h0 el0 "com/example/declared_endpoints/declaredendpoints/model/FieldType$Container") (E_el10 : Exa Z h0 el1 "com/example/declared_endpoints/declaredendpoints/model/FieldType$Container") :
    MetFree l (⟨"java/util/ImmutableCollections", "listCopy", "(Ljava/util/Collection;)Ljava/util/List;"⟩ : MethodName) (head1 ((Jvm.Cond.code (⟨"java/util/ImmutableCollections", "listCopy", "(Ljava/util/Collection;)Ljava/util/List;"⟩ : MethodName) jdk_56_method_3_code 2 (some (.object "java/util/List"))) :: ws) ({ frames := 6, cells := 2, slots := 4, locals := 76 } : Room)) (fun a U => a = #[(.ref a0)] ∧ Z.Warmed39 U.vm ∧ U.heap = h0) (fun _ _ _ _ _ => True) (fun _ U o U' => ∃ v L, o = .returned v ∧ Q10_2 Z a0 w_STRING w_OBJECT w_INT w_MAP w_BIGDECIMAL w_DATE w_LONG w_LIST w_BOOLEAN w_DEFAULTCAPACITY_EMPTY_ELEMENTDATA c_DEFAULTCAPACITY_EMPTY_ELEMENTDATA w_EMPTY_LIST w_EMPTY w_ELEMS c_ELEMS w_MIR u_modCount_a0 xa kxa el0 el1 h0 n0 v U'.heap L ∧ FrameEnd U o U' L ({ frames := 6, cells := 2, slots := 4, locals := 76 } : Room).cells ({ frames := 6, cells := 2, slots := 4, locals := 76 } : Room).slots) := by
  obtain ⟨S_STRING, E_STRING, S_OBJECT, E_OBJECT, F_ordinal_STRING, F_ordinal_OBJECT, S_INT, E_INT, F_ordinal_INT, S_MAP, E_MAP, S_BIGDECIMAL, E_BIGDECIMAL, S_DATE, E_DATE, S_LONG, E_LONG, F_ordinal_LONG, F_ordinal_BIGDECIMAL, S_LIST, E_LIST, S_BOOLEAN, E_BOOLEAN, F_ordinal_BOOLEAN, F_ordinal_DATE, S_DEFAULTCAPACITY_EMPTY_ELEMENTDATA, E_DEFAULTCAPACITY_EMPTY_ELEMENTDATA, A_DEFAULTCAPACITY_EMPTY_ELEMENTDATA, L_DEFAULTCAPACITY_EMPTY_ELEMENTDATA, S_EMPTY_LIST, E_EMPTY_LIST, S_EMPTY, E_EMPTY, F_elements_EMPTY_LIST, A_ELEMS, L_ELEMS, M_MIR⟩ := id F
  refine MetFree.of_bodySF (plainFor_of_name pn_10_2) hisR ?_
  intro p e s m args below meth c s₁ Bd hml0 hP hK
  obtain ⟨rfl, hZ, hh⟩ := hP
  have hx := Bd.exec
  have hby := Bd.bytes
  have hml : c.maxLocals = 2 := hml0
  have hown : s.vm.findClass "java/util/ImmutableCollections" = some m.cls := findClass_of_methodNamed Bd.named
  have hnm := (name_of_methodNamed Bd.named Bd.method).1
  have X0 : Stand p l e ({ frames := 6, cells := 2, slots := 4, locals := 76 } : Room) s m #[(.ref a0)] below meth c s₁ [] 0 0 := Stand.of_body Bd
  have e0 : s₁.heap = h0 := by rw [← hh, Bd.state]; rfl
  have N0 := Fr.nil n0
  have K0 : Keep h0 h0 [] := Keep.refl _ _
  have pre0 : ∀ t, Steps p.tables e below (s₁.setTop (mkF m 0 #[.val (.ref a0), .unset] [])) t → Steps p.tables e below (s₁.setTop (entryFrame m #[(.ref a0)] 2)) t := fun t k => castTop (ef_10_2 m a0) k
  have E_a0 := E_a00
  have F_modCount_a0 := F_modCount_a00
  have F_elementData_a0 := F_elementData_a00
  have F_size_a0 := F_size_a00
  have V_xa := V_xa0
  have E_xa := E_xa0
  have Ovr_xa := Ovr_xa0
  have E_el0 := E_el00
  have E_el1 := E_el10
  obtain ⟨T1, X1, e1, st1⟩ := instNo X0 hx hZ hown (hw _ (List.mem_of_getElem? (i := 66) rfl)) e0 E_a0 (own_nol_L12 hw) (g := (mkF m 1 #[.val (.ref a0), .unset] [(.ref a0)])) rfl rfl (hb hby d10_2_1)
  obtain ⟨T2, X2, e2, st2⟩ := instNo X1 hx hZ hown (hw _ (List.mem_of_getElem? (i := 71) rfl)) e1 E_a0 (own_nol_LN hw) (g := (mkF m 8 #[.val (.ref a0), .unset] [(.ref a0)])) rfl rfl (hb hby d10_2_8)
  obtain ⟨cq3, kq3, q3a, q3b, q3c⟩ := isOf hZ e2 E_a0
  obtain ⟨_, _, ⟨T3, L3, k3, n3⟩, -, X3, ⟨Lc3, hQ3, l3, y3, z3⟩, st3⟩ := X2.interfaceBack hx (xi := (⟨"java/util/Collection", "isEmpty", "()Z"⟩ : MethodName)) (y := (⟨"java/util/ArrayList", "isEmpty", "()Z"⟩ : MethodName)) hown (mvT hZ (hw _ (List.mem_of_getElem? (i := 72) rfl))) (mvT hZ (hw _ (List.mem_of_getElem? (i := 73) rfl))) (mvT hZ (hw _ (List.mem_of_getElem? (i := 74) rfl))) (mvT hZ (hw _ (List.mem_of_getElem? (i := 75) rfl))) (mvT hZ (hw _ (List.mem_of_getElem? (i := 76) rfl))) (mvT hZ (hw _ (List.mem_of_getElem? (i := 77) rfl))) (mvT hZ (hw _ (List.mem_of_getElem? (i := 78) rfl))) (mvT hZ (hw _ (List.mem_of_getElem? (i := 79) rfl))) (by decide) (backOf (W := 0) (rm11n l Z ar0 hw [] a0 w_STRING w_OBJECT w_INT w_MAP w_BIGDECIMAL w_DATE w_LONG w_LIST w_BOOLEAN w_DEFAULTCAPACITY_EMPTY_ELEMENTDATA c_DEFAULTCAPACITY_EMPTY_ELEMENTDATA w_EMPTY_LIST w_EMPTY w_ELEMS c_ELEMS w_MIR (2 : Int32) h0 n0 O0 F F_size_a0 (by first | decide | assumption)) hZ (hw _ (List.mem_of_getElem? (i := 80) rfl)) (hw _ (List.mem_of_getElem? (i := 3) rfl)) (by decide) (by decide)) q3a q3b q3c (g := (mkF m 32 #[.val (.ref a0), .unset] [(.ref a0)])) rfl (by rw [hml]; rfl) (Steps.refl _) (argsL := []) (rest := []) (lenOf pd_10_2_32 rfl) rfl (by show 2 * 0 + _ ≤ _; exact Nat.le_of_eq rfl) (hb hby d10_2_32) (fun _ _ => ⟨rfl, e2, (by decide : 0 + 0 ≤ _), (by decide : 0 + 0 ≤ _)⟩)
  dsimp only [Pt.U, Pt.locs, Pt.cells, Pt.slots] at X3 l3 y3 z3 st3 hQ3
  subst l3 y3 z3
  obtain ⟨rfl, N3q, O3, Kc3⟩ := hQ3
  have N3 := Fr.app N0 N3q
  have K3 : Keep h0 T3.heap [] := K0.trans Kc3 all0
  have E_a0 := (E_a0.keep Kc3)
  have F_modCount_a0 := (F_modCount_a0.keep Kc3 nin0)
  have F_elementData_a0 := (F_elementData_a0.keep Kc3 nin0)
  have F_size_a0 := (F_size_a0.keep Kc3 nin0)
  have V_xa := (V_xa.keep Kc3 nin0)
  have E_xa := (E_xa.keep Kc3)
  have E_el0 := (E_el0.keep Kc3)
  have E_el1 := (E_el1.keep Kc3)
  obtain ⟨cq4, kq4, q4a, q4b, q4c⟩ := isOf hZ rfl E_a0
  obtain ⟨_, _, ⟨T4, L4, k4, n4⟩, -, X4, ⟨Lc4, hQ4, l4, y4, z4⟩, st4⟩ := X3.interfaceBack hx (xi := (⟨"java/util/Collection", "toArray", "()[Ljava/lang/Object;"⟩ : MethodName)) (y := (⟨"java/util/ArrayList", "toArray", "()[Ljava/lang/Object;"⟩ : MethodName)) hown (mvT hZ (hw _ (List.mem_of_getElem? (i := 149) rfl))) (mvT hZ (hw _ (List.mem_of_getElem? (i := 150) rfl))) (mvT hZ (hw _ (List.mem_of_getElem? (i := 151) rfl))) (mvT hZ (hw _ (List.mem_of_getElem? (i := 152) rfl))) (mvT hZ (hw _ (List.mem_of_getElem? (i := 153) rfl))) (mvT hZ (hw _ (List.mem_of_getElem? (i := 154) rfl))) (mvT hZ (hw _ (List.mem_of_getElem? (i := 155) rfl))) (mvT hZ (hw _ (List.mem_of_getElem? (i := 79) rfl))) (by decide) (backOf (W := 0) (rm21_2 l Z ar0 hw [] a0 w_STRING w_OBJECT w_INT w_MAP w_BIGDECIMAL w_DATE w_LONG w_LIST w_BOOLEAN w_DEFAULTCAPACITY_EMPTY_ELEMENTDATA c_DEFAULTCAPACITY_EMPTY_ELEMENTDATA w_EMPTY_LIST w_EMPTY w_ELEMS c_ELEMS w_MIR u_modCount_a0 xa kxa el0 el1 T3.heap n0 O3 F E_a0 F_modCount_a0 F_elementData_a0 F_size_a0 V_xa E_xa Ovr_xa E_el0 E_el1) hZ (hw _ (List.mem_of_getElem? (i := 156) rfl)) (hw _ (List.mem_of_getElem? (i := 3) rfl)) (by decide) (by decide)) q4a q4b q4c (g := (mkF m 45 #[.val (.ref a0), .unset] [(.ref a0)])) rfl (by rw [hml]; rfl) (Steps.refl _) (argsL := []) (rest := []) (lenOf pd_10_2_45 rfl) rfl (by show 2 * 0 + _ ≤ _; exact Nat.le_of_eq rfl) (hb hby d10_2_45) (fun _ _ => ⟨rfl, rfl, (by decide : 0 + 1 ≤ _), (by decide : 0 + 2 ≤ _)⟩)
  dsimp only [Pt.U, Pt.locs, Pt.cells, Pt.slots] at X4 l4 y4 z4 st4 hQ4
  subst l4 y4 z4
  obtain ⟨b4_3_2_2, k2_2_3_4, rfl, N4q, O4, Kc4, sz4_0, fq4_0, fq4_1, fq4_2⟩ := hQ4
  have N4 := Fr.app N3 N4q
  have ne_a0_b4_3_2_2 : a0 ≠ b4_3_2_2 := Nat.ne_of_lt (Nat.lt_of_lt_of_le E_a0.lt sz4_0)
  have ne_xa_b4_3_2_2 : xa ≠ b4_3_2_2 := Nat.ne_of_lt (Nat.lt_of_lt_of_le V_xa.lt sz4_0)
  have ne_el0_b4_3_2_2 : el0 ≠ b4_3_2_2 := Nat.ne_of_lt (Nat.lt_of_lt_of_le E_el0.lt sz4_0)
  have ne_el1_b4_3_2_2 : el1 ≠ b4_3_2_2 := Nat.ne_of_lt (Nat.lt_of_lt_of_le E_el1.lt sz4_0)
  have g_b4_3_2_2 : n0 ≤ b4_3_2_2 := Nat.le_trans (own_old_le O3) sz4_0
  have sz_b4_3_2_2 : h0.size ≤ b4_3_2_2 := Nat.le_trans K3.1 sz4_0
  have K4 : Keep h0 T4.heap [] := K3.trans Kc4 all0
  have E_a0 := (E_a0.keep Kc4)
  have F_modCount_a0 := (F_modCount_a0.keep Kc4 nin0)
  have F_elementData_a0 := (F_elementData_a0.keep Kc4 nin0)
  have F_size_a0 := (F_size_a0.keep Kc4 nin0)
  have V_xa := (V_xa.keep Kc4 nin0)
  have E_xa := (E_xa.keep Kc4)
  have E_el0 := (E_el0.keep Kc4)
  have E_el1 := (E_el1.keep Kc4)
  have E_b4_3_2_2 := fq4_0
  have Ovr_b4_3_2_2 := fq4_1
  have V_b4_3_2_2 := fq4_2
  obtain ⟨_, _, ⟨T5, L5, k5, n5⟩, -, X5, ⟨Lc5, hQ5, l5, y5, z5⟩, st5⟩ := Jvm.LawKit.callS X4 hx (y := (⟨"java/util/List", "of", "([Ljava/lang/Object;)Ljava/util/List;"⟩ : MethodName)) hown (mvT hZ (hw _ (List.mem_of_getElem? (i := 179) rfl))) (mvT hZ (hw _ (List.mem_of_getElem? (i := 180) rfl))) (mvT hZ (hw _ (List.mem_of_getElem? (i := 60) rfl))) (mvT hZ (hw _ (List.mem_of_getElem? (i := 181) rfl))) (by decide) (backOf (W := 0) (rm25_2 l Z ar0 hw [] b4_3_2_2 w_STRING w_OBJECT w_INT w_MAP w_BIGDECIMAL w_DATE w_LONG w_LIST w_BOOLEAN w_DEFAULTCAPACITY_EMPTY_ELEMENTDATA c_DEFAULTCAPACITY_EMPTY_ELEMENTDATA w_EMPTY_LIST w_EMPTY w_ELEMS c_ELEMS w_MIR k2_2_3_4 el0 el1 T4.heap n0 O4 F V_b4_3_2_2 E_b4_3_2_2 Ovr_b4_3_2_2 E_el0 E_el1) hZ (hw _ (List.mem_of_getElem? (i := 181) rfl)) (hw _ (List.mem_of_getElem? (i := 60) rfl)) (by decide) (by decide)) (g := (mkF m 50 #[.val (.ref a0), .unset] [(.ref b4_3_2_2)])) rfl (by rw [hml]; rfl) (argsL := [(.ref b4_3_2_2)]) (rest := []) (lenOf pd_10_2_50 rfl) rfl (by show 2 * 0 + _ ≤ _; exact Nat.le_of_eq rfl) (hb hby d10_2_50) (fun _ _ => ⟨rfl, rfl, (by decide : 1 + 1 ≤ _), (by decide : 2 + 2 ≤ _)⟩)
  dsimp only [Pt.U, Pt.locs, Pt.cells, Pt.slots] at X5 l5 y5 z5 st5 hQ5
  subst l5 y5 z5
  obtain ⟨b5_2, rfl, N5q, O5, Kc5, sz5_0, fq5_0, fq5_1, fq5_2⟩ := hQ5
  have N5 := Fr.app N4 N5q
  have ne_a0_b5_2 : a0 ≠ b5_2 := Nat.ne_of_lt (Nat.lt_of_lt_of_le E_a0.lt sz5_0)
  have ne_xa_b5_2 : xa ≠ b5_2 := Nat.ne_of_lt (Nat.lt_of_lt_of_le V_xa.lt sz5_0)
  have ne_el0_b5_2 : el0 ≠ b5_2 := Nat.ne_of_lt (Nat.lt_of_lt_of_le E_el0.lt sz5_0)
  have ne_el1_b5_2 : el1 ≠ b5_2 := Nat.ne_of_lt (Nat.lt_of_lt_of_le E_el1.lt sz5_0)
  have ne_b4_3_2_2_b5_2 : b4_3_2_2 ≠ b5_2 := Nat.ne_of_lt (Nat.lt_of_lt_of_le E_b4_3_2_2.lt sz5_0)
  have g_b5_2 : n0 ≤ b5_2 := Nat.le_trans (own_old_le O4) sz5_0
  have sz_b5_2 : h0.size ≤ b5_2 := Nat.le_trans K4.1 sz5_0
  have K5 : Keep h0 T5.heap [] := K4.trans Kc5 all0
  have E_a0 := (E_a0.keep Kc5)
  have F_modCount_a0 := (F_modCount_a0.keep Kc5 nin0)
  have F_elementData_a0 := (F_elementData_a0.keep Kc5 nin0)
  have F_size_a0 := (F_size_a0.keep Kc5 nin0)
  have V_xa := (V_xa.keep Kc5 nin0)
  have E_xa := (E_xa.keep Kc5)
  have E_el0 := (E_el0.keep Kc5)
  have E_el1 := (E_el1.keep Kc5)
  have E_b4_3_2_2 := (E_b4_3_2_2.keep Kc5)
  have V_b4_3_2_2 := (V_b4_3_2_2.keep Kc5 nin0)
  have E_b5_2 := fq5_0
  have F_e0_b5_2 := fq5_1
  have F_e1_b5_2 := fq5_2
  obtain ⟨fs, hr, hrun, hended, hW, hsame⟩ := X5.leave (v := some (.ref b5_2)) (fun h => by rw [Bd.returns] at h; cases h)
  refine ⟨_, _, pre0 _ ?_, hrun, hended, _, _, rfl, ?_, ⟨_, rfl⟩, hW, hsame.mono (by decide) (by decide)⟩
  · show Steps p.tables e below (s₁.setTop (mkF m 0 #[.val (.ref a0), .unset] [])) _
    refine XS.aloadN X0.here hx rfl (hb hby d10_2_0) rfl rfl ?_
    show Steps p.tables e below (s₁.setTop (mkF m 1 #[.val (.ref a0), .unset] [(.ref a0)])) _
    refine st1 _ ?_
    show Steps p.tables e below (T1.setTop (mkF m 4 #[.val (.ref a0), .unset] [(.int (0 : Int32))])) _
    refine XS.ifNo X1.here hx rfl (hb hby d10_2_4) rfl ((if0 _ _).trans (teq (by decide : (0 : Int32) = (0 : Int32))).2) ?_
    show Steps p.tables e below (T1.setTop (mkF m 7 #[.val (.ref a0), .unset] [])) _
    refine XS.aloadN X1.here hx rfl (hb hby d10_2_7) rfl rfl ?_
    show Steps p.tables e below (T1.setTop (mkF m 8 #[.val (.ref a0), .unset] [(.ref a0)])) _
    refine st2 _ ?_
    show Steps p.tables e below (T2.setTop (mkF m 11 #[.val (.ref a0), .unset] [(.int (0 : Int32))])) _
    refine XS.ifYes X2.here hx rfl (pc0 := 11) (pc' := 31) rfl (hb hby d10_2_11) rfl ((if0 _ _).trans (teq (by decide : (0 : Int32) = (0 : Int32))).1) (by decide) (by decide) ?_
    show Steps p.tables e below (T2.setTop (mkF m 31 #[.val (.ref a0), .unset] [])) _
    refine XS.aloadN X2.here hx rfl (hb hby d10_2_31) rfl rfl ?_
    show Steps p.tables e below (T2.setTop (mkF m 32 #[.val (.ref a0), .unset] [(.ref a0)])) _
    refine st3.trans ?_
    show Steps p.tables e below (T3.setTop (mkF m 37 #[.val (.ref a0), .unset] [(.int (0 : Int32))])) _
    refine XS.ifYes X3.here hx rfl (pc0 := 37) (pc' := 44) rfl (hb hby d10_2_37) rfl ((if0 _ _).trans (teq (by decide : (0 : Int32) = (0 : Int32))).1) (by decide) (by decide) ?_
    show Steps p.tables e below (T3.setTop (mkF m 44 #[.val (.ref a0), .unset] [])) _
    refine XS.aloadN X3.here hx rfl (hb hby d10_2_44) rfl rfl ?_
    show Steps p.tables e below (T3.setTop (mkF m 45 #[.val (.ref a0), .unset] [(.ref a0)])) _
    refine st4.trans ?_
    show Steps p.tables e below (T4.setTop (mkF m 50 #[.val (.ref a0), .unset] [(.ref b4_3_2_2)])) _
    refine st5 _ ?_
    show Steps p.tables e below (T5.setTop (mkF m 53 #[.val (.ref a0), .unset] [(.ref b5_2)])) _
    exact retOut X5 hx Bd.returns rfl (Or.inr (Or.inr (Or.inr (Or.inr ⟨rfl, rfl, rfl⟩)))) (hb hby d10_2_53) hr
  · show Q10_2 Z a0 w_STRING w_OBJECT w_INT w_MAP w_BIGDECIMAL w_DATE w_LONG w_LIST w_BOOLEAN w_DEFAULTCAPACITY_EMPTY_ELEMENTDATA c_DEFAULTCAPACITY_EMPTY_ELEMENTDATA w_EMPTY_LIST w_EMPTY w_ELEMS c_ELEMS w_MIR u_modCount_a0 xa kxa el0 el1 h0 n0 _ T5.heap _
    skip
    exact ⟨b5_2, rfl, N5, O5, K5, sz_b5_2, E_b5_2, F_e0_b5_2, F_e1_b5_2⟩

theorem d9_2_0 : decode jdk_40_method_48_code 0 = .ok (.aload_n 0, 1) := by decide +kernel
theorem d9_2_1 : decode jdk_40_method_48_code 1 = .ok (.invokestatic 112, 3) := by decide +kernel
theorem d9_2_4 : decode jdk_40_method_48_code 4 = .ok (.areturn, 1) := by decide +kernel
theorem pn_9_2 : plainName "java/util/List" = true := by first | (simp [plainName, overriddenIn]; done) | decide +kernel
theorem pd_9_2_1 : parseMethodDescriptor "(Ljava/util/Collection;)Ljava/util/List;" = some ⟨[(.object "java/util/Collection")], some (.object "java/util/List")⟩ := by decide +kernel
theorem ef_9_2 (m : MethodId) (a0 : Addr) : entryFrame m #[(.ref a0)] 1 = mkF m 0 #[.val (.ref a0)] [] := by first | (simp [entryFrame, mkF, argsToLocals, Value.category]; done) | rfl
def Q9_2 (Z : State) (a0 : Addr) (w_STRING : Addr) (w_OBJECT : Addr) (w_INT : Addr) (w_MAP : Addr) (w_BIGDECIMAL : Addr) (w_DATE : Addr) (w_LONG : Addr) (w_LIST : Addr) (w_BOOLEAN : Addr) (w_DEFAULTCAPACITY_EMPTY_ELEMENTDATA : Addr) (c_DEFAULTCAPACITY_EMPTY_ELEMENTDATA : Cell) (w_EMPTY_LIST : Addr) (w_EMPTY : Addr) (w_ELEMS : Addr) (c_ELEMS : Cell) (w_MIR : Addr) (u_modCount_a0 : Value) (xa : Addr) (kxa : ClassId) (el0 : Addr) (el1 : Addr) (h0 : Heap) (n0 : Nat) (v : Option Value) (h : Heap) (L : List Loc) : Prop := ∃ (b1_5_2 : Addr) , v = some (.ref b1_5_2) ∧ Fr n0 L ∧ Old Z n0 h ∧ Keep h0 h [] ∧ h0.size ≤ b1_5_2 ∧ (Exa Z h b1_5_2 "java/util/ImmutableCollections$List12") ∧ (Fld Z h b1_5_2 "java/util/ImmutableCollections$List12" "e0" "Ljava/lang/Object;" (.ref el0)) ∧ (Fld Z h b1_5_2 "java/util/ImmutableCollections$List12" "e1" "Ljava/lang/Object;" (.ref el1))
set_option maxRecDepth 65536 in
set_option maxHeartbeats 40000000 in
theorem rm9_2 (l : Launch) (Z : State) (ar0 : Array Value) (hw : ∀ d ∈ tables_1, d.before ar0 Z = true) (ws : List Jvm.Cond) (a0 : Addr) (w_STRING : Addr) (w_OBJECT : Addr) (w_INT : Addr) (w_MAP : Addr) (w_BIGDECIMAL : Addr) (w_DATE : Addr) (w_LONG : Addr) (w_LIST : Addr) (w_BOOLEAN : Addr) (w_DEFAULTCAPACITY_EMPTY_ELEMENTDATA : Addr) (c_DEFAULTCAPACITY_EMPTY_ELEMENTDATA : Cell) (w_EMPTY_LIST : Addr) (w_EMPTY : Addr) (w_ELEMS : Addr) (c_ELEMS : Cell) (w_MIR : Addr) (u_modCount_a0 : Value) (xa : Addr) (kxa : ClassId) (el0 : Addr) (el1 : Addr) (h0 : Heap) (n0 : Nat) (O0 : Old Z n0 h0) (F : Fx Z Z.heap w_STRING w_OBJECT w_INT w_MAP w_BIGDECIMAL w_DATE w_LONG w_LIST w_BOOLEAN w_DEFAULTCAPACITY_EMPTY_ELEMENTDATA c_DEFAULTCAPACITY_EMPTY_ELEMENTDATA w_EMPTY_LIST w_EMPTY w_ELEMS c_ELEMS w_MIR) (E_a00 : Exa Z h0 a0 "java/util/ArrayList") (F_modCount_a00 : Fld Z h0 a0 "java/util/AbstractList" "modCount" "I" u_modCount_a0) (F_elementData_a00 : Fld Z h0 a0 "java/util/ArrayList" "elementData" "[Ljava/lang/Object;" (.ref xa)) (F_size_a00 : Fld Z h0 a0 "java/util/ArrayList" "size" "I" (.int (2 : Int32))) (V_xa0 : Arv Z h0 xa kxa (.object "java/lang/Object") (10 : Int32) [(.ref el0), (.ref el1), .null, .null, .null, .null, .null, .null, .null, .null] .null) (E_xa0 : Exa Z h0 xa "[Ljava/lang/Object;") (Ovr_xa0 : Ovr Z kxa "java/lang/Object") (E_el00 : Exa Z h0 el0 "com/example/declared_endpoints/declaredendpoints/model/FieldType$Container") (E_el10 : Exa Z h0 el1 "com/example/declared_endpoints/declaredendpoints/model/FieldType$Container") :
    MetFree l (⟨"java/util/List", "copyOf", "(Ljava/util/Collection;)Ljava/util/List;"⟩ : MethodName) (head1 ((Jvm.Cond.code (⟨"java/util/List", "copyOf", "(Ljava/util/Collection;)Ljava/util/List;"⟩ : MethodName) jdk_40_method_48_code 1 (some (.object "java/util/List"))) :: ws) ({ frames := 7, cells := 2, slots := 4, locals := 89 } : Room)) (fun a U => a = #[(.ref a0)] ∧ Z.Warmed39 U.vm ∧ U.heap = h0) (fun _ _ _ _ _ => True) (fun _ U o U' => ∃ v L, o = .returned v ∧ Q9_2 Z a0 w_STRING w_OBJECT w_INT w_MAP w_BIGDECIMAL w_DATE w_LONG w_LIST w_BOOLEAN w_DEFAULTCAPACITY_EMPTY_ELEMENTDATA c_DEFAULTCAPACITY_EMPTY_ELEMENTDATA w_EMPTY_LIST w_EMPTY w_ELEMS c_ELEMS w_MIR u_modCount_a0 xa kxa el0 el1 h0 n0 v U'.heap L ∧ FrameEnd U o U' L ({ frames := 7, cells := 2, slots := 4, locals := 89 } : Room).cells ({ frames := 7, cells := 2, slots := 4, locals := 89 } : Room).slots) := by
  obtain ⟨S_STRING, E_STRING, S_OBJECT, E_OBJECT, F_ordinal_STRING, F_ordinal_OBJECT, S_INT, E_INT, F_ordinal_INT, S_MAP, E_MAP, S_BIGDECIMAL, E_BIGDECIMAL, S_DATE, E_DATE, S_LONG, E_LONG, F_ordinal_LONG, F_ordinal_BIGDECIMAL, S_LIST, E_LIST, S_BOOLEAN, E_BOOLEAN, F_ordinal_BOOLEAN, F_ordinal_DATE, S_DEFAULTCAPACITY_EMPTY_ELEMENTDATA, E_DEFAULTCAPACITY_EMPTY_ELEMENTDATA, A_DEFAULTCAPACITY_EMPTY_ELEMENTDATA, L_DEFAULTCAPACITY_EMPTY_ELEMENTDATA, S_EMPTY_LIST, E_EMPTY_LIST, S_EMPTY, E_EMPTY, F_elements_EMPTY_LIST, A_ELEMS, L_ELEMS, M_MIR⟩ := id F
  refine MetFree.of_bodySF (plainFor_of_name pn_9_2) hisR ?_
  intro p e s m args below meth c s₁ Bd hml0 hP hK
  obtain ⟨rfl, hZ, hh⟩ := hP
  have hx := Bd.exec
  have hby := Bd.bytes
  have hml : c.maxLocals = 1 := hml0
  have hown : s.vm.findClass "java/util/List" = some m.cls := findClass_of_methodNamed Bd.named
  have hnm := (name_of_methodNamed Bd.named Bd.method).1
  have X0 : Stand p l e ({ frames := 7, cells := 2, slots := 4, locals := 89 } : Room) s m #[(.ref a0)] below meth c s₁ [] 0 0 := Stand.of_body Bd
  have e0 : s₁.heap = h0 := by rw [← hh, Bd.state]; rfl
  have N0 := Fr.nil n0
  have K0 : Keep h0 h0 [] := Keep.refl _ _
  have pre0 : ∀ t, Steps p.tables e below (s₁.setTop (mkF m 0 #[.val (.ref a0)] [])) t → Steps p.tables e below (s₁.setTop (entryFrame m #[(.ref a0)] 1)) t := fun t k => castTop (ef_9_2 m a0) k
  have E_a0 := E_a00
  have F_modCount_a0 := F_modCount_a00
  have F_elementData_a0 := F_elementData_a00
  have F_size_a0 := F_size_a00
  have V_xa := V_xa0
  have E_xa := E_xa0
  have Ovr_xa := Ovr_xa0
  have E_el0 := E_el00
  have E_el1 := E_el10
  obtain ⟨_, _, ⟨T1, L1, k1, n1⟩, -, X1, ⟨Lc1, hQ1, l1, y1, z1⟩, st1⟩ := Jvm.LawKit.callS X0 hx (y := (⟨"java/util/ImmutableCollections", "listCopy", "(Ljava/util/Collection;)Ljava/util/List;"⟩ : MethodName)) hown (mvT hZ (hw _ (List.mem_of_getElem? (i := 62) rfl))) (mvT hZ (hw _ (List.mem_of_getElem? (i := 63) rfl))) (mvT hZ (hw _ (List.mem_of_getElem? (i := 64) rfl))) (mvT hZ (hw _ (List.mem_of_getElem? (i := 65) rfl))) (by decide) (backOf (W := 0) (rm10_2 l Z ar0 hw [] a0 w_STRING w_OBJECT w_INT w_MAP w_BIGDECIMAL w_DATE w_LONG w_LIST w_BOOLEAN w_DEFAULTCAPACITY_EMPTY_ELEMENTDATA c_DEFAULTCAPACITY_EMPTY_ELEMENTDATA w_EMPTY_LIST w_EMPTY w_ELEMS c_ELEMS w_MIR u_modCount_a0 xa kxa el0 el1 h0 n0 O0 F E_a0 F_modCount_a0 F_elementData_a0 F_size_a0 V_xa E_xa Ovr_xa E_el0 E_el1) hZ (hw _ (List.mem_of_getElem? (i := 65) rfl)) (hw _ (List.mem_of_getElem? (i := 64) rfl)) (by decide) (by decide)) (g := (mkF m 1 #[.val (.ref a0)] [(.ref a0)])) rfl (by rw [hml]; rfl) (argsL := [(.ref a0)]) (rest := []) (lenOf pd_9_2_1 rfl) rfl (by show 2 * 0 + _ ≤ _; exact Nat.le_of_eq rfl) (hb hby d9_2_1) (fun _ _ => ⟨rfl, e0, (by decide : 0 + 2 ≤ _), (by decide : 0 + 4 ≤ _)⟩)
  dsimp only [Pt.U, Pt.locs, Pt.cells, Pt.slots] at X1 l1 y1 z1 st1 hQ1
  subst l1 y1 z1
  obtain ⟨b1_5_2, rfl, N1q, O1, Kc1, sz1_0, fq1_0, fq1_1, fq1_2⟩ := hQ1
  have N1 := Fr.app N0 N1q
  have ne_a0_b1_5_2 : a0 ≠ b1_5_2 := Nat.ne_of_lt (Nat.lt_of_lt_of_le E_a0.lt sz1_0)
  have ne_xa_b1_5_2 : xa ≠ b1_5_2 := Nat.ne_of_lt (Nat.lt_of_lt_of_le V_xa.lt sz1_0)
  have ne_el0_b1_5_2 : el0 ≠ b1_5_2 := Nat.ne_of_lt (Nat.lt_of_lt_of_le E_el0.lt sz1_0)
  have ne_el1_b1_5_2 : el1 ≠ b1_5_2 := Nat.ne_of_lt (Nat.lt_of_lt_of_le E_el1.lt sz1_0)
  have g_b1_5_2 : n0 ≤ b1_5_2 := Nat.le_trans (own_old_le O0) sz1_0
  have sz_b1_5_2 : h0.size ≤ b1_5_2 := Nat.le_trans K0.1 sz1_0
  have K1 : Keep h0 T1.heap [] := K0.trans Kc1 all0
  have E_a0 := (E_a0.keep Kc1)
  have F_modCount_a0 := (F_modCount_a0.keep Kc1 nin0)
  have F_elementData_a0 := (F_elementData_a0.keep Kc1 nin0)
  have F_size_a0 := (F_size_a0.keep Kc1 nin0)
  have V_xa := (V_xa.keep Kc1 nin0)
  have E_xa := (E_xa.keep Kc1)
  have E_el0 := (E_el0.keep Kc1)
  have E_el1 := (E_el1.keep Kc1)
  have E_b1_5_2 := fq1_0
  have F_e0_b1_5_2 := fq1_1
  have F_e1_b1_5_2 := fq1_2
  obtain ⟨fs, hr, hrun, hended, hW, hsame⟩ := X1.leave (v := some (.ref b1_5_2)) (fun h => by rw [Bd.returns] at h; cases h)
  refine ⟨_, _, pre0 _ ?_, hrun, hended, _, _, rfl, ?_, ⟨_, rfl⟩, hW, hsame.mono (by decide) (by decide)⟩
  · show Steps p.tables e below (s₁.setTop (mkF m 0 #[.val (.ref a0)] [])) _
    refine XS.aloadN X0.here hx rfl (hb hby d9_2_0) rfl rfl ?_
    show Steps p.tables e below (s₁.setTop (mkF m 1 #[.val (.ref a0)] [(.ref a0)])) _
    refine st1 _ ?_
    show Steps p.tables e below (T1.setTop (mkF m 4 #[.val (.ref a0)] [(.ref b1_5_2)])) _
    exact retOut X1 hx Bd.returns rfl (Or.inr (Or.inr (Or.inr (Or.inr ⟨rfl, rfl, rfl⟩)))) (hb hby d9_2_4) hr
  · show Q9_2 Z a0 w_STRING w_OBJECT w_INT w_MAP w_BIGDECIMAL w_DATE w_LONG w_LIST w_BOOLEAN w_DEFAULTCAPACITY_EMPTY_ELEMENTDATA c_DEFAULTCAPACITY_EMPTY_ELEMENTDATA w_EMPTY_LIST w_EMPTY w_ELEMS c_ELEMS w_MIR u_modCount_a0 xa kxa el0 el1 h0 n0 _ T1.heap _
    skip
    exact ⟨b1_5_2, rfl, N1, O1, K1, sz_b1_5_2, E_b1_5_2, F_e0_b1_5_2, F_e1_b1_5_2⟩

theorem d6_0_0 : decode prog_22_method_1_code 0 = .ok (.aload_n 0, 1) := by decide +kernel
theorem d6_0_1 : decode prog_22_method_1_code 1 = .ok (.invokespecial 1, 3) := by decide +kernel
theorem d6_0_4 : decode prog_22_method_1_code 4 = .ok (.aload_n 1, 1) := by decide +kernel
theorem d6_0_5 : decode prog_22_method_1_code 5 = .ok (.ldc 7, 2) := by decide +kernel
theorem d6_0_7 : decode prog_22_method_1_code 7 = .ok (.invokestatic 9, 3) := by decide +kernel
theorem d6_0_10 : decode prog_22_method_1_code 10 = .ok (.pop, 1) := by decide +kernel
theorem d6_0_11 : decode prog_22_method_1_code 11 = .ok (.aload_n 2, 1) := by decide +kernel
theorem d6_0_12 : decode prog_22_method_1_code 12 = .ok (.invokestatic 15, 3) := by decide +kernel
theorem d6_0_15 : decode prog_22_method_1_code 15 = .ok (.astore_n 2, 1) := by decide +kernel
theorem d6_0_16 : decode prog_22_method_1_code 16 = .ok (.aload_n 0, 1) := by decide +kernel
theorem d6_0_17 : decode prog_22_method_1_code 17 = .ok (.aload_n 1, 1) := by decide +kernel
theorem d6_0_18 : decode prog_22_method_1_code 18 = .ok (.putfield 21, 3) := by decide +kernel
theorem d6_0_21 : decode prog_22_method_1_code 21 = .ok (.aload_n 0, 1) := by decide +kernel
theorem d6_0_22 : decode prog_22_method_1_code 22 = .ok (.aload_n 2, 1) := by decide +kernel
theorem d6_0_23 : decode prog_22_method_1_code 23 = .ok (.putfield 26, 3) := by decide +kernel
theorem d6_0_26 : decode prog_22_method_1_code 26 = .ok (.return_, 1) := by decide +kernel
theorem pn_6_0 : plainName "com/example/declared_endpoints/declaredendpoints/model/FieldType" = true := by first | (simp [plainName, overriddenIn]; done) | decide +kernel
theorem pd_6_0_1 : parseMethodDescriptor "()V" = some ⟨[], none⟩ := by decide +kernel
theorem pd_6_0_12 : parseMethodDescriptor "(Ljava/util/Collection;)Ljava/util/List;" = some ⟨[(.object "java/util/Collection")], some (.object "java/util/List")⟩ := by decide +kernel
theorem pd_6_0_7 : parseMethodDescriptor "(Ljava/lang/Object;Ljava/lang/String;)Ljava/lang/Object;" = some ⟨[(.object "java/lang/Object"), (.object "java/lang/String")], some (.object "java/lang/Object")⟩ := by decide +kernel
theorem ef_6_0 (m : MethodId) (a0 : Addr) (a1 : Addr) (a2 : Addr) : entryFrame m #[(.ref a0), (.ref a1), (.ref a2)] 3 = mkF m 0 #[.val (.ref a0), .val (.ref a1), .val (.ref a2)] [] := by first | (simp [entryFrame, mkF, argsToLocals, Value.category]; done) | rfl
def Q6_0 (Z : State) (a0 : Addr) (a1 : Addr) (a2 : Addr) (w_STRING : Addr) (w_OBJECT : Addr) (w_INT : Addr) (w_MAP : Addr) (w_BIGDECIMAL : Addr) (w_DATE : Addr) (w_LONG : Addr) (w_LIST : Addr) (w_BOOLEAN : Addr) (w_DEFAULTCAPACITY_EMPTY_ELEMENTDATA : Addr) (c_DEFAULTCAPACITY_EMPTY_ELEMENTDATA : Cell) (w_EMPTY_LIST : Addr) (w_EMPTY : Addr) (w_ELEMS : Addr) (c_ELEMS : Cell) (w_MIR : Addr) (u_modCount_a2 : Value) (u_base_a0 : Value) (u_containers_a0 : Value) (h0 : Heap) (n0 : Nat) (v : Option Value) (h : Heap) (L : List Loc) : Prop := v = none ∧ Fr n0 L ∧ Old Z n0 h ∧ Keep h0 h [a0] ∧ (Fld Z h a0 "com/example/declared_endpoints/declaredendpoints/model/FieldType" "base" "Lcom/example/declared_endpoints/declaredendpoints/model/FieldType$Base;" (.ref a1)) ∧ (Fld Z h a0 "com/example/declared_endpoints/declaredendpoints/model/FieldType" "containers" "Ljava/util/List;" (.ref w_EMPTY_LIST))
set_option maxRecDepth 65536 in
set_option maxHeartbeats 40000000 in
theorem rm6_0 (l : Launch) (Z : State) (ar0 : Array Value) (hw : ∀ d ∈ tables_1, d.before ar0 Z = true) (ws : List Jvm.Cond) (a0 : Addr) (a1 : Addr) (a2 : Addr) (w_STRING : Addr) (w_OBJECT : Addr) (w_INT : Addr) (w_MAP : Addr) (w_BIGDECIMAL : Addr) (w_DATE : Addr) (w_LONG : Addr) (w_LIST : Addr) (w_BOOLEAN : Addr) (w_DEFAULTCAPACITY_EMPTY_ELEMENTDATA : Addr) (c_DEFAULTCAPACITY_EMPTY_ELEMENTDATA : Cell) (w_EMPTY_LIST : Addr) (w_EMPTY : Addr) (w_ELEMS : Addr) (c_ELEMS : Cell) (w_MIR : Addr) (u_modCount_a2 : Value) (u_base_a0 : Value) (u_containers_a0 : Value) (h0 : Heap) (n0 : Nat) (O0 : Old Z n0 h0) (F : Fx Z Z.heap w_STRING w_OBJECT w_INT w_MAP w_BIGDECIMAL w_DATE w_LONG w_LIST w_BOOLEAN w_DEFAULTCAPACITY_EMPTY_ELEMENTDATA c_DEFAULTCAPACITY_EMPTY_ELEMENTDATA w_EMPTY_LIST w_EMPTY w_ELEMS c_ELEMS w_MIR) (E_a00 : Exa Z h0 a0 "com/example/declared_endpoints/declaredendpoints/model/FieldType") (E_a20 : Exa Z h0 a2 "java/util/ArrayList") (F_modCount_a20 : Fld Z h0 a2 "java/util/AbstractList" "modCount" "I" u_modCount_a2) (F_elementData_a20 : Fld Z h0 a2 "java/util/ArrayList" "elementData" "[Ljava/lang/Object;" (.ref w_DEFAULTCAPACITY_EMPTY_ELEMENTDATA)) (F_size_a20 : Fld Z h0 a2 "java/util/ArrayList" "size" "I" (.int (0 : Int32))) (F_base_a00 : Fld Z h0 a0 "com/example/declared_endpoints/declaredendpoints/model/FieldType" "base" "Lcom/example/declared_endpoints/declaredendpoints/model/FieldType$Base;" u_base_a0) (g_a0 : n0 ≤ a0) (F_containers_a00 : Fld Z h0 a0 "com/example/declared_endpoints/declaredendpoints/model/FieldType" "containers" "Ljava/util/List;" u_containers_a0) :
    MetFree l (⟨"com/example/declared_endpoints/declaredendpoints/model/FieldType", "<init>", "(Lcom/example/declared_endpoints/declaredendpoints/model/FieldType$Base;Ljava/util/List;)V"⟩ : MethodName) (head1 ((Jvm.Cond.code (⟨"com/example/declared_endpoints/declaredendpoints/model/FieldType", "<init>", "(Lcom/example/declared_endpoints/declaredendpoints/model/FieldType$Base;Ljava/util/List;)V"⟩ : MethodName) prog_22_method_1_code 3 none) :: ws) ({ frames := 3, cells := 2, slots := 20, locals := 37 } : Room)) (fun a U => a = #[(.ref a0), (.ref a1), (.ref a2)] ∧ Z.Warmed39 U.vm ∧ U.heap = h0 ∧ CHv Z EL U.vm h0) (fun _ _ _ _ _ => True) (fun _ U o U' => ∃ v L, o = .returned v ∧ Q6_0 Z a0 a1 a2 w_STRING w_OBJECT w_INT w_MAP w_BIGDECIMAL w_DATE w_LONG w_LIST w_BOOLEAN w_DEFAULTCAPACITY_EMPTY_ELEMENTDATA c_DEFAULTCAPACITY_EMPTY_ELEMENTDATA w_EMPTY_LIST w_EMPTY w_ELEMS c_ELEMS w_MIR u_modCount_a2 u_base_a0 u_containers_a0 h0 n0 v U'.heap L ∧ CHr Z EL U.vm U.heap U'.vm U'.heap ∧ ReturnedEndW U o U' L ({ frames := 3, cells := 2, slots := 20, locals := 37 } : Room).cells ({ frames := 3, cells := 2, slots := 20, locals := 37 } : Room).slots) := by
  obtain ⟨S_STRING, E_STRING, S_OBJECT, E_OBJECT, F_ordinal_STRING, F_ordinal_OBJECT, S_INT, E_INT, F_ordinal_INT, S_MAP, E_MAP, S_BIGDECIMAL, E_BIGDECIMAL, S_DATE, E_DATE, S_LONG, E_LONG, F_ordinal_LONG, F_ordinal_BIGDECIMAL, S_LIST, E_LIST, S_BOOLEAN, E_BOOLEAN, F_ordinal_BOOLEAN, F_ordinal_DATE, S_DEFAULTCAPACITY_EMPTY_ELEMENTDATA, E_DEFAULTCAPACITY_EMPTY_ELEMENTDATA, A_DEFAULTCAPACITY_EMPTY_ELEMENTDATA, L_DEFAULTCAPACITY_EMPTY_ELEMENTDATA, S_EMPTY_LIST, E_EMPTY_LIST, S_EMPTY, E_EMPTY, F_elements_EMPTY_LIST, A_ELEMS, L_ELEMS, M_MIR⟩ := id F
  refine MetFree.of_bodySF (plainFor_of_name pn_6_0) hisR ?_
  intro p e s m args below meth c s₁ Bd hml0 hP hK
  obtain ⟨rfl, hZ, hh, hCH⟩ := hP
  have hx := Bd.exec
  have hby := Bd.bytes
  have hml : c.maxLocals = 3 := hml0
  have hown : s.vm.findClass "com/example/declared_endpoints/declaredendpoints/model/FieldType" = some m.cls := findClass_of_methodNamed Bd.named
  have hS : s.Since s.vm h0.size := (State.WarmedH.refl s).since _
  have hk : h0.size ≤ h0.size := Nat.le_refl _
  have CR0 : CHr Z EL s.vm h0 s.vm h0 := CHr.refl hCH
  have hEL := own_EW hw
  have wS := own_wS hw
  have hnm := (name_of_methodNamed Bd.named Bd.method).1
  have X0 : Stand p l e ({ frames := 3, cells := 2, slots := 20, locals := 37 } : Room) (s.setVm s.vm) m #[(.ref a0), (.ref a1), (.ref a2)] below meth c s₁ [] 0 0 := Stand.of_body Bd
  have e0 : s₁.heap = h0 := by rw [← hh, Bd.state]; rfl
  have N0 := Fr.nil n0
  have K0 : Keep h0 h0 [a0] := Keep.refl _ _
  have pre0 : ∀ t, Steps p.tables e below (s₁.setTop (mkF m 0 #[.val (.ref a0), .val (.ref a1), .val (.ref a2)] [])) t → Steps p.tables e below (s₁.setTop (entryFrame m #[(.ref a0), (.ref a1), (.ref a2)] 3)) t := fun t k => castTop (ef_6_0 m a0 a1 a2) k
  have E_a0 := E_a00
  have E_a2 := E_a20
  have F_modCount_a2 := F_modCount_a20
  have F_elementData_a2 := F_elementData_a20
  have F_size_a2 := F_size_a20
  obtain ⟨_, _, ⟨T1, L1, k1, n1⟩, -, X1, ⟨Lc1, hQ1, l1, y1, z1⟩, st1⟩ := X0.specialBack hx (y := (⟨"java/lang/Record", "<init>", "()V"⟩ : MethodName)) rfl hown (mvT hZ (hw _ (List.mem_of_getElem? (i := 40) rfl))) (mvT hZ (hw _ (List.mem_of_getElem? (i := 41) rfl))) (mvT hZ (hw _ (List.mem_of_getElem? (i := 44) rfl))) (by decide) (backOf (W := 0) (rm7 l Z ar0 hw [] a0 w_STRING w_OBJECT w_INT w_MAP w_BIGDECIMAL w_DATE w_LONG w_LIST w_BOOLEAN w_DEFAULTCAPACITY_EMPTY_ELEMENTDATA c_DEFAULTCAPACITY_EMPTY_ELEMENTDATA w_EMPTY_LIST w_EMPTY w_ELEMS c_ELEMS w_MIR  h0 n0 O0 F ) hZ (hw _ (List.mem_of_getElem? (i := 44) rfl)) (hw _ (List.mem_of_getElem? (i := 43) rfl)) (by decide) (by decide)) (g := (mkF m 1 #[.val (.ref a0), .val (.ref a1), .val (.ref a2)] [(.ref a0)])) rfl (by rw [hml]; rfl) (Steps.refl _) (a := a0) (argsL := []) (rest := []) (lenOf pd_6_0_1 rfl) rfl (by show 2 * 0 + _ ≤ _; exact Nat.le_of_eq rfl) (hb hby d6_0_1) (fun _ _ => ⟨rfl, e0, (by decide : 0 + 0 ≤ _), (by decide : 0 + 0 ≤ _)⟩)
  dsimp only [Pt.U, Pt.locs, Pt.cells, Pt.slots] at X1 l1 y1 z1 st1 hQ1
  subst l1 y1 z1
  obtain ⟨rfl, N1q, O1, Kc1⟩ := hQ1
  have N1 := Fr.app N0 N1q
  have K1 : Keep h0 T1.heap [a0] := K0.trans Kc1 all0
  have CH2 := CHv.keep Kc1 all0 hCH
  have CR2 := CR0.trans (CHr.keep Kc1 all0 hCH)
  have hk := Nat.le_trans hk Kc1.1
  have E_a0 := (E_a0.keep Kc1)
  have E_a2 := (E_a2.keep Kc1)
  have F_modCount_a2 := (F_modCount_a2.keep Kc1 nin0)
  have F_elementData_a2 := (F_elementData_a2.keep Kc1 nin0)
  have F_size_a2 := (F_size_a2.keep Kc1 nin0)
  obtain ⟨r3, T3, h3, k03, X3, e3, E3, hS, hk, hZ, hown, C3, Lt3, st3⟩ := ldcOH X1 hx hZ hown (hw _ (List.mem_of_getElem? (i := 46) rfl)) wS rfl hS hk hEL CH2 (g := (mkF m 5 #[.val (.ref a0), .val (.ref a1), .val (.ref a2)] [(.ref a1)])) rfl (hb hby d6_0_5) (n := 16) (by decide) (by decide) (by decide) (by decide)
  have O3 : Old Z n0 h3 := O1.ext E3
  have K3 : Keep h0 h3 [a0] := K1.ext E3
  have CR3 := CR2.trans C3
  have E_a0 := (E_a0.ext E3)
  have E_a2 := (E_a2.ext E3)
  have F_modCount_a2 := (F_modCount_a2.ext E3)
  have F_elementData_a2 := (F_elementData_a2.ext E3)
  have F_size_a2 := (F_size_a2.ext E3)
  obtain ⟨_, _, ⟨T5, L5, k5, n5⟩, -, X5, ⟨Lc5, hQ5, l5, y5, z5⟩, st5⟩ := Jvm.LawKit.callS X3 hx (y := (⟨"java/util/Objects", "requireNonNull", "(Ljava/lang/Object;Ljava/lang/String;)Ljava/lang/Object;"⟩ : MethodName)) hown (mvT hZ (hw _ (List.mem_of_getElem? (i := 54) rfl))) (mvT hZ (hw _ (List.mem_of_getElem? (i := 55) rfl))) (mvT hZ (hw _ (List.mem_of_getElem? (i := 56) rfl))) (mvT hZ (hw _ (List.mem_of_getElem? (i := 57) rfl))) (by decide) (backOf (W := 0) (rm8 l Z ar0 hw [] a1 r3 w_STRING w_OBJECT w_INT w_MAP w_BIGDECIMAL w_DATE w_LONG w_LIST w_BOOLEAN w_DEFAULTCAPACITY_EMPTY_ELEMENTDATA c_DEFAULTCAPACITY_EMPTY_ELEMENTDATA w_EMPTY_LIST w_EMPTY w_ELEMS c_ELEMS w_MIR  h3 n0 O3 F ) hZ (hw _ (List.mem_of_getElem? (i := 57) rfl)) (hw _ (List.mem_of_getElem? (i := 56) rfl)) (by decide) (by decide)) (g := (mkF m 7 #[.val (.ref a0), .val (.ref a1), .val (.ref a2)] [(.ref r3), (.ref a1)])) rfl (by rw [hml]; rfl) (argsL := [(.ref a1), (.ref r3)]) (rest := []) (lenOf pd_6_0_7 rfl) rfl (by show 2 * 0 + _ ≤ _; exact Nat.le_of_eq rfl) (hb hby d6_0_7) (fun _ _ => ⟨rfl, e3, (by decide : 2 + 0 ≤ _), (by decide : 20 + 0 ≤ _)⟩)
  dsimp only [Pt.U, Pt.locs, Pt.cells, Pt.slots] at X5 l5 y5 z5 st5 hQ5
  subst l5 y5 z5
  obtain ⟨rfl, N5q, O5, Kc5⟩ := hQ5
  have N5 := Fr.app N1 N5q
  have K5 : Keep h0 T5.heap [a0] := K3.trans Kc5 all0
  have CH6 := CHv.keep Kc5 all0 C3.1
  have CR6 := CR3.trans (CHr.keep Kc5 all0 C3.1)
  have hk := Nat.le_trans hk Kc5.1
  have E_a0 := (E_a0.keep Kc5)
  have E_a2 := (E_a2.keep Kc5)
  have F_modCount_a2 := (F_modCount_a2.keep Kc5 nin0)
  have F_elementData_a2 := (F_elementData_a2.keep Kc5 nin0)
  have F_size_a2 := (F_size_a2.keep Kc5 nin0)
  obtain ⟨_, _, ⟨T7, L7, k7, n7⟩, -, X7, ⟨Lc7, hQ7, l7, y7, z7⟩, st7⟩ := Jvm.LawKit.callS X5 hx (y := (⟨"java/util/List", "copyOf", "(Ljava/util/Collection;)Ljava/util/List;"⟩ : MethodName)) hown (mvT hZ (hw _ (List.mem_of_getElem? (i := 58) rfl))) (mvT hZ (hw _ (List.mem_of_getElem? (i := 59) rfl))) (mvT hZ (hw _ (List.mem_of_getElem? (i := 60) rfl))) (mvT hZ (hw _ (List.mem_of_getElem? (i := 61) rfl))) (by decide) (backOf (W := 0) (rm9_0 l Z ar0 hw [] a2 w_STRING w_OBJECT w_INT w_MAP w_BIGDECIMAL w_DATE w_LONG w_LIST w_BOOLEAN w_DEFAULTCAPACITY_EMPTY_ELEMENTDATA c_DEFAULTCAPACITY_EMPTY_ELEMENTDATA w_EMPTY_LIST w_EMPTY w_ELEMS c_ELEMS w_MIR u_modCount_a2 T5.heap n0 O5 F E_a2 F_modCount_a2 F_elementData_a2 F_size_a2) hZ (hw _ (List.mem_of_getElem? (i := 61) rfl)) (hw _ (List.mem_of_getElem? (i := 60) rfl)) (by decide) (by decide)) (g := (mkF m 12 #[.val (.ref a0), .val (.ref a1), .val (.ref a2)] [(.ref a2)])) rfl (by rw [hml]; rfl) (argsL := [(.ref a2)]) (rest := []) (lenOf pd_6_0_12 rfl) rfl (by show 2 * 0 + _ ≤ _; exact Nat.le_of_eq rfl) (hb hby d6_0_12) (fun _ _ => ⟨rfl, rfl, (by decide : 2 + 0 ≤ _), (by decide : 20 + 0 ≤ _)⟩)
  dsimp only [Pt.U, Pt.locs, Pt.cells, Pt.slots] at X7 l7 y7 z7 st7 hQ7
  subst l7 y7 z7
  obtain ⟨rfl, N7q, O7, Kc7⟩ := hQ7
  have N7 := Fr.app N5 N7q
  have K7 : Keep h0 T7.heap [a0] := K5.trans Kc7 all0
  have CH8 := CHv.keep Kc7 all0 CH6
  have CR8 := CR6.trans (CHr.keep Kc7 all0 CH6)
  have hk := Nat.le_trans hk Kc7.1
  have E_a0 := (E_a0.keep Kc7)
  have E_a2 := (E_a2.keep Kc7)
  have F_modCount_a2 := (F_modCount_a2.keep Kc7 nin0)
  have F_elementData_a2 := (F_elementData_a2.keep Kc7 nin0)
  have F_size_a2 := (F_size_a2.keep Kc7 nin0)
  have F_base_a0 := ((((F_base_a00.keep Kc1 nin0).ext E3).keep Kc5 nin0).keep Kc7 nin0)
  obtain ⟨T9, h9, X9, e9, W9, st9⟩ := putF X7 hx hZ hown (host := "") (Or.inl (hw _ (List.mem_of_getElem? (i := 87) rfl))) Via.refl rfl F_base_a0 E_a0 (Or.inr ⟨(hw _ (List.mem_of_getElem? (i := 88) rfl)), rfl, hnm⟩) (hw _ (List.mem_of_getElem? (i := 28) rfl)) (ty := (.object "com/example/declared_endpoints/declaredendpoints/model/FieldType$Base")) (by decide) rfl rfl (g := (mkF m 18 #[.val (.ref a0), .val (.ref a1), .val (.ref w_EMPTY_LIST)] [(.ref a1), (.ref a0)])) rfl rfl (hb hby d6_0_18)
  have N9 := Fr.snoc X9 N7 g_a0
  have O9 : Old Z n0 h9 := O7.wr W9 g_a0
  have K9 : Keep h0 h9 [a0] := K7.wr W9 (Or.inl (List.mem_of_getElem? (i := 0) rfl))
  have ne_a2_a0 : a2 ≠ a0 := (ne_exa E_a2 E_a0 (by decide))
  have CH10 := CHv.wr W9 (own_safe_nil _ _ _) CH8
  have CR10 := CR8.trans (CHr.wr W9 (own_safe_nil _ _ _) CH8)
  have hk := Nat.le_trans hk (Keep.of_wr W9).1
  have E_a0 := (E_a0.wr W9)
  have E_a2 := (E_a2.wr W9)
  have F_modCount_a2 := (F_modCount_a2.other W9 (Or.inl ne_a2_a0))
  have F_elementData_a2 := (F_elementData_a2.other W9 (Or.inl ne_a2_a0))
  have F_size_a2 := (F_size_a2.other W9 (Or.inl ne_a2_a0))
  have F_base_a0 := F_base_a0.same W9
  have F_containers_a0 := (((((F_containers_a00.keep Kc1 nin0).ext E3).keep Kc5 nin0).keep Kc7 nin0).other W9 (Or.inr (slot_ne (Or.inr (hw _ (List.mem_of_getElem? (i := 90) rfl))) (Or.inr (hw _ (List.mem_of_getElem? (i := 88) rfl))) (by decide) (t := (.object "java/util/List")) (t' := (.object "com/example/declared_endpoints/declaredendpoints/model/FieldType$Base")) (by decide) (by decide))))
  obtain ⟨T11, h11, X11, e11, W11, st11⟩ := putF X9 hx hZ hown (host := "") (Or.inl (hw _ (List.mem_of_getElem? (i := 89) rfl))) Via.refl e9 F_containers_a0 E_a0 (Or.inr ⟨(hw _ (List.mem_of_getElem? (i := 90) rfl)), rfl, hnm⟩) (hw _ (List.mem_of_getElem? (i := 28) rfl)) (ty := (.object "java/util/List")) (by decide) rfl rfl (g := (mkF m 23 #[.val (.ref a0), .val (.ref a1), .val (.ref w_EMPTY_LIST)] [(.ref w_EMPTY_LIST), (.ref a0)])) rfl rfl (hb hby d6_0_23)
  have N11 := Fr.snoc X11 N9 g_a0
  have O11 : Old Z n0 h11 := O9.wr W11 g_a0
  have K11 : Keep h0 h11 [a0] := K9.wr W11 (Or.inl (List.mem_of_getElem? (i := 0) rfl))
  have CH12 := CHv.wr W11 (own_safe_nil _ _ _) CH10
  have CR12 := CR10.trans (CHr.wr W11 (own_safe_nil _ _ _) CH10)
  have hk := Nat.le_trans hk (Keep.of_wr W11).1
  have E_a0 := (E_a0.wr W11)
  have E_a2 := (E_a2.wr W11)
  have F_modCount_a2 := (F_modCount_a2.other W11 (Or.inl ne_a2_a0))
  have F_elementData_a2 := (F_elementData_a2.other W11 (Or.inl ne_a2_a0))
  have F_size_a2 := (F_size_a2.other W11 (Or.inl ne_a2_a0))
  have F_base_a0 := (F_base_a0.other W11 (Or.inr (slot_ne (Or.inr (hw _ (List.mem_of_getElem? (i := 88) rfl))) (Or.inr (hw _ (List.mem_of_getElem? (i := 90) rfl))) (by decide) (t := (.object "com/example/declared_endpoints/declaredendpoints/model/FieldType$Base")) (t' := (.object "java/util/List")) (by decide) (by decide))))
  have F_containers_a0 := F_containers_a0.same W11
  obtain ⟨fs, hr, hrun, hended, hRW⟩ := X11.leaveW hS (by rw [e11]; exact hk) (v := none) (fun h => rfl)
  have CRx : CHr Z EL s.vm s.heap T11.vm T11.heap := by rw [hh, e11]; exact CR12.trans (CHv.at X11 hZ hEL CH12)
  refine ⟨_, _, pre0 _ ?_, hrun, hended, _, _, rfl, ?_, CRx, own_rw_mono hRW (by decide) (by decide)⟩
  · show Steps p.tables e below (s₁.setTop (mkF m 0 #[.val (.ref a0), .val (.ref a1), .val (.ref a2)] [])) _
    refine XS.aloadN X0.here hx rfl (hb hby d6_0_0) rfl rfl ?_
    show Steps p.tables e below (s₁.setTop (mkF m 1 #[.val (.ref a0), .val (.ref a1), .val (.ref a2)] [(.ref a0)])) _
    refine st1.trans ?_
    show Steps p.tables e below (T1.setTop (mkF m 4 #[.val (.ref a0), .val (.ref a1), .val (.ref a2)] [])) _
    refine XS.aloadN X1.here hx rfl (hb hby d6_0_4) rfl rfl ?_
    show Steps p.tables e below (T1.setTop (mkF m 5 #[.val (.ref a0), .val (.ref a1), .val (.ref a2)] [(.ref a1)])) _
    refine st3 _ ?_
    show Steps p.tables e below (T3.setTop (mkF m 7 #[.val (.ref a0), .val (.ref a1), .val (.ref a2)] [(.ref r3), (.ref a1)])) _
    refine st5 _ ?_
    show Steps p.tables e below (T5.setTop (mkF m 10 #[.val (.ref a0), .val (.ref a1), .val (.ref a2)] [(.ref a1)])) _
    refine XS.pop X5.here hx rfl (hb hby d6_0_10) rfl rfl ?_
    show Steps p.tables e below (T5.setTop (mkF m 11 #[.val (.ref a0), .val (.ref a1), .val (.ref a2)] [])) _
    refine XS.aloadN X5.here hx rfl (hb hby d6_0_11) rfl rfl ?_
    show Steps p.tables e below (T5.setTop (mkF m 12 #[.val (.ref a0), .val (.ref a1), .val (.ref a2)] [(.ref a2)])) _
    refine st7 _ ?_
    show Steps p.tables e below (T7.setTop (mkF m 15 #[.val (.ref a0), .val (.ref a1), .val (.ref a2)] [(.ref w_EMPTY_LIST)])) _
    refine XS.astoreN X7.here hx rfl (hb hby d6_0_15) rfl rfl (l' := #[.val (.ref a0), .val (.ref a1), .val (.ref w_EMPTY_LIST)]) rfl ?_
    show Steps p.tables e below (T7.setTop (mkF m 16 #[.val (.ref a0), .val (.ref a1), .val (.ref w_EMPTY_LIST)] [])) _
    refine XS.aloadN X7.here hx rfl (hb hby d6_0_16) rfl rfl ?_
    show Steps p.tables e below (T7.setTop (mkF m 17 #[.val (.ref a0), .val (.ref a1), .val (.ref w_EMPTY_LIST)] [(.ref a0)])) _
    refine XS.aloadN X7.here hx rfl (hb hby d6_0_17) rfl rfl ?_
    show Steps p.tables e below (T7.setTop (mkF m 18 #[.val (.ref a0), .val (.ref a1), .val (.ref w_EMPTY_LIST)] [(.ref a1), (.ref a0)])) _
    refine st9 _ ?_
    show Steps p.tables e below (T9.setTop (mkF m 21 #[.val (.ref a0), .val (.ref a1), .val (.ref w_EMPTY_LIST)] [])) _
    refine XS.aloadN X9.here hx rfl (hb hby d6_0_21) rfl rfl ?_
    show Steps p.tables e below (T9.setTop (mkF m 22 #[.val (.ref a0), .val (.ref a1), .val (.ref w_EMPTY_LIST)] [(.ref a0)])) _
    refine XS.aloadN X9.here hx rfl (hb hby d6_0_22) rfl rfl ?_
    show Steps p.tables e below (T9.setTop (mkF m 23 #[.val (.ref a0), .val (.ref a1), .val (.ref w_EMPTY_LIST)] [(.ref w_EMPTY_LIST), (.ref a0)])) _
    refine st11 _ ?_
    show Steps p.tables e below (T11.setTop (mkF m 26 #[.val (.ref a0), .val (.ref a1), .val (.ref w_EMPTY_LIST)] [])) _
    exact X11.returnOut hx Bd.returns (hb hby d6_0_26) hr
  · show Q6_0 Z a0 a1 a2 w_STRING w_OBJECT w_INT w_MAP w_BIGDECIMAL w_DATE w_LONG w_LIST w_BOOLEAN w_DEFAULTCAPACITY_EMPTY_ELEMENTDATA c_DEFAULTCAPACITY_EMPTY_ELEMENTDATA w_EMPTY_LIST w_EMPTY w_ELEMS c_ELEMS w_MIR u_modCount_a2 u_base_a0 u_containers_a0 h0 n0 _ T11.heap _
    rw [e11]
    exact ⟨rfl, N11, O11, K11, F_base_a0, F_containers_a0⟩

theorem d6_1_0 : decode prog_22_method_1_code 0 = .ok (.aload_n 0, 1) := by decide +kernel
theorem d6_1_1 : decode prog_22_method_1_code 1 = .ok (.invokespecial 1, 3) := by decide +kernel
theorem d6_1_4 : decode prog_22_method_1_code 4 = .ok (.aload_n 1, 1) := by decide +kernel
theorem d6_1_5 : decode prog_22_method_1_code 5 = .ok (.ldc 7, 2) := by decide +kernel
theorem d6_1_7 : decode prog_22_method_1_code 7 = .ok (.invokestatic 9, 3) := by decide +kernel
theorem d6_1_10 : decode prog_22_method_1_code 10 = .ok (.pop, 1) := by decide +kernel
theorem d6_1_11 : decode prog_22_method_1_code 11 = .ok (.aload_n 2, 1) := by decide +kernel
theorem d6_1_12 : decode prog_22_method_1_code 12 = .ok (.invokestatic 15, 3) := by decide +kernel
theorem d6_1_15 : decode prog_22_method_1_code 15 = .ok (.astore_n 2, 1) := by decide +kernel
theorem d6_1_16 : decode prog_22_method_1_code 16 = .ok (.aload_n 0, 1) := by decide +kernel
theorem d6_1_17 : decode prog_22_method_1_code 17 = .ok (.aload_n 1, 1) := by decide +kernel
theorem d6_1_18 : decode prog_22_method_1_code 18 = .ok (.putfield 21, 3) := by decide +kernel
theorem d6_1_21 : decode prog_22_method_1_code 21 = .ok (.aload_n 0, 1) := by decide +kernel
theorem d6_1_22 : decode prog_22_method_1_code 22 = .ok (.aload_n 2, 1) := by decide +kernel
theorem d6_1_23 : decode prog_22_method_1_code 23 = .ok (.putfield 26, 3) := by decide +kernel
theorem d6_1_26 : decode prog_22_method_1_code 26 = .ok (.return_, 1) := by decide +kernel
theorem pn_6_1 : plainName "com/example/declared_endpoints/declaredendpoints/model/FieldType" = true := by first | (simp [plainName, overriddenIn]; done) | decide +kernel
theorem pd_6_1_1 : parseMethodDescriptor "()V" = some ⟨[], none⟩ := by decide +kernel
theorem pd_6_1_12 : parseMethodDescriptor "(Ljava/util/Collection;)Ljava/util/List;" = some ⟨[(.object "java/util/Collection")], some (.object "java/util/List")⟩ := by decide +kernel
theorem pd_6_1_7 : parseMethodDescriptor "(Ljava/lang/Object;Ljava/lang/String;)Ljava/lang/Object;" = some ⟨[(.object "java/lang/Object"), (.object "java/lang/String")], some (.object "java/lang/Object")⟩ := by decide +kernel
theorem ef_6_1 (m : MethodId) (a0 : Addr) (a1 : Addr) (a2 : Addr) : entryFrame m #[(.ref a0), (.ref a1), (.ref a2)] 3 = mkF m 0 #[.val (.ref a0), .val (.ref a1), .val (.ref a2)] [] := by first | (simp [entryFrame, mkF, argsToLocals, Value.category]; done) | rfl
def Q6_1 (Z : State) (a0 : Addr) (a1 : Addr) (a2 : Addr) (w_STRING : Addr) (w_OBJECT : Addr) (w_INT : Addr) (w_MAP : Addr) (w_BIGDECIMAL : Addr) (w_DATE : Addr) (w_LONG : Addr) (w_LIST : Addr) (w_BOOLEAN : Addr) (w_DEFAULTCAPACITY_EMPTY_ELEMENTDATA : Addr) (c_DEFAULTCAPACITY_EMPTY_ELEMENTDATA : Cell) (w_EMPTY_LIST : Addr) (w_EMPTY : Addr) (w_ELEMS : Addr) (c_ELEMS : Cell) (w_MIR : Addr) (u_modCount_a2 : Value) (xa : Addr) (kxa : ClassId) (el0 : Addr) (u_base_a0 : Value) (u_containers_a0 : Value) (h0 : Heap) (n0 : Nat) (v : Option Value) (h : Heap) (L : List Loc) : Prop := ∃ (b7_1_5_2 : Addr) , v = none ∧ Fr n0 L ∧ Old Z n0 h ∧ Keep h0 h [a0] ∧ h0.size ≤ b7_1_5_2 ∧ (Exa Z h b7_1_5_2 "java/util/ImmutableCollections$List12") ∧ (Fld Z h b7_1_5_2 "java/util/ImmutableCollections$List12" "e0" "Ljava/lang/Object;" (.ref el0)) ∧ (Fld Z h b7_1_5_2 "java/util/ImmutableCollections$List12" "e1" "Ljava/lang/Object;" (.ref w_EMPTY)) ∧ (Fld Z h a0 "com/example/declared_endpoints/declaredendpoints/model/FieldType" "base" "Lcom/example/declared_endpoints/declaredendpoints/model/FieldType$Base;" (.ref a1)) ∧ (Fld Z h a0 "com/example/declared_endpoints/declaredendpoints/model/FieldType" "containers" "Ljava/util/List;" (.ref b7_1_5_2))
set_option maxRecDepth 65536 in
set_option maxHeartbeats 40000000 in
theorem rm6_1 (l : Launch) (Z : State) (ar0 : Array Value) (hw : ∀ d ∈ tables_1, d.before ar0 Z = true) (ws : List Jvm.Cond) (a0 : Addr) (a1 : Addr) (a2 : Addr) (w_STRING : Addr) (w_OBJECT : Addr) (w_INT : Addr) (w_MAP : Addr) (w_BIGDECIMAL : Addr) (w_DATE : Addr) (w_LONG : Addr) (w_LIST : Addr) (w_BOOLEAN : Addr) (w_DEFAULTCAPACITY_EMPTY_ELEMENTDATA : Addr) (c_DEFAULTCAPACITY_EMPTY_ELEMENTDATA : Cell) (w_EMPTY_LIST : Addr) (w_EMPTY : Addr) (w_ELEMS : Addr) (c_ELEMS : Cell) (w_MIR : Addr) (u_modCount_a2 : Value) (xa : Addr) (kxa : ClassId) (el0 : Addr) (u_base_a0 : Value) (u_containers_a0 : Value) (h0 : Heap) (n0 : Nat) (O0 : Old Z n0 h0) (F : Fx Z Z.heap w_STRING w_OBJECT w_INT w_MAP w_BIGDECIMAL w_DATE w_LONG w_LIST w_BOOLEAN w_DEFAULTCAPACITY_EMPTY_ELEMENTDATA c_DEFAULTCAPACITY_EMPTY_ELEMENTDATA w_EMPTY_LIST w_EMPTY w_ELEMS c_ELEMS w_MIR) (E_a00 : Exa Z h0 a0 "com/example/declared_endpoints/declaredendpoints/model/FieldType") (E_a20 : Exa Z h0 a2 "java/util/ArrayList") (F_modCount_a20 : Fld Z h0 a2 "java/util/AbstractList" "modCount" "I" u_modCount_a2) (F_elementData_a20 : Fld Z h0 a2 "java/util/ArrayList" "elementData" "[Ljava/lang/Object;" (.ref xa)) (F_size_a20 : Fld Z h0 a2 "java/util/ArrayList" "size" "I" (.int (1 : Int32))) (V_xa0 : Arv Z h0 xa kxa (.object "java/lang/Object") (10 : Int32) [(.ref el0), .null, .null, .null, .null, .null, .null, .null, .null, .null] .null) (E_xa0 : Exa Z h0 xa "[Ljava/lang/Object;") (Ovr_xa0 : Ovr Z kxa "java/lang/Object") (E_el00 : Exa Z h0 el0 "com/example/declared_endpoints/declaredendpoints/model/FieldType$Container") (F_base_a00 : Fld Z h0 a0 "com/example/declared_endpoints/declaredendpoints/model/FieldType" "base" "Lcom/example/declared_endpoints/declaredendpoints/model/FieldType$Base;" u_base_a0) (g_a0 : n0 ≤ a0) (F_containers_a00 : Fld Z h0 a0 "com/example/declared_endpoints/declaredendpoints/model/FieldType" "containers" "Ljava/util/List;" u_containers_a0) :
    MetFree l (⟨"com/example/declared_endpoints/declaredendpoints/model/FieldType", "<init>", "(Lcom/example/declared_endpoints/declaredendpoints/model/FieldType$Base;Ljava/util/List;)V"⟩ : MethodName) (head1 ((Jvm.Cond.code (⟨"com/example/declared_endpoints/declaredendpoints/model/FieldType", "<init>", "(Lcom/example/declared_endpoints/declaredendpoints/model/FieldType$Base;Ljava/util/List;)V"⟩ : MethodName) prog_22_method_1_code 3 none) :: ws) ({ frames := 8, cells := 4, slots := 23, locals := 100 } : Room)) (fun a U => a = #[(.ref a0), (.ref a1), (.ref a2)] ∧ Z.Warmed39 U.vm ∧ U.heap = h0 ∧ CHv Z EL U.vm h0) (fun _ _ _ _ _ => True) (fun _ U o U' => ∃ v L, o = .returned v ∧ Q6_1 Z a0 a1 a2 w_STRING w_OBJECT w_INT w_MAP w_BIGDECIMAL w_DATE w_LONG w_LIST w_BOOLEAN w_DEFAULTCAPACITY_EMPTY_ELEMENTDATA c_DEFAULTCAPACITY_EMPTY_ELEMENTDATA w_EMPTY_LIST w_EMPTY w_ELEMS c_ELEMS w_MIR u_modCount_a2 xa kxa el0 u_base_a0 u_containers_a0 h0 n0 v U'.heap L ∧ CHr Z EL U.vm U.heap U'.vm U'.heap ∧ ReturnedEndW U o U' L ({ frames := 8, cells := 4, slots := 23, locals := 100 } : Room).cells ({ frames := 8, cells := 4, slots := 23, locals := 100 } : Room).slots) := by
  obtain ⟨S_STRING, E_STRING, S_OBJECT, E_OBJECT, F_ordinal_STRING, F_ordinal_OBJECT, S_INT, E_INT, F_ordinal_INT, S_MAP, E_MAP, S_BIGDECIMAL, E_BIGDECIMAL, S_DATE, E_DATE, S_LONG, E_LONG, F_ordinal_LONG, F_ordinal_BIGDECIMAL, S_LIST, E_LIST, S_BOOLEAN, E_BOOLEAN, F_ordinal_BOOLEAN, F_ordinal_DATE, S_DEFAULTCAPACITY_EMPTY_ELEMENTDATA, E_DEFAULTCAPACITY_EMPTY_ELEMENTDATA, A_DEFAULTCAPACITY_EMPTY_ELEMENTDATA, L_DEFAULTCAPACITY_EMPTY_ELEMENTDATA, S_EMPTY_LIST, E_EMPTY_LIST, S_EMPTY, E_EMPTY, F_elements_EMPTY_LIST, A_ELEMS, L_ELEMS, M_MIR⟩ := id F
  refine MetFree.of_bodySF (plainFor_of_name pn_6_1) hisR ?_
  intro p e s m args below meth c s₁ Bd hml0 hP hK
  obtain ⟨rfl, hZ, hh, hCH⟩ := hP
  have hx := Bd.exec
  have hby := Bd.bytes
  have hml : c.maxLocals = 3 := hml0
  have hown : s.vm.findClass "com/example/declared_endpoints/declaredendpoints/model/FieldType" = some m.cls := findClass_of_methodNamed Bd.named
  have hS : s.Since s.vm h0.size := (State.WarmedH.refl s).since _
  have hk : h0.size ≤ h0.size := Nat.le_refl _
  have CR0 : CHr Z EL s.vm h0 s.vm h0 := CHr.refl hCH
  have hEL := own_EW hw
  have wS := own_wS hw
  have hnm := (name_of_methodNamed Bd.named Bd.method).1
  have X0 : Stand p l e ({ frames := 8, cells := 4, slots := 23, locals := 100 } : Room) (s.setVm s.vm) m #[(.ref a0), (.ref a1), (.ref a2)] below meth c s₁ [] 0 0 := Stand.of_body Bd
  have e0 : s₁.heap = h0 := by rw [← hh, Bd.state]; rfl
  have N0 := Fr.nil n0
  have K0 : Keep h0 h0 [a0] := Keep.refl _ _
  have pre0 : ∀ t, Steps p.tables e below (s₁.setTop (mkF m 0 #[.val (.ref a0), .val (.ref a1), .val (.ref a2)] [])) t → Steps p.tables e below (s₁.setTop (entryFrame m #[(.ref a0), (.ref a1), (.ref a2)] 3)) t := fun t k => castTop (ef_6_1 m a0 a1 a2) k
  have E_a0 := E_a00
  have E_a2 := E_a20
  have F_modCount_a2 := F_modCount_a20
  have F_elementData_a2 := F_elementData_a20
  have F_size_a2 := F_size_a20
  have V_xa := V_xa0
  have E_xa := E_xa0
  have Ovr_xa := Ovr_xa0
  have E_el0 := E_el00
  obtain ⟨_, _, ⟨T1, L1, k1, n1⟩, -, X1, ⟨Lc1, hQ1, l1, y1, z1⟩, st1⟩ := X0.specialBack hx (y := (⟨"java/lang/Record", "<init>", "()V"⟩ : MethodName)) rfl hown (mvT hZ (hw _ (List.mem_of_getElem? (i := 40) rfl))) (mvT hZ (hw _ (List.mem_of_getElem? (i := 41) rfl))) (mvT hZ (hw _ (List.mem_of_getElem? (i := 44) rfl))) (by decide) (backOf (W := 0) (rm7 l Z ar0 hw [] a0 w_STRING w_OBJECT w_INT w_MAP w_BIGDECIMAL w_DATE w_LONG w_LIST w_BOOLEAN w_DEFAULTCAPACITY_EMPTY_ELEMENTDATA c_DEFAULTCAPACITY_EMPTY_ELEMENTDATA w_EMPTY_LIST w_EMPTY w_ELEMS c_ELEMS w_MIR  h0 n0 O0 F ) hZ (hw _ (List.mem_of_getElem? (i := 44) rfl)) (hw _ (List.mem_of_getElem? (i := 43) rfl)) (by decide) (by decide)) (g := (mkF m 1 #[.val (.ref a0), .val (.ref a1), .val (.ref a2)] [(.ref a0)])) rfl (by rw [hml]; rfl) (Steps.refl _) (a := a0) (argsL := []) (rest := []) (lenOf pd_6_1_1 rfl) rfl (by show 2 * 0 + _ ≤ _; exact Nat.le_of_eq rfl) (hb hby d6_1_1) (fun _ _ => ⟨rfl, e0, (by decide : 0 + 0 ≤ _), (by decide : 0 + 0 ≤ _)⟩)
  dsimp only [Pt.U, Pt.locs, Pt.cells, Pt.slots] at X1 l1 y1 z1 st1 hQ1
  subst l1 y1 z1
  obtain ⟨rfl, N1q, O1, Kc1⟩ := hQ1
  have N1 := Fr.app N0 N1q
  have K1 : Keep h0 T1.heap [a0] := K0.trans Kc1 all0
  have CH2 := CHv.keep Kc1 all0 hCH
  have CR2 := CR0.trans (CHr.keep Kc1 all0 hCH)
  have hk := Nat.le_trans hk Kc1.1
  have E_a0 := (E_a0.keep Kc1)
  have E_a2 := (E_a2.keep Kc1)
  have F_modCount_a2 := (F_modCount_a2.keep Kc1 nin0)
  have F_elementData_a2 := (F_elementData_a2.keep Kc1 nin0)
  have F_size_a2 := (F_size_a2.keep Kc1 nin0)
  have V_xa := (V_xa.keep Kc1 nin0)
  have E_xa := (E_xa.keep Kc1)
  have E_el0 := (E_el0.keep Kc1)
  obtain ⟨r3, T3, h3, k03, X3, e3, E3, hS, hk, hZ, hown, C3, Lt3, st3⟩ := ldcOH X1 hx hZ hown (hw _ (List.mem_of_getElem? (i := 46) rfl)) wS rfl hS hk hEL CH2 (g := (mkF m 5 #[.val (.ref a0), .val (.ref a1), .val (.ref a2)] [(.ref a1)])) rfl (hb hby d6_1_5) (n := 16) (by decide) (by decide) (by decide) (by decide)
  have O3 : Old Z n0 h3 := O1.ext E3
  have K3 : Keep h0 h3 [a0] := K1.ext E3
  have CR3 := CR2.trans C3
  have E_a0 := (E_a0.ext E3)
  have E_a2 := (E_a2.ext E3)
  have F_modCount_a2 := (F_modCount_a2.ext E3)
  have F_elementData_a2 := (F_elementData_a2.ext E3)
  have F_size_a2 := (F_size_a2.ext E3)
  have V_xa := (V_xa.ext E3)
  have E_xa := (E_xa.ext E3)
  have E_el0 := (E_el0.ext E3)
  obtain ⟨_, _, ⟨T5, L5, k5, n5⟩, -, X5, ⟨Lc5, hQ5, l5, y5, z5⟩, st5⟩ := Jvm.LawKit.callS X3 hx (y := (⟨"java/util/Objects", "requireNonNull", "(Ljava/lang/Object;Ljava/lang/String;)Ljava/lang/Object;"⟩ : MethodName)) hown (mvT hZ (hw _ (List.mem_of_getElem? (i := 54) rfl))) (mvT hZ (hw _ (List.mem_of_getElem? (i := 55) rfl))) (mvT hZ (hw _ (List.mem_of_getElem? (i := 56) rfl))) (mvT hZ (hw _ (List.mem_of_getElem? (i := 57) rfl))) (by decide) (backOf (W := 0) (rm8 l Z ar0 hw [] a1 r3 w_STRING w_OBJECT w_INT w_MAP w_BIGDECIMAL w_DATE w_LONG w_LIST w_BOOLEAN w_DEFAULTCAPACITY_EMPTY_ELEMENTDATA c_DEFAULTCAPACITY_EMPTY_ELEMENTDATA w_EMPTY_LIST w_EMPTY w_ELEMS c_ELEMS w_MIR  h3 n0 O3 F ) hZ (hw _ (List.mem_of_getElem? (i := 57) rfl)) (hw _ (List.mem_of_getElem? (i := 56) rfl)) (by decide) (by decide)) (g := (mkF m 7 #[.val (.ref a0), .val (.ref a1), .val (.ref a2)] [(.ref r3), (.ref a1)])) rfl (by rw [hml]; rfl) (argsL := [(.ref a1), (.ref r3)]) (rest := []) (lenOf pd_6_1_7 rfl) rfl (by show 2 * 0 + _ ≤ _; exact Nat.le_of_eq rfl) (hb hby d6_1_7) (fun _ _ => ⟨rfl, e3, (by decide : 2 + 0 ≤ _), (by decide : 20 + 0 ≤ _)⟩)
  dsimp only [Pt.U, Pt.locs, Pt.cells, Pt.slots] at X5 l5 y5 z5 st5 hQ5
  subst l5 y5 z5
  obtain ⟨rfl, N5q, O5, Kc5⟩ := hQ5
  have N5 := Fr.app N1 N5q
  have K5 : Keep h0 T5.heap [a0] := K3.trans Kc5 all0
  have CH6 := CHv.keep Kc5 all0 C3.1
  have CR6 := CR3.trans (CHr.keep Kc5 all0 C3.1)
  have hk := Nat.le_trans hk Kc5.1
  have E_a0 := (E_a0.keep Kc5)
  have E_a2 := (E_a2.keep Kc5)
  have F_modCount_a2 := (F_modCount_a2.keep Kc5 nin0)
  have F_elementData_a2 := (F_elementData_a2.keep Kc5 nin0)
  have F_size_a2 := (F_size_a2.keep Kc5 nin0)
  have V_xa := (V_xa.keep Kc5 nin0)
  have E_xa := (E_xa.keep Kc5)
  have E_el0 := (E_el0.keep Kc5)
  obtain ⟨_, _, ⟨T7, L7, k7, n7⟩, -, X7, ⟨Lc7, hQ7, l7, y7, z7⟩, st7⟩ := Jvm.LawKit.callS X5 hx (y := (⟨"java/util/List", "copyOf", "(Ljava/util/Collection;)Ljava/util/List;"⟩ : MethodName)) hown (mvT hZ (hw _ (List.mem_of_getElem? (i := 58) rfl))) (mvT hZ (hw _ (List.mem_of_getElem? (i := 59) rfl))) (mvT hZ (hw _ (List.mem_of_getElem? (i := 60) rfl))) (mvT hZ (hw _ (List.mem_of_getElem? (i := 61) rfl))) (by decide) (backOf (W := 0) (rm9_1 l Z ar0 hw [] a2 w_STRING w_OBJECT w_INT w_MAP w_BIGDECIMAL w_DATE w_LONG w_LIST w_BOOLEAN w_DEFAULTCAPACITY_EMPTY_ELEMENTDATA c_DEFAULTCAPACITY_EMPTY_ELEMENTDATA w_EMPTY_LIST w_EMPTY w_ELEMS c_ELEMS w_MIR u_modCount_a2 xa kxa el0 T5.heap n0 O5 F E_a2 F_modCount_a2 F_elementData_a2 F_size_a2 V_xa E_xa Ovr_xa E_el0) hZ (hw _ (List.mem_of_getElem? (i := 61) rfl)) (hw _ (List.mem_of_getElem? (i := 60) rfl)) (by decide) (by decide)) (g := (mkF m 12 #[.val (.ref a0), .val (.ref a1), .val (.ref a2)] [(.ref a2)])) rfl (by rw [hml]; rfl) (argsL := [(.ref a2)]) (rest := []) (lenOf pd_6_1_12 rfl) rfl (by show 2 * 0 + _ ≤ _; exact Nat.le_of_eq rfl) (hb hby d6_1_12) (fun _ _ => ⟨rfl, rfl, (by decide : 2 + 2 ≤ _), (by decide : 20 + 3 ≤ _)⟩)
  dsimp only [Pt.U, Pt.locs, Pt.cells, Pt.slots] at X7 l7 y7 z7 st7 hQ7
  subst l7 y7 z7
  obtain ⟨b7_1_5_2, rfl, N7q, O7, Kc7, sz7_0, fq7_0, fq7_1, fq7_2⟩ := hQ7
  have N7 := Fr.app N5 N7q
  have ne_a0_b7_1_5_2 : a0 ≠ b7_1_5_2 := Nat.ne_of_lt (Nat.lt_of_lt_of_le E_a0.lt sz7_0)
  have ne_a2_b7_1_5_2 : a2 ≠ b7_1_5_2 := Nat.ne_of_lt (Nat.lt_of_lt_of_le E_a2.lt sz7_0)
  have ne_xa_b7_1_5_2 : xa ≠ b7_1_5_2 := Nat.ne_of_lt (Nat.lt_of_lt_of_le V_xa.lt sz7_0)
  have ne_el0_b7_1_5_2 : el0 ≠ b7_1_5_2 := Nat.ne_of_lt (Nat.lt_of_lt_of_le E_el0.lt sz7_0)
  have g_b7_1_5_2 : n0 ≤ b7_1_5_2 := Nat.le_trans (own_old_le O5) sz7_0
  have sz_b7_1_5_2 : h0.size ≤ b7_1_5_2 := Nat.le_trans K5.1 sz7_0
  have K7 : Keep h0 T7.heap [a0] := K5.trans Kc7 all0
  have CH8 := CHv.keep Kc7 all0 CH6
  have CR8 := CR6.trans (CHr.keep Kc7 all0 CH6)
  have hk := Nat.le_trans hk Kc7.1
  have E_a0 := (E_a0.keep Kc7)
  have E_a2 := (E_a2.keep Kc7)
  have F_modCount_a2 := (F_modCount_a2.keep Kc7 nin0)
  have F_elementData_a2 := (F_elementData_a2.keep Kc7 nin0)
  have F_size_a2 := (F_size_a2.keep Kc7 nin0)
  have V_xa := (V_xa.keep Kc7 nin0)
  have E_xa := (E_xa.keep Kc7)
  have E_el0 := (E_el0.keep Kc7)
  have E_b7_1_5_2 := fq7_0
  have F_e0_b7_1_5_2 := fq7_1
  have F_e1_b7_1_5_2 := fq7_2
  have F_base_a0 := ((((F_base_a00.keep Kc1 nin0).ext E3).keep Kc5 nin0).keep Kc7 nin0)
  obtain ⟨T9, h9, X9, e9, W9, st9⟩ := putF X7 hx hZ hown (host := "") (Or.inl (hw _ (List.mem_of_getElem? (i := 87) rfl))) Via.refl rfl F_base_a0 E_a0 (Or.inr ⟨(hw _ (List.mem_of_getElem? (i := 88) rfl)), rfl, hnm⟩) (hw _ (List.mem_of_getElem? (i := 28) rfl)) (ty := (.object "com/example/declared_endpoints/declaredendpoints/model/FieldType$Base")) (by decide) rfl rfl (g := (mkF m 18 #[.val (.ref a0), .val (.ref a1), .val (.ref b7_1_5_2)] [(.ref a1), (.ref a0)])) rfl rfl (hb hby d6_1_18)
  have N9 := Fr.snoc X9 N7 g_a0
  have O9 : Old Z n0 h9 := O7.wr W9 g_a0
  have K9 : Keep h0 h9 [a0] := K7.wr W9 (Or.inl (List.mem_of_getElem? (i := 0) rfl))
  have ne_a2_a0 : a2 ≠ a0 := (ne_exa E_a2 E_a0 (by decide))
  have ne_xa_a0 : xa ≠ a0 := (ne_exa E_xa E_a0 (by decide))
  have CH10 := CHv.wr W9 (own_safe_nil _ _ _) CH8
  have CR10 := CR8.trans (CHr.wr W9 (own_safe_nil _ _ _) CH8)
  have hk := Nat.le_trans hk (Keep.of_wr W9).1
  have E_a0 := (E_a0.wr W9)
  have E_a2 := (E_a2.wr W9)
  have F_modCount_a2 := (F_modCount_a2.other W9 (Or.inl ne_a2_a0))
  have F_elementData_a2 := (F_elementData_a2.other W9 (Or.inl ne_a2_a0))
  have F_size_a2 := (F_size_a2.other W9 (Or.inl ne_a2_a0))
  have V_xa := (V_xa.other W9 ne_xa_a0)
  have E_xa := (E_xa.wr W9)
  have E_el0 := (E_el0.wr W9)
  have E_b7_1_5_2 := (E_b7_1_5_2.wr W9)
  have F_e0_b7_1_5_2 := (F_e0_b7_1_5_2.other W9 (Or.inl (Ne.symm ne_a0_b7_1_5_2)))
  have F_e1_b7_1_5_2 := (F_e1_b7_1_5_2.other W9 (Or.inl (Ne.symm ne_a0_b7_1_5_2)))
  have F_base_a0 := F_base_a0.same W9
  have F_containers_a0 := (((((F_containers_a00.keep Kc1 nin0).ext E3).keep Kc5 nin0).keep Kc7 nin0).other W9 (Or.inr (slot_ne (Or.inr (hw _ (List.mem_of_getElem? (i := 90) rfl))) (Or.inr (hw _ (List.mem_of_getElem? (i := 88) rfl))) (by decide) (t := (.object "java/util/List")) (t' := (.object "com/example/declared_endpoints/declaredendpoints/model/FieldType$Base")) (by decide) (by decide))))
  obtain ⟨T11, h11, X11, e11, W11, st11⟩ := putF X9 hx hZ hown (host := "") (Or.inl (hw _ (List.mem_of_getElem? (i := 89) rfl))) Via.refl e9 F_containers_a0 E_a0 (Or.inr ⟨(hw _ (List.mem_of_getElem? (i := 90) rfl)), rfl, hnm⟩) (hw _ (List.mem_of_getElem? (i := 28) rfl)) (ty := (.object "java/util/List")) (by decide) rfl rfl (g := (mkF m 23 #[.val (.ref a0), .val (.ref a1), .val (.ref b7_1_5_2)] [(.ref b7_1_5_2), (.ref a0)])) rfl rfl (hb hby d6_1_23)
  have N11 := Fr.snoc X11 N9 g_a0
  have O11 : Old Z n0 h11 := O9.wr W11 g_a0
  have K11 : Keep h0 h11 [a0] := K9.wr W11 (Or.inl (List.mem_of_getElem? (i := 0) rfl))
  have CH12 := CHv.wr W11 (own_safe_nil _ _ _) CH10
  have CR12 := CR10.trans (CHr.wr W11 (own_safe_nil _ _ _) CH10)
  have hk := Nat.le_trans hk (Keep.of_wr W11).1
  have E_a0 := (E_a0.wr W11)
  have E_a2 := (E_a2.wr W11)
  have F_modCount_a2 := (F_modCount_a2.other W11 (Or.inl ne_a2_a0))
  have F_elementData_a2 := (F_elementData_a2.other W11 (Or.inl ne_a2_a0))
  have F_size_a2 := (F_size_a2.other W11 (Or.inl ne_a2_a0))
  have V_xa := (V_xa.other W11 ne_xa_a0)
  have E_xa := (E_xa.wr W11)
  have E_el0 := (E_el0.wr W11)
  have E_b7_1_5_2 := (E_b7_1_5_2.wr W11)
  have F_e0_b7_1_5_2 := (F_e0_b7_1_5_2.other W11 (Or.inl (Ne.symm ne_a0_b7_1_5_2)))
  have F_e1_b7_1_5_2 := (F_e1_b7_1_5_2.other W11 (Or.inl (Ne.symm ne_a0_b7_1_5_2)))
  have F_base_a0 := (F_base_a0.other W11 (Or.inr (slot_ne (Or.inr (hw _ (List.mem_of_getElem? (i := 88) rfl))) (Or.inr (hw _ (List.mem_of_getElem? (i := 90) rfl))) (by decide) (t := (.object "com/example/declared_endpoints/declaredendpoints/model/FieldType$Base")) (t' := (.object "java/util/List")) (by decide) (by decide))))
  have F_containers_a0 := F_containers_a0.same W11
  obtain ⟨fs, hr, hrun, hended, hRW⟩ := X11.leaveW hS (by rw [e11]; exact hk) (v := none) (fun h => rfl)
  have CRx : CHr Z EL s.vm s.heap T11.vm T11.heap := by rw [hh, e11]; exact CR12.trans (CHv.at X11 hZ hEL CH12)
  refine ⟨_, _, pre0 _ ?_, hrun, hended, _, _, rfl, ?_, CRx, own_rw_mono hRW (by decide) (by decide)⟩
  · show Steps p.tables e below (s₁.setTop (mkF m 0 #[.val (.ref a0), .val (.ref a1), .val (.ref a2)] [])) _
    refine XS.aloadN X0.here hx rfl (hb hby d6_1_0) rfl rfl ?_
    show Steps p.tables e below (s₁.setTop (mkF m 1 #[.val (.ref a0), .val (.ref a1), .val (.ref a2)] [(.ref a0)])) _
    refine st1.trans ?_
    show Steps p.tables e below (T1.setTop (mkF m 4 #[.val (.ref a0), .val (.ref a1), .val (.ref a2)] [])) _
    refine XS.aloadN X1.here hx rfl (hb hby d6_1_4) rfl rfl ?_
    show Steps p.tables e below (T1.setTop (mkF m 5 #[.val (.ref a0), .val (.ref a1), .val (.ref a2)] [(.ref a1)])) _
    refine st3 _ ?_
    show Steps p.tables e below (T3.setTop (mkF m 7 #[.val (.ref a0), .val (.ref a1), .val (.ref a2)] [(.ref r3), (.ref a1)])) _
    refine st5 _ ?_
    show Steps p.tables e below (T5.setTop (mkF m 10 #[.val (.ref a0), .val (.ref a1), .val (.ref a2)] [(.ref a1)])) _
    refine XS.pop X5.here hx rfl (hb hby d6_1_10) rfl rfl ?_
    show Steps p.tables e below (T5.setTop (mkF m 11 #[.val (.ref a0), .val (.ref a1), .val (.ref a2)] [])) _
    refine XS.aloadN X5.here hx rfl (hb hby d6_1_11) rfl rfl ?_
    show Steps p.tables e below (T5.setTop (mkF m 12 #[.val (.ref a0), .val (.ref a1), .val (.ref a2)] [(.ref a2)])) _
    refine st7 _ ?_
    show Steps p.tables e below (T7.setTop (mkF m 15 #[.val (.ref a0), .val (.ref a1), .val (.ref a2)] [(.ref b7_1_5_2)])) _
    refine XS.astoreN X7.here hx rfl (hb hby d6_1_15) rfl rfl (l' := #[.val (.ref a0), .val (.ref a1), .val (.ref b7_1_5_2)]) rfl ?_
    show Steps p.tables e below (T7.setTop (mkF m 16 #[.val (.ref a0), .val (.ref a1), .val (.ref b7_1_5_2)] [])) _
    refine XS.aloadN X7.here hx rfl (hb hby d6_1_16) rfl rfl ?_
    show Steps p.tables e below (T7.setTop (mkF m 17 #[.val (.ref a0), .val (.ref a1), .val (.ref b7_1_5_2)] [(.ref a0)])) _
    refine XS.aloadN X7.here hx rfl (hb hby d6_1_17) rfl rfl ?_
    show Steps p.tables e below (T7.setTop (mkF m 18 #[.val (.ref a0), .val (.ref a1), .val (.ref b7_1_5_2)] [(.ref a1), (.ref a0)])) _
    refine st9 _ ?_
    show Steps p.tables e below (T9.setTop (mkF m 21 #[.val (.ref a0), .val (.ref a1), .val (.ref b7_1_5_2)] [])) _
    refine XS.aloadN X9.here hx rfl (hb hby d6_1_21) rfl rfl ?_
    show Steps p.tables e below (T9.setTop (mkF m 22 #[.val (.ref a0), .val (.ref a1), .val (.ref b7_1_5_2)] [(.ref a0)])) _
    refine XS.aloadN X9.here hx rfl (hb hby d6_1_22) rfl rfl ?_
    show Steps p.tables e below (T9.setTop (mkF m 23 #[.val (.ref a0), .val (.ref a1), .val (.ref b7_1_5_2)] [(.ref b7_1_5_2), (.ref a0)])) _
    refine st11 _ ?_
    show Steps p.tables e below (T11.setTop (mkF m 26 #[.val (.ref a0), .val (.ref a1), .val (.ref b7_1_5_2)] [])) _
    exact X11.returnOut hx Bd.returns (hb hby d6_1_26) hr
  · show Q6_1 Z a0 a1 a2 w_STRING w_OBJECT w_INT w_MAP w_BIGDECIMAL w_DATE w_LONG w_LIST w_BOOLEAN w_DEFAULTCAPACITY_EMPTY_ELEMENTDATA c_DEFAULTCAPACITY_EMPTY_ELEMENTDATA w_EMPTY_LIST w_EMPTY w_ELEMS c_ELEMS w_MIR u_modCount_a2 xa kxa el0 u_base_a0 u_containers_a0 h0 n0 _ T11.heap _
    rw [e11]
    exact ⟨b7_1_5_2, rfl, N11, O11, K11, sz_b7_1_5_2, E_b7_1_5_2, F_e0_b7_1_5_2, F_e1_b7_1_5_2, F_base_a0, F_containers_a0⟩

theorem d6_2_0 : decode prog_22_method_1_code 0 = .ok (.aload_n 0, 1) := by decide +kernel
theorem d6_2_1 : decode prog_22_method_1_code 1 = .ok (.invokespecial 1, 3) := by decide +kernel
theorem d6_2_4 : decode prog_22_method_1_code 4 = .ok (.aload_n 1, 1) := by decide +kernel
theorem d6_2_5 : decode prog_22_method_1_code 5 = .ok (.ldc 7, 2) := by decide +kernel
theorem d6_2_7 : decode prog_22_method_1_code 7 = .ok (.invokestatic 9, 3) := by decide +kernel
theorem d6_2_10 : decode prog_22_method_1_code 10 = .ok (.pop, 1) := by decide +kernel
theorem d6_2_11 : decode prog_22_method_1_code 11 = .ok (.aload_n 2, 1) := by decide +kernel
theorem d6_2_12 : decode prog_22_method_1_code 12 = .ok (.invokestatic 15, 3) := by decide +kernel
theorem d6_2_15 : decode prog_22_method_1_code 15 = .ok (.astore_n 2, 1) := by decide +kernel
theorem d6_2_16 : decode prog_22_method_1_code 16 = .ok (.aload_n 0, 1) := by decide +kernel
theorem d6_2_17 : decode prog_22_method_1_code 17 = .ok (.aload_n 1, 1) := by decide +kernel
theorem d6_2_18 : decode prog_22_method_1_code 18 = .ok (.putfield 21, 3) := by decide +kernel
theorem d6_2_21 : decode prog_22_method_1_code 21 = .ok (.aload_n 0, 1) := by decide +kernel
theorem d6_2_22 : decode prog_22_method_1_code 22 = .ok (.aload_n 2, 1) := by decide +kernel
theorem d6_2_23 : decode prog_22_method_1_code 23 = .ok (.putfield 26, 3) := by decide +kernel
theorem d6_2_26 : decode prog_22_method_1_code 26 = .ok (.return_, 1) := by decide +kernel
theorem pn_6_2 : plainName "com/example/declared_endpoints/declaredendpoints/model/FieldType" = true := by first | (simp [plainName, overriddenIn]; done) | decide +kernel
theorem pd_6_2_1 : parseMethodDescriptor "()V" = some ⟨[], none⟩ := by decide +kernel
theorem pd_6_2_12 : parseMethodDescriptor "(Ljava/util/Collection;)Ljava/util/List;" = some ⟨[(.object "java/util/Collection")], some (.object "java/util/List")⟩ := by decide +kernel
theorem pd_6_2_7 : parseMethodDescriptor "(Ljava/lang/Object;Ljava/lang/String;)Ljava/lang/Object;" = some ⟨[(.object "java/lang/Object"), (.object "java/lang/String")], some (.object "java/lang/Object")⟩ := by decide +kernel
theorem ef_6_2 (m : MethodId) (a0 : Addr) (a1 : Addr) (a2 : Addr) : entryFrame m #[(.ref a0), (.ref a1), (.ref a2)] 3 = mkF m 0 #[.val (.ref a0), .val (.ref a1), .val (.ref a2)] [] := by first | (simp [entryFrame, mkF, argsToLocals, Value.category]; done) | rfl
def Q6_2 (Z : State) (a0 : Addr) (a1 : Addr) (a2 : Addr) (w_STRING : Addr) (w_OBJECT : Addr) (w_INT : Addr) (w_MAP : Addr) (w_BIGDECIMAL : Addr) (w_DATE : Addr) (w_LONG : Addr) (w_LIST : Addr) (w_BOOLEAN : Addr) (w_DEFAULTCAPACITY_EMPTY_ELEMENTDATA : Addr) (c_DEFAULTCAPACITY_EMPTY_ELEMENTDATA : Cell) (w_EMPTY_LIST : Addr) (w_EMPTY : Addr) (w_ELEMS : Addr) (c_ELEMS : Cell) (w_MIR : Addr) (u_modCount_a2 : Value) (xa : Addr) (kxa : ClassId) (el0 : Addr) (el1 : Addr) (u_base_a0 : Value) (u_containers_a0 : Value) (h0 : Heap) (n0 : Nat) (v : Option Value) (h : Heap) (L : List Loc) : Prop := ∃ (b7_1_5_2 : Addr) , v = none ∧ Fr n0 L ∧ Old Z n0 h ∧ Keep h0 h [a0] ∧ h0.size ≤ b7_1_5_2 ∧ (Exa Z h b7_1_5_2 "java/util/ImmutableCollections$List12") ∧ (Fld Z h b7_1_5_2 "java/util/ImmutableCollections$List12" "e0" "Ljava/lang/Object;" (.ref el0)) ∧ (Fld Z h b7_1_5_2 "java/util/ImmutableCollections$List12" "e1" "Ljava/lang/Object;" (.ref el1)) ∧ (Fld Z h a0 "com/example/declared_endpoints/declaredendpoints/model/FieldType" "base" "Lcom/example/declared_endpoints/declaredendpoints/model/FieldType$Base;" (.ref a1)) ∧ (Fld Z h a0 "com/example/declared_endpoints/declaredendpoints/model/FieldType" "containers" "Ljava/util/List;" (.ref b7_1_5_2))
set_option maxRecDepth 65536 in
set_option maxHeartbeats 40000000 in
theorem rm6_2 (l : Launch) (Z : State) (ar0 : Array Value) (hw : ∀ d ∈ tables_1, d.before ar0 Z = true) (ws : List Jvm.Cond) (a0 : Addr) (a1 : Addr) (a2 : Addr) (w_STRING : Addr) (w_OBJECT : Addr) (w_INT : Addr) (w_MAP : Addr) (w_BIGDECIMAL : Addr) (w_DATE : Addr) (w_LONG : Addr) (w_LIST : Addr) (w_BOOLEAN : Addr) (w_DEFAULTCAPACITY_EMPTY_ELEMENTDATA : Addr) (c_DEFAULTCAPACITY_EMPTY_ELEMENTDATA : Cell) (w_EMPTY_LIST : Addr) (w_EMPTY : Addr) (w_ELEMS : Addr) (c_ELEMS : Cell) (w_MIR : Addr) (u_modCount_a2 : Value) (xa : Addr) (kxa : ClassId) (el0 : Addr) (el1 : Addr) (u_base_a0 : Value) (u_containers_a0 : Value) (h0 : Heap) (n0 : Nat) (O0 : Old Z n0 h0) (F : Fx Z Z.heap w_STRING w_OBJECT w_INT w_MAP w_BIGDECIMAL w_DATE w_LONG w_LIST w_BOOLEAN w_DEFAULTCAPACITY_EMPTY_ELEMENTDATA c_DEFAULTCAPACITY_EMPTY_ELEMENTDATA w_EMPTY_LIST w_EMPTY w_ELEMS c_ELEMS w_MIR) (E_a00 : Exa Z h0 a0 "com/example/declared_endpoints/declaredendpoints/model/FieldType") (E_a20 : Exa Z h0 a2 "java/util/ArrayList") (F_modCount_a20 : Fld Z h0 a2 "java/util/AbstractList" "modCount" "I" u_modCount_a2) (F_elementData_a20 : Fld Z h0 a2 "java/util/ArrayList" "elementData" "[Ljava/lang/Object;" (.ref xa)) (F_size_a20 : Fld Z h0 a2 "java/util/ArrayList" "size" "I" (.int (2 : Int32))) (V_xa0 : Arv Z h0 xa kxa (.object "java/lang/Object") (10 : Int32) [(.ref el0), (.ref el1), .null, .null, .null, .null, .null, .null, .null, .null] .null) (E_xa0 : Exa Z h0 xa "[Ljava/lang/Object;") (Ovr_xa0 : Ovr Z kxa "java/lang/Object") (E_el00 : Exa Z h0 el0 "com/example/declared_endpoints/declaredendpoints/model/FieldType$Container") (E_el10 : Exa Z h0 el1 "com/example/declared_endpoints/declaredendpoints/model/FieldType$Container") (F_base_a00 : Fld Z h0 a0 "com/example/declared_endpoints/declaredendpoints/model/FieldType" "base" "Lcom/example/declared_endpoints/declaredendpoints/model/FieldType$Base;" u_base_a0) (g_a0 : n0 ≤ a0) (F_containers_a00 : Fld Z h0 a0 "com/example/declared_endpoints/declaredendpoints/model/FieldType" "containers" "Ljava/util/List;" u_containers_a0) :
    MetFree l (⟨"com/example/declared_endpoints/declaredendpoints/model/FieldType", "<init>", "(Lcom/example/declared_endpoints/declaredendpoints/model/FieldType$Base;Ljava/util/List;)V"⟩ : MethodName) (head1 ((Jvm.Cond.code (⟨"com/example/declared_endpoints/declaredendpoints/model/FieldType", "<init>", "(Lcom/example/declared_endpoints/declaredendpoints/model/FieldType$Base;Ljava/util/List;)V"⟩ : MethodName) prog_22_method_1_code 3 none) :: ws) ({ frames := 8, cells := 4, slots := 24, locals := 101 } : Room)) (fun a U => a = #[(.ref a0), (.ref a1), (.ref a2)] ∧ Z.Warmed39 U.vm ∧ U.heap = h0 ∧ CHv Z EL U.vm h0) (fun _ _ _ _ _ => True) (fun _ U o U' => ∃ v L, o = .returned v ∧ Q6_2 Z a0 a1 a2 w_STRING w_OBJECT w_INT w_MAP w_BIGDECIMAL w_DATE w_LONG w_LIST w_BOOLEAN w_DEFAULTCAPACITY_EMPTY_ELEMENTDATA c_DEFAULTCAPACITY_EMPTY_ELEMENTDATA w_EMPTY_LIST w_EMPTY w_ELEMS c_ELEMS w_MIR u_modCount_a2 xa kxa el0 el1 u_base_a0 u_containers_a0 h0 n0 v U'.heap L ∧ CHr Z EL U.vm U.heap U'.vm U'.heap ∧ ReturnedEndW U o U' L ({ frames := 8, cells := 4, slots := 24, locals := 101 } : Room).cells ({ frames := 8, cells := 4, slots := 24, locals := 101 } : Room).slots) := by
  obtain ⟨S_STRING, E_STRING, S_OBJECT, E_OBJECT, F_ordinal_STRING, F_ordinal_OBJECT, S_INT, E_INT, F_ordinal_INT, S_MAP, E_MAP, S_BIGDECIMAL, E_BIGDECIMAL, S_DATE, E_DATE, S_LONG, E_LONG, F_ordinal_LONG, F_ordinal_BIGDECIMAL, S_LIST, E_LIST, S_BOOLEAN, E_BOOLEAN, F_ordinal_BOOLEAN, F_ordinal_DATE, S_DEFAULTCAPACITY_EMPTY_ELEMENTDATA, E_DEFAULTCAPACITY_EMPTY_ELEMENTDATA, A_DEFAULTCAPACITY_EMPTY_ELEMENTDATA, L_DEFAULTCAPACITY_EMPTY_ELEMENTDATA, S_EMPTY_LIST, E_EMPTY_LIST, S_EMPTY, E_EMPTY, F_elements_EMPTY_LIST, A_ELEMS, L_ELEMS, M_MIR⟩ := id F
  refine MetFree.of_bodySF (plainFor_of_name pn_6_2) hisR ?_
  intro p e s m args below meth c s₁ Bd hml0 hP hK
  obtain ⟨rfl, hZ, hh, hCH⟩ := hP
  have hx := Bd.exec
  have hby := Bd.bytes
  have hml : c.maxLocals = 3 := hml0
  have hown : s.vm.findClass "com/example/declared_endpoints/declaredendpoints/model/FieldType" = some m.cls := findClass_of_methodNamed Bd.named
  have hS : s.Since s.vm h0.size := (State.WarmedH.refl s).since _
  have hk : h0.size ≤ h0.size := Nat.le_refl _
  have CR0 : CHr Z EL s.vm h0 s.vm h0 := CHr.refl hCH
  have hEL := own_EW hw
  have wS := own_wS hw
  have hnm := (name_of_methodNamed Bd.named Bd.method).1
  have X0 : Stand p l e ({ frames := 8, cells := 4, slots := 24, locals := 101 } : Room) (s.setVm s.vm) m #[(.ref a0), (.ref a1), (.ref a2)] below meth c s₁ [] 0 0 := Stand.of_body Bd
  have e0 : s₁.heap = h0 := by rw [← hh, Bd.state]; rfl
  have N0 := Fr.nil n0
  have K0 : Keep h0 h0 [a0] := Keep.refl _ _
  have pre0 : ∀ t, Steps p.tables e below (s₁.setTop (mkF m 0 #[.val (.ref a0), .val (.ref a1), .val (.ref a2)] [])) t → Steps p.tables e below (s₁.setTop (entryFrame m #[(.ref a0), (.ref a1), (.ref a2)] 3)) t := fun t k => castTop (ef_6_2 m a0 a1 a2) k
  have E_a0 := E_a00
  have E_a2 := E_a20
  have F_modCount_a2 := F_modCount_a20
  have F_elementData_a2 := F_elementData_a20
  have F_size_a2 := F_size_a20
  have V_xa := V_xa0
  have E_xa := E_xa0
  have Ovr_xa := Ovr_xa0
  have E_el0 := E_el00
  have E_el1 := E_el10
  obtain ⟨_, _, ⟨T1, L1, k1, n1⟩, -, X1, ⟨Lc1, hQ1, l1, y1, z1⟩, st1⟩ := X0.specialBack hx (y := (⟨"java/lang/Record", "<init>", "()V"⟩ : MethodName)) rfl hown (mvT hZ (hw _ (List.mem_of_getElem? (i := 40) rfl))) (mvT hZ (hw _ (List.mem_of_getElem? (i := 41) rfl))) (mvT hZ (hw _ (List.mem_of_getElem? (i := 44) rfl))) (by decide) (backOf (W := 0) (rm7 l Z ar0 hw [] a0 w_STRING w_OBJECT w_INT w_MAP w_BIGDECIMAL w_DATE w_LONG w_LIST w_BOOLEAN w_DEFAULTCAPACITY_EMPTY_ELEMENTDATA c_DEFAULTCAPACITY_EMPTY_ELEMENTDATA w_EMPTY_LIST w_EMPTY w_ELEMS c_ELEMS w_MIR  h0 n0 O0 F ) hZ (hw _ (List.mem_of_getElem? (i := 44) rfl)) (hw _ (List.mem_of_getElem? (i := 43) rfl)) (by decide) (by decide)) (g := (mkF m 1 #[.val (.ref a0), .val (.ref a1), .val (.ref a2)] [(.ref a0)])) rfl (by rw [hml]; rfl) (Steps.refl _) (a := a0) (argsL := []) (rest := []) (lenOf pd_6_2_1 rfl) rfl (by show 2 * 0 + _ ≤ _; exact Nat.le_of_eq rfl) (hb hby d6_2_1) (fun _ _ => ⟨rfl, e0, (by decide : 0 + 0 ≤ _), (by decide : 0 + 0 ≤ _)⟩)
  dsimp only [Pt.U, Pt.locs, Pt.cells, Pt.slots] at X1 l1 y1 z1 st1 hQ1
  subst l1 y1 z1
  obtain ⟨rfl, N1q, O1, Kc1⟩ := hQ1
  have N1 := Fr.app N0 N1q
  have K1 : Keep h0 T1.heap [a0] := K0.trans Kc1 all0
  have CH2 := CHv.keep Kc1 all0 hCH
  have CR2 := CR0.trans (CHr.keep Kc1 all0 hCH)
  have hk := Nat.le_trans hk Kc1.1
  have E_a0 := (E_a0.keep Kc1)
  have E_a2 := (E_a2.keep Kc1)
  have F_modCount_a2 := (F_modCount_a2.keep Kc1 nin0)
  have F_elementData_a2 := (F_elementData_a2.keep Kc1 nin0)
  have F_size_a2 := (F_size_a2.keep Kc1 nin0)
  have V_xa := (V_xa.keep Kc1 nin0)
  have E_xa := (E_xa.keep Kc1)
  have E_el0 := (E_el0.keep Kc1)
  have E_el1 := (E_el1.keep Kc1)
  obtain ⟨r3, T3, h3, k03, X3, e3, E3, hS, hk, hZ, hown, C3, Lt3, st3⟩ := ldcOH X1 hx hZ hown (hw _ (List.mem_of_getElem? (i := 46) rfl)) wS rfl hS hk hEL CH2 (g := (mkF m 5 #[.val (.ref a0), .val (.ref a1), .val (.ref a2)] [(.ref a1)])) rfl (hb hby d6_2_5) (n := 16) (by decide) (by decide) (by decide) (by decide)
  have O3 : Old Z n0 h3 := O1.ext E3
  have K3 : Keep h0 h3 [a0] := K1.ext E3
  have CR3 := CR2.trans C3
  have E_a0 := (E_a0.ext E3)
  have E_a2 := (E_a2.ext E3)
  have F_modCount_a2 := (F_modCount_a2.ext E3)
  have F_elementData_a2 := (F_elementData_a2.ext E3)
  have F_size_a2 := (F_size_a2.ext E3)
  have V_xa := (V_xa.ext E3)
  have E_xa := (E_xa.ext E3)
  have E_el0 := (E_el0.ext E3)
  have E_el1 := (E_el1.ext E3)
  obtain ⟨_, _, ⟨T5, L5, k5, n5⟩, -, X5, ⟨Lc5, hQ5, l5, y5, z5⟩, st5⟩ := Jvm.LawKit.callS X3 hx (y := (⟨"java/util/Objects", "requireNonNull", "(Ljava/lang/Object;Ljava/lang/String;)Ljava/lang/Object;"⟩ : MethodName)) hown (mvT hZ (hw _ (List.mem_of_getElem? (i := 54) rfl))) (mvT hZ (hw _ (List.mem_of_getElem? (i := 55) rfl))) (mvT hZ (hw _ (List.mem_of_getElem? (i := 56) rfl))) (mvT hZ (hw _ (List.mem_of_getElem? (i := 57) rfl))) (by decide) (backOf (W := 0) (rm8 l Z ar0 hw [] a1 r3 w_STRING w_OBJECT w_INT w_MAP w_BIGDECIMAL w_DATE w_LONG w_LIST w_BOOLEAN w_DEFAULTCAPACITY_EMPTY_ELEMENTDATA c_DEFAULTCAPACITY_EMPTY_ELEMENTDATA w_EMPTY_LIST w_EMPTY w_ELEMS c_ELEMS w_MIR  h3 n0 O3 F ) hZ (hw _ (List.mem_of_getElem? (i := 57) rfl)) (hw _ (List.mem_of_getElem? (i := 56) rfl)) (by decide) (by decide)) (g := (mkF m 7 #[.val (.ref a0), .val (.ref a1), .val (.ref a2)] [(.ref r3), (.ref a1)])) rfl (by rw [hml]; rfl) (argsL := [(.ref a1), (.ref r3)]) (rest := []) (lenOf pd_6_2_7 rfl) rfl (by show 2 * 0 + _ ≤ _; exact Nat.le_of_eq rfl) (hb hby d6_2_7) (fun _ _ => ⟨rfl, e3, (by decide : 2 + 0 ≤ _), (by decide : 20 + 0 ≤ _)⟩)
  dsimp only [Pt.U, Pt.locs, Pt.cells, Pt.slots] at X5 l5 y5 z5 st5 hQ5
  subst l5 y5 z5
  obtain ⟨rfl, N5q, O5, Kc5⟩ := hQ5
  have N5 := Fr.app N1 N5q
  have K5 : Keep h0 T5.heap [a0] := K3.trans Kc5 all0
  have CH6 := CHv.keep Kc5 all0 C3.1
  have CR6 := CR3.trans (CHr.keep Kc5 all0 C3.1)
  have hk := Nat.le_trans hk Kc5.1
  have E_a0 := (E_a0.keep Kc5)
  have E_a2 := (E_a2.keep Kc5)
  have F_modCount_a2 := (F_modCount_a2.keep Kc5 nin0)
  have F_elementData_a2 := (F_elementData_a2.keep Kc5 nin0)
  have F_size_a2 := (F_size_a2.keep Kc5 nin0)
  have V_xa := (V_xa.keep Kc5 nin0)
  have E_xa := (E_xa.keep Kc5)
  have E_el0 := (E_el0.keep Kc5)
  have E_el1 := (E_el1.keep Kc5)
  obtain ⟨_, _, ⟨T7, L7, k7, n7⟩, -, X7, ⟨Lc7, hQ7, l7, y7, z7⟩, st7⟩ := Jvm.LawKit.callS X5 hx (y := (⟨"java/util/List", "copyOf", "(Ljava/util/Collection;)Ljava/util/List;"⟩ : MethodName)) hown (mvT hZ (hw _ (List.mem_of_getElem? (i := 58) rfl))) (mvT hZ (hw _ (List.mem_of_getElem? (i := 59) rfl))) (mvT hZ (hw _ (List.mem_of_getElem? (i := 60) rfl))) (mvT hZ (hw _ (List.mem_of_getElem? (i := 61) rfl))) (by decide) (backOf (W := 0) (rm9_2 l Z ar0 hw [] a2 w_STRING w_OBJECT w_INT w_MAP w_BIGDECIMAL w_DATE w_LONG w_LIST w_BOOLEAN w_DEFAULTCAPACITY_EMPTY_ELEMENTDATA c_DEFAULTCAPACITY_EMPTY_ELEMENTDATA w_EMPTY_LIST w_EMPTY w_ELEMS c_ELEMS w_MIR u_modCount_a2 xa kxa el0 el1 T5.heap n0 O5 F E_a2 F_modCount_a2 F_elementData_a2 F_size_a2 V_xa E_xa Ovr_xa E_el0 E_el1) hZ (hw _ (List.mem_of_getElem? (i := 61) rfl)) (hw _ (List.mem_of_getElem? (i := 60) rfl)) (by decide) (by decide)) (g := (mkF m 12 #[.val (.ref a0), .val (.ref a1), .val (.ref a2)] [(.ref a2)])) rfl (by rw [hml]; rfl) (argsL := [(.ref a2)]) (rest := []) (lenOf pd_6_2_12 rfl) rfl (by show 2 * 0 + _ ≤ _; exact Nat.le_of_eq rfl) (hb hby d6_2_12) (fun _ _ => ⟨rfl, rfl, (by decide : 2 + 2 ≤ _), (by decide : 20 + 4 ≤ _)⟩)
  dsimp only [Pt.U, Pt.locs, Pt.cells, Pt.slots] at X7 l7 y7 z7 st7 hQ7
  subst l7 y7 z7
  obtain ⟨b7_1_5_2, rfl, N7q, O7, Kc7, sz7_0, fq7_0, fq7_1, fq7_2⟩ := hQ7
  have N7 := Fr.app N5 N7q
  have ne_a0_b7_1_5_2 : a0 ≠ b7_1_5_2 := Nat.ne_of_lt (Nat.lt_of_lt_of_le E_a0.lt sz7_0)
  have ne_a2_b7_1_5_2 : a2 ≠ b7_1_5_2 := Nat.ne_of_lt (Nat.lt_of_lt_of_le E_a2.lt sz7_0)
  have ne_xa_b7_1_5_2 : xa ≠ b7_1_5_2 := Nat.ne_of_lt (Nat.lt_of_lt_of_le V_xa.lt sz7_0)
  have ne_el0_b7_1_5_2 : el0 ≠ b7_1_5_2 := Nat.ne_of_lt (Nat.lt_of_lt_of_le E_el0.lt sz7_0)
  have ne_el1_b7_1_5_2 : el1 ≠ b7_1_5_2 := Nat.ne_of_lt (Nat.lt_of_lt_of_le E_el1.lt sz7_0)
  have g_b7_1_5_2 : n0 ≤ b7_1_5_2 := Nat.le_trans (own_old_le O5) sz7_0
  have sz_b7_1_5_2 : h0.size ≤ b7_1_5_2 := Nat.le_trans K5.1 sz7_0
  have K7 : Keep h0 T7.heap [a0] := K5.trans Kc7 all0
  have CH8 := CHv.keep Kc7 all0 CH6
  have CR8 := CR6.trans (CHr.keep Kc7 all0 CH6)
  have hk := Nat.le_trans hk Kc7.1
  have E_a0 := (E_a0.keep Kc7)
  have E_a2 := (E_a2.keep Kc7)
  have F_modCount_a2 := (F_modCount_a2.keep Kc7 nin0)
  have F_elementData_a2 := (F_elementData_a2.keep Kc7 nin0)
  have F_size_a2 := (F_size_a2.keep Kc7 nin0)
  have V_xa := (V_xa.keep Kc7 nin0)
  have E_xa := (E_xa.keep Kc7)
  have E_el0 := (E_el0.keep Kc7)
  have E_el1 := (E_el1.keep Kc7)
  have E_b7_1_5_2 := fq7_0
  have F_e0_b7_1_5_2 := fq7_1
  have F_e1_b7_1_5_2 := fq7_2
  have F_base_a0 := ((((F_base_a00.keep Kc1 nin0).ext E3).keep Kc5 nin0).keep Kc7 nin0)
  obtain ⟨T9, h9, X9, e9, W9, st9⟩ := putF X7 hx hZ hown (host := "") (Or.inl (hw _ (List.mem_of_getElem? (i := 87) rfl))) Via.refl rfl F_base_a0 E_a0 (Or.inr ⟨(hw _ (List.mem_of_getElem? (i := 88) rfl)), rfl, hnm⟩) (hw _ (List.mem_of_getElem? (i := 28) rfl)) (ty := (.object "com/example/declared_endpoints/declaredendpoints/model/FieldType$Base")) (by decide) rfl rfl (g := (mkF m 18 #[.val (.ref a0), .val (.ref a1), .val (.ref b7_1_5_2)] [(.ref a1), (.ref a0)])) rfl rfl (hb hby d6_2_18)
  have N9 := Fr.snoc X9 N7 g_a0
  have O9 : Old Z n0 h9 := O7.wr W9 g_a0
  have K9 : Keep h0 h9 [a0] := K7.wr W9 (Or.inl (List.mem_of_getElem? (i := 0) rfl))
  have ne_a2_a0 : a2 ≠ a0 := (ne_exa E_a2 E_a0 (by decide))
  have ne_xa_a0 : xa ≠ a0 := (ne_exa E_xa E_a0 (by decide))
  have CH10 := CHv.wr W9 (own_safe_nil _ _ _) CH8
  have CR10 := CR8.trans (CHr.wr W9 (own_safe_nil _ _ _) CH8)
  have hk := Nat.le_trans hk (Keep.of_wr W9).1
  have E_a0 := (E_a0.wr W9)
  have E_a2 := (E_a2.wr W9)
  have F_modCount_a2 := (F_modCount_a2.other W9 (Or.inl ne_a2_a0))
  have F_elementData_a2 := (F_elementData_a2.other W9 (Or.inl ne_a2_a0))
  have F_size_a2 := (F_size_a2.other W9 (Or.inl ne_a2_a0))
  have V_xa := (V_xa.other W9 ne_xa_a0)
  have E_xa := (E_xa.wr W9)
  have E_el0 := (E_el0.wr W9)
  have E_el1 := (E_el1.wr W9)
  have E_b7_1_5_2 := (E_b7_1_5_2.wr W9)
  have F_e0_b7_1_5_2 := (F_e0_b7_1_5_2.other W9 (Or.inl (Ne.symm ne_a0_b7_1_5_2)))
  have F_e1_b7_1_5_2 := (F_e1_b7_1_5_2.other W9 (Or.inl (Ne.symm ne_a0_b7_1_5_2)))
  have F_base_a0 := F_base_a0.same W9
  have F_containers_a0 := (((((F_containers_a00.keep Kc1 nin0).ext E3).keep Kc5 nin0).keep Kc7 nin0).other W9 (Or.inr (slot_ne (Or.inr (hw _ (List.mem_of_getElem? (i := 90) rfl))) (Or.inr (hw _ (List.mem_of_getElem? (i := 88) rfl))) (by decide) (t := (.object "java/util/List")) (t' := (.object "com/example/declared_endpoints/declaredendpoints/model/FieldType$Base")) (by decide) (by decide))))
  obtain ⟨T11, h11, X11, e11, W11, st11⟩ := putF X9 hx hZ hown (host := "") (Or.inl (hw _ (List.mem_of_getElem? (i := 89) rfl))) Via.refl e9 F_containers_a0 E_a0 (Or.inr ⟨(hw _ (List.mem_of_getElem? (i := 90) rfl)), rfl, hnm⟩) (hw _ (List.mem_of_getElem? (i := 28) rfl)) (ty := (.object "java/util/List")) (by decide) rfl rfl (g := (mkF m 23 #[.val (.ref a0), .val (.ref a1), .val (.ref b7_1_5_2)] [(.ref b7_1_5_2), (.ref a0)])) rfl rfl (hb hby d6_2_23)
  have N11 := Fr.snoc X11 N9 g_a0
  have O11 : Old Z n0 h11 := O9.wr W11 g_a0
  have K11 : Keep h0 h11 [a0] := K9.wr W11 (Or.inl (List.mem_of_getElem? (i := 0) rfl))
  have CH12 := CHv.wr W11 (own_safe_nil _ _ _) CH10
  have CR12 := CR10.trans (CHr.wr W11 (own_safe_nil _ _ _) CH10)
  have hk := Nat.le_trans hk (Keep.of_wr W11).1
  have E_a0 := (E_a0.wr W11)
  have E_a2 := (E_a2.wr W11)
  have F_modCount_a2 := (F_modCount_a2.other W11 (Or.inl ne_a2_a0))
  have F_elementData_a2 := (F_elementData_a2.other W11 (Or.inl ne_a2_a0))
  have F_size_a2 := (F_size_a2.other W11 (Or.inl ne_a2_a0))
  have V_xa := (V_xa.other W11 ne_xa_a0)
  have E_xa := (E_xa.wr W11)
  have E_el0 := (E_el0.wr W11)
  have E_el1 := (E_el1.wr W11)
  have E_b7_1_5_2 := (E_b7_1_5_2.wr W11)
  have F_e0_b7_1_5_2 := (F_e0_b7_1_5_2.other W11 (Or.inl (Ne.symm ne_a0_b7_1_5_2)))
  have F_e1_b7_1_5_2 := (F_e1_b7_1_5_2.other W11 (Or.inl (Ne.symm ne_a0_b7_1_5_2)))
  have F_base_a0 := (F_base_a0.other W11 (Or.inr (slot_ne (Or.inr (hw _ (List.mem_of_getElem? (i := 88) rfl))) (Or.inr (hw _ (List.mem_of_getElem? (i := 90) rfl))) (by decide) (t := (.object "com/example/declared_endpoints/declaredendpoints/model/FieldType$Base")) (t' := (.object "java/util/List")) (by decide) (by decide))))
  have F_containers_a0 := F_containers_a0.same W11
  obtain ⟨fs, hr, hrun, hended, hRW⟩ := X11.leaveW hS (by rw [e11]; exact hk) (v := none) (fun h => rfl)
  have CRx : CHr Z EL s.vm s.heap T11.vm T11.heap := by rw [hh, e11]; exact CR12.trans (CHv.at X11 hZ hEL CH12)
  refine ⟨_, _, pre0 _ ?_, hrun, hended, _, _, rfl, ?_, CRx, own_rw_mono hRW (by decide) (by decide)⟩
  · show Steps p.tables e below (s₁.setTop (mkF m 0 #[.val (.ref a0), .val (.ref a1), .val (.ref a2)] [])) _
    refine XS.aloadN X0.here hx rfl (hb hby d6_2_0) rfl rfl ?_
    show Steps p.tables e below (s₁.setTop (mkF m 1 #[.val (.ref a0), .val (.ref a1), .val (.ref a2)] [(.ref a0)])) _
    refine st1.trans ?_
    show Steps p.tables e below (T1.setTop (mkF m 4 #[.val (.ref a0), .val (.ref a1), .val (.ref a2)] [])) _
    refine XS.aloadN X1.here hx rfl (hb hby d6_2_4) rfl rfl ?_
    show Steps p.tables e below (T1.setTop (mkF m 5 #[.val (.ref a0), .val (.ref a1), .val (.ref a2)] [(.ref a1)])) _
    refine st3 _ ?_
    show Steps p.tables e below (T3.setTop (mkF m 7 #[.val (.ref a0), .val (.ref a1), .val (.ref a2)] [(.ref r3), (.ref a1)])) _
    refine st5 _ ?_
    show Steps p.tables e below (T5.setTop (mkF m 10 #[.val (.ref a0), .val (.ref a1), .val (.ref a2)] [(.ref a1)])) _
    refine XS.pop X5.here hx rfl (hb hby d6_2_10) rfl rfl ?_
    show Steps p.tables e below (T5.setTop (mkF m 11 #[.val (.ref a0), .val (.ref a1), .val (.ref a2)] [])) _
    refine XS.aloadN X5.here hx rfl (hb hby d6_2_11) rfl rfl ?_
    show Steps p.tables e below (T5.setTop (mkF m 12 #[.val (.ref a0), .val (.ref a1), .val (.ref a2)] [(.ref a2)])) _
    refine st7 _ ?_
    show Steps p.tables e below (T7.setTop (mkF m 15 #[.val (.ref a0), .val (.ref a1), .val (.ref a2)] [(.ref b7_1_5_2)])) _
    refine XS.astoreN X7.here hx rfl (hb hby d6_2_15) rfl rfl (l' := #[.val (.ref a0), .val (.ref a1), .val (.ref b7_1_5_2)]) rfl ?_
    show Steps p.tables e below (T7.setTop (mkF m 16 #[.val (.ref a0), .val (.ref a1), .val (.ref b7_1_5_2)] [])) _
    refine XS.aloadN X7.here hx rfl (hb hby d6_2_16) rfl rfl ?_
    show Steps p.tables e below (T7.setTop (mkF m 17 #[.val (.ref a0), .val (.ref a1), .val (.ref b7_1_5_2)] [(.ref a0)])) _
    refine XS.aloadN X7.here hx rfl (hb hby d6_2_17) rfl rfl ?_
    show Steps p.tables e below (T7.setTop (mkF m 18 #[.val (.ref a0), .val (.ref a1), .val (.ref b7_1_5_2)] [(.ref a1), (.ref a0)])) _
    refine st9 _ ?_
    show Steps p.tables e below (T9.setTop (mkF m 21 #[.val (.ref a0), .val (.ref a1), .val (.ref b7_1_5_2)] [])) _
    refine XS.aloadN X9.here hx rfl (hb hby d6_2_21) rfl rfl ?_
    show Steps p.tables e below (T9.setTop (mkF m 22 #[.val (.ref a0), .val (.ref a1), .val (.ref b7_1_5_2)] [(.ref a0)])) _
    refine XS.aloadN X9.here hx rfl (hb hby d6_2_22) rfl rfl ?_
    show Steps p.tables e below (T9.setTop (mkF m 23 #[.val (.ref a0), .val (.ref a1), .val (.ref b7_1_5_2)] [(.ref b7_1_5_2), (.ref a0)])) _
    refine st11 _ ?_
    show Steps p.tables e below (T11.setTop (mkF m 26 #[.val (.ref a0), .val (.ref a1), .val (.ref b7_1_5_2)] [])) _
    exact X11.returnOut hx Bd.returns (hb hby d6_2_26) hr
  · show Q6_2 Z a0 a1 a2 w_STRING w_OBJECT w_INT w_MAP w_BIGDECIMAL w_DATE w_LONG w_LIST w_BOOLEAN w_DEFAULTCAPACITY_EMPTY_ELEMENTDATA c_DEFAULTCAPACITY_EMPTY_ELEMENTDATA w_EMPTY_LIST w_EMPTY w_ELEMS c_ELEMS w_MIR u_modCount_a2 xa kxa el0 el1 u_base_a0 u_containers_a0 h0 n0 _ T11.heap _
    rw [e11]
    exact ⟨b7_1_5_2, rfl, N11, O11, K11, sz_b7_1_5_2, E_b7_1_5_2, F_e0_b7_1_5_2, F_e1_b7_1_5_2, F_base_a0, F_containers_a0⟩

theorem d14_0 : decode jdk_45_method_2_code 0 = .ok (.aload_n 0, 1) := by decide +kernel
theorem d14_1 : decode jdk_45_method_2_code 1 = .ok (.getfield 7, 3) := by decide +kernel
theorem d14_4 : decode jdk_45_method_2_code 4 = .ok (.arraylength, 1) := by decide +kernel
theorem d14_5 : decode jdk_45_method_2_code 5 = .ok (.ifCond .ne 7, 3) := by decide +kernel
theorem d14_8 : decode jdk_45_method_2_code 8 = .ok (.iconst 1, 1) := by decide +kernel
theorem d14_9 : decode jdk_45_method_2_code 9 = .ok (.goto 4, 3) := by decide +kernel
theorem d14_13 : decode jdk_45_method_2_code 13 = .ok (.ireturn, 1) := by decide +kernel
theorem pn_14 : plainName "java/util/ImmutableCollections$ListN" = true := by first | (simp [plainName, overriddenIn]; done) | decide +kernel
theorem ef_14 (m : MethodId)  : entryFrame m #[(.ref w_EMPTY_LIST)] 1 = mkF m 0 #[.val (.ref w_EMPTY_LIST)] [] := by first | (simp [entryFrame, mkF, argsToLocals, Value.category]; done) | rfl
def Q14 (Z : State)  (w_STRING : Addr) (w_OBJECT : Addr) (w_INT : Addr) (w_MAP : Addr) (w_BIGDECIMAL : Addr) (w_DATE : Addr) (w_LONG : Addr) (w_LIST : Addr) (w_BOOLEAN : Addr) (w_DEFAULTCAPACITY_EMPTY_ELEMENTDATA : Addr) (c_DEFAULTCAPACITY_EMPTY_ELEMENTDATA : Cell) (w_EMPTY_LIST : Addr) (w_EMPTY : Addr) (w_ELEMS : Addr) (c_ELEMS : Cell) (w_MIR : Addr)  (h0 : Heap) (n0 : Nat) (v : Option Value) (h : Heap) (L : List Loc) : Prop := v = some (.int (1 : Int32)) ∧ Fr n0 L ∧ Old Z n0 h ∧ Keep h0 h []
set_option maxRecDepth 65536 in
set_option maxHeartbeats 40000000 in
theorem rm14 (l : Launch) (Z : State) (ar0 : Array Value) (hw : ∀ d ∈ tables_1, d.before ar0 Z = true) (ws : List Jvm.Cond)  (w_STRING : Addr) (w_OBJECT : Addr) (w_INT : Addr) (w_MAP : Addr) (w_BIGDECIMAL : Addr) (w_DATE : Addr) (w_LONG : Addr) (w_LIST : Addr) (w_BOOLEAN : Addr) (w_DEFAULTCAPACITY_EMPTY_ELEMENTDATA : Addr) (c_DEFAULTCAPACITY_EMPTY_ELEMENTDATA : Cell) (w_EMPTY_LIST : Addr) (w_EMPTY : Addr) (w_ELEMS : Addr) (c_ELEMS : Cell) (w_MIR : Addr)  (h0 : Heap) (n0 : Nat) (O0 : Old Z n0 h0) (F : Fx Z Z.heap w_STRING w_OBJECT w_INT w_MAP w_BIGDECIMAL w_DATE w_LONG w_LIST w_BOOLEAN w_DEFAULTCAPACITY_EMPTY_ELEMENTDATA c_DEFAULTCAPACITY_EMPTY_ELEMENTDATA w_EMPTY_LIST w_EMPTY w_ELEMS c_ELEMS w_MIR)  :
    MetFree l (⟨"java/util/ImmutableCollections$ListN", "isEmpty", "()Z"⟩ : MethodName) (head1 ((Jvm.Cond.code (⟨"java/util/ImmutableCollections$ListN", "isEmpty", "()Z"⟩ : MethodName) jdk_45_method_2_code 1 (some .boolean)) :: ws) ({ frames := 0, cells := 0, slots := 0, locals := 0 } : Room)) (fun a U => a = #[(.ref w_EMPTY_LIST)] ∧ Z.Warmed39 U.vm ∧ U.heap = h0) (fun _ _ _ _ _ => True) (fun _ U o U' => ∃ v L, o = .returned v ∧ Q14 Z  w_STRING w_OBJECT w_INT w_MAP w_BIGDECIMAL w_DATE w_LONG w_LIST w_BOOLEAN w_DEFAULTCAPACITY_EMPTY_ELEMENTDATA c_DEFAULTCAPACITY_EMPTY_ELEMENTDATA w_EMPTY_LIST w_EMPTY w_ELEMS c_ELEMS w_MIR  h0 n0 v U'.heap L ∧ FrameEnd U o U' L ({ frames := 0, cells := 0, slots := 0, locals := 0 } : Room).cells ({ frames := 0, cells := 0, slots := 0, locals := 0 } : Room).slots) := by
  obtain ⟨S_STRING, E_STRING, S_OBJECT, E_OBJECT, F_ordinal_STRING, F_ordinal_OBJECT, S_INT, E_INT, F_ordinal_INT, S_MAP, E_MAP, S_BIGDECIMAL, E_BIGDECIMAL, S_DATE, E_DATE, S_LONG, E_LONG, F_ordinal_LONG, F_ordinal_BIGDECIMAL, S_LIST, E_LIST, S_BOOLEAN, E_BOOLEAN, F_ordinal_BOOLEAN, F_ordinal_DATE, S_DEFAULTCAPACITY_EMPTY_ELEMENTDATA, E_DEFAULTCAPACITY_EMPTY_ELEMENTDATA, A_DEFAULTCAPACITY_EMPTY_ELEMENTDATA, L_DEFAULTCAPACITY_EMPTY_ELEMENTDATA, S_EMPTY_LIST, E_EMPTY_LIST, S_EMPTY, E_EMPTY, F_elements_EMPTY_LIST, A_ELEMS, L_ELEMS, M_MIR⟩ := id F
  refine MetFree.of_bodySF (plainFor_of_name pn_14) hisR ?_
  intro p e s m args below meth c s₁ Bd hml0 hP hK
  obtain ⟨rfl, hZ, hh⟩ := hP
  have hx := Bd.exec
  have hby := Bd.bytes
  have hml : c.maxLocals = 1 := hml0
  have hown : s.vm.findClass "java/util/ImmutableCollections$ListN" = some m.cls := findClass_of_methodNamed Bd.named
  have hnm := (name_of_methodNamed Bd.named Bd.method).1
  have X0 : Stand p l e ({ frames := 0, cells := 0, slots := 0, locals := 0 } : Room) s m #[(.ref w_EMPTY_LIST)] below meth c s₁ [] 0 0 := Stand.of_body Bd
  have e0 : s₁.heap = h0 := by rw [← hh, Bd.state]; rfl
  have N0 := Fr.nil n0
  have K0 : Keep h0 h0 [] := Keep.refl _ _
  have pre0 : ∀ t, Steps p.tables e below (s₁.setTop (mkF m 0 #[.val (.ref w_EMPTY_LIST)] [])) t → Steps p.tables e below (s₁.setTop (entryFrame m #[(.ref w_EMPTY_LIST)] 1)) t := fun t k => castTop (ef_14 m ) k
  obtain ⟨T1, X1, e1, st1⟩ := getF X0 hx hZ hown (host := "") (Or.inl (hw _ (List.mem_of_getElem? (i := 106) rfl))) Via.refl e0 (F_elements_EMPTY_LIST.ext O0.2) (g := (mkF m 1 #[.val (.ref w_EMPTY_LIST)] [(.ref w_EMPTY_LIST)])) rfl rfl (hb hby d14_1)
  obtain ⟨fs, hr, hrun, hended, hW, hsame⟩ := X1.leave (v := some (.int (1 : Int32))) (fun h => by rw [Bd.returns] at h; cases h)
  refine ⟨_, _, pre0 _ ?_, hrun, hended, _, _, rfl, ?_, ⟨_, rfl⟩, hW, hsame.mono (by decide) (by decide)⟩
  · show Steps p.tables e below (s₁.setTop (mkF m 0 #[.val (.ref w_EMPTY_LIST)] [])) _
    refine XS.aloadN X0.here hx rfl (hb hby d14_0) rfl rfl ?_
    show Steps p.tables e below (s₁.setTop (mkF m 1 #[.val (.ref w_EMPTY_LIST)] [(.ref w_EMPTY_LIST)])) _
    refine st1 _ ?_
    show Steps p.tables e below (T1.setTop (mkF m 4 #[.val (.ref w_EMPTY_LIST)] [(.ref w_ELEMS)])) _
    refine X1.arraylength hx (by rw [e1]; exact (A_ELEMS.ext O0.2).1) (State.isArrayOf_alike hZ.alike A_ELEMS.2.1) (g := (mkF m 4 #[.val (.ref w_EMPTY_LIST)] [(.ref w_ELEMS)])) rfl rfl (hb hby d14_4) _ ?_
    rw [show c_ELEMS.slots.size.toInt32 = (0 : Int32) from by rw [L_ELEMS]; rfl]
    show Steps p.tables e below (T1.setTop (mkF m 5 #[.val (.ref w_EMPTY_LIST)] [(.int (0 : Int32))])) _
    refine XS.ifNo X1.here hx rfl (hb hby d14_5) rfl ((if0 _ _).trans (teq (by decide : (0 : Int32) = (0 : Int32))).2) ?_
    show Steps p.tables e below (T1.setTop (mkF m 8 #[.val (.ref w_EMPTY_LIST)] [])) _
    refine XS.iconst X1.here hx rfl (hb hby d14_8) ?_
    show Steps p.tables e below (T1.setTop (mkF m 9 #[.val (.ref w_EMPTY_LIST)] [(.int (1 : Int32))])) _
    refine XS.goto X1.here hx rfl (pc0 := 9) (pc' := 13) rfl (hb hby d14_9) (by decide) (by decide) ?_
    show Steps p.tables e below (T1.setTop (mkF m 13 #[.val (.ref w_EMPTY_LIST)] [(.int (1 : Int32))])) _
    exact retN X1 hx (t := .boolean) Bd.returns (by simp) (hb hby d14_13) hr
  · show Q14 Z  w_STRING w_OBJECT w_INT w_MAP w_BIGDECIMAL w_DATE w_LONG w_LIST w_BOOLEAN w_DEFAULTCAPACITY_EMPTY_ELEMENTDATA c_DEFAULTCAPACITY_EMPTY_ELEMENTDATA w_EMPTY_LIST w_EMPTY w_ELEMS c_ELEMS w_MIR  h0 n0 _ T1.heap _
    rw [e1]
    exact ⟨rfl, N0, O0, K0⟩

theorem d30_0 : decode jdk_44_method_4_code 0 = .ok (.iconst 0, 1) := by decide +kernel
theorem d30_1 : decode jdk_44_method_4_code 1 = .ok (.ireturn, 1) := by decide +kernel
theorem pn_30 : plainName "java/util/ImmutableCollections$List12" = true := by first | (simp [plainName, overriddenIn]; done) | decide +kernel
theorem ef_30 (m : MethodId) (a0 : Addr) : entryFrame m #[(.ref a0)] 1 = mkF m 0 #[.val (.ref a0)] [] := by first | (simp [entryFrame, mkF, argsToLocals, Value.category]; done) | rfl
def Q30 (Z : State) (a0 : Addr) (w_STRING : Addr) (w_OBJECT : Addr) (w_INT : Addr) (w_MAP : Addr) (w_BIGDECIMAL : Addr) (w_DATE : Addr) (w_LONG : Addr) (w_LIST : Addr) (w_BOOLEAN : Addr) (w_DEFAULTCAPACITY_EMPTY_ELEMENTDATA : Addr) (c_DEFAULTCAPACITY_EMPTY_ELEMENTDATA : Cell) (w_EMPTY_LIST : Addr) (w_EMPTY : Addr) (w_ELEMS : Addr) (c_ELEMS : Cell) (w_MIR : Addr)  (h0 : Heap) (n0 : Nat) (v : Option Value) (h : Heap) (L : List Loc) : Prop := v = some (.int (0 : Int32)) ∧ Fr n0 L ∧ Old Z n0 h ∧ Keep h0 h []
set_option maxRecDepth 65536 in
set_option maxHeartbeats 40000000 in
theorem rm30 (l : Launch) (Z : State) (ar0 : Array Value) (hw : ∀ d ∈ tables_1, d.before ar0 Z = true) (ws : List Jvm.Cond) (a0 : Addr) (w_STRING : Addr) (w_OBJECT : Addr) (w_INT : Addr) (w_MAP : Addr) (w_BIGDECIMAL : Addr) (w_DATE : Addr) (w_LONG : Addr) (w_LIST : Addr) (w_BOOLEAN : Addr) (w_DEFAULTCAPACITY_EMPTY_ELEMENTDATA : Addr) (c_DEFAULTCAPACITY_EMPTY_ELEMENTDATA : Cell) (w_EMPTY_LIST : Addr) (w_EMPTY : Addr) (w_ELEMS : Addr) (c_ELEMS : Cell) (w_MIR : Addr)  (h0 : Heap) (n0 : Nat) (O0 : Old Z n0 h0) (F : Fx Z Z.heap w_STRING w_OBJECT w_INT w_MAP w_BIGDECIMAL w_DATE w_LONG w_LIST w_BOOLEAN w_DEFAULTCAPACITY_EMPTY_ELEMENTDATA c_DEFAULTCAPACITY_EMPTY_ELEMENTDATA w_EMPTY_LIST w_EMPTY w_ELEMS c_ELEMS w_MIR)  :
    MetFree l (⟨"java/util/ImmutableCollections$List12", "isEmpty", "()Z"⟩ : MethodName) (head1 ((Jvm.Cond.code (⟨"java/util/ImmutableCollections$List12", "isEmpty", "()Z"⟩ : MethodName) jdk_44_method_4_code 1 (some .boolean)) :: ws) ({ frames := 0, cells := 0, slots := 0, locals := 0 } : Room)) (fun a U => a = #[(.ref a0)] ∧ Z.Warmed39 U.vm ∧ U.heap = h0) (fun _ _ _ _ _ => True) (fun _ U o U' => ∃ v L, o = .returned v ∧ Q30 Z a0 w_STRING w_OBJECT w_INT w_MAP w_BIGDECIMAL w_DATE w_LONG w_LIST w_BOOLEAN w_DEFAULTCAPACITY_EMPTY_ELEMENTDATA c_DEFAULTCAPACITY_EMPTY_ELEMENTDATA w_EMPTY_LIST w_EMPTY w_ELEMS c_ELEMS w_MIR  h0 n0 v U'.heap L ∧ FrameEnd U o U' L ({ frames := 0, cells := 0, slots := 0, locals := 0 } : Room).cells ({ frames := 0, cells := 0, slots := 0, locals := 0 } : Room).slots) := by
  obtain ⟨S_STRING, E_STRING, S_OBJECT, E_OBJECT, F_ordinal_STRING, F_ordinal_OBJECT, S_INT, E_INT, F_ordinal_INT, S_MAP, E_MAP, S_BIGDECIMAL, E_BIGDECIMAL, S_DATE, E_DATE, S_LONG, E_LONG, F_ordinal_LONG, F_ordinal_BIGDECIMAL, S_LIST, E_LIST, S_BOOLEAN, E_BOOLEAN, F_ordinal_BOOLEAN, F_ordinal_DATE, S_DEFAULTCAPACITY_EMPTY_ELEMENTDATA, E_DEFAULTCAPACITY_EMPTY_ELEMENTDATA, A_DEFAULTCAPACITY_EMPTY_ELEMENTDATA, L_DEFAULTCAPACITY_EMPTY_ELEMENTDATA, S_EMPTY_LIST, E_EMPTY_LIST, S_EMPTY, E_EMPTY, F_elements_EMPTY_LIST, A_ELEMS, L_ELEMS, M_MIR⟩ := id F
  refine MetFree.of_bodySF (plainFor_of_name pn_30) hisR ?_
  intro p e s m args below meth c s₁ Bd hml0 hP hK
  obtain ⟨rfl, hZ, hh⟩ := hP
  have hx := Bd.exec
  have hby := Bd.bytes
  have hml : c.maxLocals = 1 := hml0
  have hown : s.vm.findClass "java/util/ImmutableCollections$List12" = some m.cls := findClass_of_methodNamed Bd.named
  have hnm := (name_of_methodNamed Bd.named Bd.method).1
  have X0 : Stand p l e ({ frames := 0, cells := 0, slots := 0, locals := 0 } : Room) s m #[(.ref a0)] below meth c s₁ [] 0 0 := Stand.of_body Bd
  have e0 : s₁.heap = h0 := by rw [← hh, Bd.state]; rfl
  have N0 := Fr.nil n0
  have K0 : Keep h0 h0 [] := Keep.refl _ _
  have pre0 : ∀ t, Steps p.tables e below (s₁.setTop (mkF m 0 #[.val (.ref a0)] [])) t → Steps p.tables e below (s₁.setTop (entryFrame m #[(.ref a0)] 1)) t := fun t k => castTop (ef_30 m a0) k
  obtain ⟨fs, hr, hrun, hended, hW, hsame⟩ := X0.leave (v := some (.int (0 : Int32))) (fun h => by rw [Bd.returns] at h; cases h)
  refine ⟨_, _, pre0 _ ?_, hrun, hended, _, _, rfl, ?_, ⟨_, rfl⟩, hW, hsame.mono (by decide) (by decide)⟩
  · show Steps p.tables e below (s₁.setTop (mkF m 0 #[.val (.ref a0)] [])) _
    refine XS.iconst X0.here hx rfl (hb hby d30_0) ?_
    show Steps p.tables e below (s₁.setTop (mkF m 1 #[.val (.ref a0)] [(.int (0 : Int32))])) _
    exact retN X0 hx (t := .boolean) Bd.returns (by simp) (hb hby d30_1) hr
  · show Q30 Z a0 w_STRING w_OBJECT w_INT w_MAP w_BIGDECIMAL w_DATE w_LONG w_LIST w_BOOLEAN w_DEFAULTCAPACITY_EMPTY_ELEMENTDATA c_DEFAULTCAPACITY_EMPTY_ELEMENTDATA w_EMPTY_LIST w_EMPTY w_ELEMS c_ELEMS w_MIR  h0 n0 _ s₁.heap _
    rw [e0]
    exact ⟨rfl, N0, O0, K0⟩

theorem d13z_0 : decode prog_22_method_4_code 0 = .ok (.aload_n 0, 1) := by decide +kernel
theorem d13z_1 : decode prog_22_method_4_code 1 = .ok (.getfield 26, 3) := by decide +kernel
theorem d13z_4 : decode prog_22_method_4_code 4 = .ok (.invokeinterface 80 1, 5) := by decide +kernel
theorem d13z_9 : decode prog_22_method_4_code 9 = .ok (.ifCond .eq 17, 3) := by decide +kernel
theorem d13z_12 : decode prog_22_method_4_code 12 = .ok (.aload_n 0, 1) := by decide +kernel
theorem d13z_13 : decode prog_22_method_4_code 13 = .ok (.getfield 21, 3) := by decide +kernel
theorem d13z_16 : decode prog_22_method_4_code 16 = .ok (.getstatic 103, 3) := by decide +kernel
theorem d13z_19 : decode prog_22_method_4_code 19 = .ok (.if_acmp .eq 7, 3) := by decide +kernel
theorem d13z_26 : decode prog_22_method_4_code 26 = .ok (.iconst 0, 1) := by decide +kernel
theorem d13z_27 : decode prog_22_method_4_code 27 = .ok (.ireturn, 1) := by decide +kernel
theorem pn_13z : plainName "com/example/declared_endpoints/declaredendpoints/model/FieldType" = true := by first | (simp [plainName, overriddenIn]; done) | decide +kernel
theorem pd_13z_4 : parseMethodDescriptor "()Z" = some ⟨[], some .boolean⟩ := by decide +kernel
theorem ef_13z (m : MethodId) (a0 : Addr) : entryFrame m #[(.ref a0)] 1 = mkF m 0 #[.val (.ref a0)] [] := by first | (simp [entryFrame, mkF, argsToLocals, Value.category]; done) | rfl
def Q13z (Z : State) (a0 : Addr) (w_STRING : Addr) (w_OBJECT : Addr) (w_INT : Addr) (w_MAP : Addr) (w_BIGDECIMAL : Addr) (w_DATE : Addr) (w_LONG : Addr) (w_LIST : Addr) (w_BOOLEAN : Addr) (w_DEFAULTCAPACITY_EMPTY_ELEMENTDATA : Addr) (c_DEFAULTCAPACITY_EMPTY_ELEMENTDATA : Cell) (w_EMPTY_LIST : Addr) (w_EMPTY : Addr) (w_ELEMS : Addr) (c_ELEMS : Cell) (w_MIR : Addr) (xb : Addr) (h0 : Heap) (n0 : Nat) (v : Option Value) (h : Heap) (L : List Loc) : Prop := v = some (.int (0 : Int32)) ∧ Fr n0 L ∧ Old Z n0 h ∧ Keep h0 h []
set_option maxRecDepth 65536 in
set_option maxHeartbeats 40000000 in
theorem rm13z (l : Launch) (Z : State) (ar0 : Array Value) (hw : ∀ d ∈ tables_1, d.before ar0 Z = true) (ws : List Jvm.Cond) (a0 : Addr) (w_STRING : Addr) (w_OBJECT : Addr) (w_INT : Addr) (w_MAP : Addr) (w_BIGDECIMAL : Addr) (w_DATE : Addr) (w_LONG : Addr) (w_LIST : Addr) (w_BOOLEAN : Addr) (w_DEFAULTCAPACITY_EMPTY_ELEMENTDATA : Addr) (c_DEFAULTCAPACITY_EMPTY_ELEMENTDATA : Cell) (w_EMPTY_LIST : Addr) (w_EMPTY : Addr) (w_ELEMS : Addr) (c_ELEMS : Cell) (w_MIR : Addr) (xb : Addr) (h0 : Heap) (n0 : Nat) (O0 : Old Z n0 h0) (F : Fx Z Z.heap w_STRING w_OBJECT w_INT w_MAP w_BIGDECIMAL w_DATE w_LONG w_LIST w_BOOLEAN w_DEFAULTCAPACITY_EMPTY_ELEMENTDATA c_DEFAULTCAPACITY_EMPTY_ELEMENTDATA w_EMPTY_LIST w_EMPTY w_ELEMS c_ELEMS w_MIR) (F_base_a00 : Fld Z h0 a0 "com/example/declared_endpoints/declaredendpoints/model/FieldType" "base" "Lcom/example/declared_endpoints/declaredendpoints/model/FieldType$Base;" (.ref xb)) (F_containers_a00 : Fld Z h0 a0 "com/example/declared_endpoints/declaredendpoints/model/FieldType" "containers" "Ljava/util/List;" (.ref w_EMPTY_LIST)) (hc_19 : xb = w_OBJECT) :
    MetFree l (⟨"com/example/declared_endpoints/declaredendpoints/model/FieldType", "scalar", "()Z"⟩ : MethodName) (head1 ((Jvm.Cond.code (⟨"com/example/declared_endpoints/declaredendpoints/model/FieldType", "scalar", "()Z"⟩ : MethodName) prog_22_method_4_code 1 (some .boolean)) :: ws) ({ frames := 1, cells := 0, slots := 0, locals := 12 } : Room)) (fun a U => a = #[(.ref a0)] ∧ Z.Warmed39 U.vm ∧ U.heap = h0) (fun _ _ _ _ _ => True) (fun _ U o U' => ∃ v L, o = .returned v ∧ Q13z Z a0 w_STRING w_OBJECT w_INT w_MAP w_BIGDECIMAL w_DATE w_LONG w_LIST w_BOOLEAN w_DEFAULTCAPACITY_EMPTY_ELEMENTDATA c_DEFAULTCAPACITY_EMPTY_ELEMENTDATA w_EMPTY_LIST w_EMPTY w_ELEMS c_ELEMS w_MIR xb h0 n0 v U'.heap L ∧ FrameEnd U o U' L ({ frames := 1, cells := 0, slots := 0, locals := 12 } : Room).cells ({ frames := 1, cells := 0, slots := 0, locals := 12 } : Room).slots) := by
  obtain ⟨S_STRING, E_STRING, S_OBJECT, E_OBJECT, F_ordinal_STRING, F_ordinal_OBJECT, S_INT, E_INT, F_ordinal_INT, S_MAP, E_MAP, S_BIGDECIMAL, E_BIGDECIMAL, S_DATE, E_DATE, S_LONG, E_LONG, F_ordinal_LONG, F_ordinal_BIGDECIMAL, S_LIST, E_LIST, S_BOOLEAN, E_BOOLEAN, F_ordinal_BOOLEAN, F_ordinal_DATE, S_DEFAULTCAPACITY_EMPTY_ELEMENTDATA, E_DEFAULTCAPACITY_EMPTY_ELEMENTDATA, A_DEFAULTCAPACITY_EMPTY_ELEMENTDATA, L_DEFAULTCAPACITY_EMPTY_ELEMENTDATA, S_EMPTY_LIST, E_EMPTY_LIST, S_EMPTY, E_EMPTY, F_elements_EMPTY_LIST, A_ELEMS, L_ELEMS, M_MIR⟩ := id F
  refine MetFree.of_bodySF (plainFor_of_name pn_13z) hisR ?_
  intro p e s m args below meth c s₁ Bd hml0 hP hK
  obtain ⟨rfl, hZ, hh⟩ := hP
  have hx := Bd.exec
  have hby := Bd.bytes
  have hml : c.maxLocals = 1 := hml0
  have hown : s.vm.findClass "com/example/declared_endpoints/declaredendpoints/model/FieldType" = some m.cls := findClass_of_methodNamed Bd.named
  have hnm := (name_of_methodNamed Bd.named Bd.method).1
  have X0 : Stand p l e ({ frames := 1, cells := 0, slots := 0, locals := 12 } : Room) s m #[(.ref a0)] below meth c s₁ [] 0 0 := Stand.of_body Bd
  have e0 : s₁.heap = h0 := by rw [← hh, Bd.state]; rfl
  have N0 := Fr.nil n0
  have K0 : Keep h0 h0 [] := Keep.refl _ _
  have pre0 : ∀ t, Steps p.tables e below (s₁.setTop (mkF m 0 #[.val (.ref a0)] [])) t → Steps p.tables e below (s₁.setTop (entryFrame m #[(.ref a0)] 1)) t := fun t k => castTop (ef_13z m a0) k
  have F_base_a0 := F_base_a00
  have F_containers_a0 := F_containers_a00
  obtain ⟨T1, X1, e1, st1⟩ := getF X0 hx hZ hown (host := "") (Or.inl (hw _ (List.mem_of_getElem? (i := 89) rfl))) Via.refl e0 F_containers_a0 (g := (mkF m 1 #[.val (.ref a0)] [(.ref a0)])) rfl rfl (hb hby d13z_1)
  obtain ⟨cq2, kq2, q2a, q2b, q2c⟩ := isOf hZ e1 (E_EMPTY_LIST.ext O0.2)
  obtain ⟨_, _, ⟨T2, L2, k2, n2⟩, -, X2, ⟨Lc2, hQ2, l2, y2, z2⟩, st2⟩ := X1.interfaceBack hx (xi := (⟨"java/util/List", "isEmpty", "()Z"⟩ : MethodName)) (y := (⟨"java/util/ImmutableCollections$ListN", "isEmpty", "()Z"⟩ : MethodName)) hown (mvT hZ (hw _ (List.mem_of_getElem? (i := 96) rfl))) (mvT hZ (hw _ (List.mem_of_getElem? (i := 97) rfl))) (mvT hZ (hw _ (List.mem_of_getElem? (i := 98) rfl))) (mvT hZ (hw _ (List.mem_of_getElem? (i := 99) rfl))) (mvT hZ (hw _ (List.mem_of_getElem? (i := 100) rfl))) (mvT hZ (hw _ (List.mem_of_getElem? (i := 101) rfl))) (mvT hZ (hw _ (List.mem_of_getElem? (i := 102) rfl))) (mvT hZ (hw _ (List.mem_of_getElem? (i := 103) rfl))) (by decide) (backOf (W := 0) (rm14 l Z ar0 hw []  w_STRING w_OBJECT w_INT w_MAP w_BIGDECIMAL w_DATE w_LONG w_LIST w_BOOLEAN w_DEFAULTCAPACITY_EMPTY_ELEMENTDATA c_DEFAULTCAPACITY_EMPTY_ELEMENTDATA w_EMPTY_LIST w_EMPTY w_ELEMS c_ELEMS w_MIR  h0 n0 O0 F ) hZ (hw _ (List.mem_of_getElem? (i := 105) rfl)) (hw _ (List.mem_of_getElem? (i := 104) rfl)) (by decide) (by decide)) q2a q2b q2c (g := (mkF m 4 #[.val (.ref a0)] [(.ref w_EMPTY_LIST)])) rfl (by rw [hml]; rfl) (Steps.refl _) (argsL := []) (rest := []) (lenOf pd_13z_4 rfl) rfl (by show 2 * 0 + _ ≤ _; exact Nat.le_of_eq rfl) (hb hby d13z_4) (fun _ _ => ⟨rfl, e1, (by decide : 0 + 0 ≤ _), (by decide : 0 + 0 ≤ _)⟩)
  dsimp only [Pt.U, Pt.locs, Pt.cells, Pt.slots] at X2 l2 y2 z2 st2 hQ2
  subst l2 y2 z2
  obtain ⟨rfl, N2q, O2, Kc2⟩ := hQ2
  have N2 := Fr.app N0 N2q
  have K2 : Keep h0 T2.heap [] := K0.trans Kc2 all0
  have F_base_a0 := (F_base_a0.keep Kc2 nin0)
  have F_containers_a0 := (F_containers_a0.keep Kc2 nin0)
  obtain ⟨T3, X3, e3, st3⟩ := getF X2 hx hZ hown (host := "") (Or.inl (hw _ (List.mem_of_getElem? (i := 87) rfl))) Via.refl rfl F_base_a0 (g := (mkF m 13 #[.val (.ref a0)] [(.ref a0)])) rfl rfl (hb hby d13z_13)
  obtain ⟨T4, X4, e4, st4⟩ := getS2 X3 hx hZ hown (host := "") (Or.inl (hw _ (List.mem_of_getElem? (i := 108) rfl))) Via.refl e3 (S_OBJECT.ext O2.2) (g := (mkF m 16 #[.val (.ref a0)] [(.ref xb)])) rfl (hb hby d13z_16)
  obtain ⟨fs, hr, hrun, hended, hW, hsame⟩ := X4.leave (v := some (.int (0 : Int32))) (fun h => by rw [Bd.returns] at h; cases h)
  refine ⟨_, _, pre0 _ ?_, hrun, hended, _, _, rfl, ?_, ⟨_, rfl⟩, hW, hsame.mono (by decide) (by decide)⟩
  · show Steps p.tables e below (s₁.setTop (mkF m 0 #[.val (.ref a0)] [])) _
    refine XS.aloadN X0.here hx rfl (hb hby d13z_0) rfl rfl ?_
    show Steps p.tables e below (s₁.setTop (mkF m 1 #[.val (.ref a0)] [(.ref a0)])) _
    refine st1 _ ?_
    show Steps p.tables e below (T1.setTop (mkF m 4 #[.val (.ref a0)] [(.ref w_EMPTY_LIST)])) _
    refine st2.trans ?_
    show Steps p.tables e below (T2.setTop (mkF m 9 #[.val (.ref a0)] [(.int (1 : Int32))])) _
    refine XS.ifNo X2.here hx rfl (hb hby d13z_9) rfl ((if0 _ _).trans (feq (by decide : ¬ ((1 : Int32) = (0 : Int32)))).1) ?_
    show Steps p.tables e below (T2.setTop (mkF m 12 #[.val (.ref a0)] [])) _
    refine XS.aloadN X2.here hx rfl (hb hby d13z_12) rfl rfl ?_
    show Steps p.tables e below (T2.setTop (mkF m 13 #[.val (.ref a0)] [(.ref a0)])) _
    refine st3 _ ?_
    show Steps p.tables e below (T3.setTop (mkF m 16 #[.val (.ref a0)] [(.ref xb)])) _
    refine st4 _ ?_
    show Steps p.tables e below (T4.setTop (mkF m 19 #[.val (.ref a0)] [(.ref w_OBJECT), (.ref xb)])) _
    refine Jvm.RoadKit.acmp (g := (mkF m 19 #[.val (.ref a0)] [(.ref w_OBJECT), (.ref xb)])) X4 hx rfl rfl rfl (pc0 := 19) (pc' := 26) (same := true) rfl (hb hby d13z_19) rfl (decide_eq_true (congrArg Value.ref hc_19)) (by decide) (by decide) ?_
    show Steps p.tables e below (T4.setTop (mkF m 26 #[.val (.ref a0)] [])) _
    refine XS.iconst X4.here hx rfl (hb hby d13z_26) ?_
    show Steps p.tables e below (T4.setTop (mkF m 27 #[.val (.ref a0)] [(.int (0 : Int32))])) _
    exact retN X4 hx (t := .boolean) Bd.returns (by simp) (hb hby d13z_27) hr
  · show Q13z Z a0 w_STRING w_OBJECT w_INT w_MAP w_BIGDECIMAL w_DATE w_LONG w_LIST w_BOOLEAN w_DEFAULTCAPACITY_EMPTY_ELEMENTDATA c_DEFAULTCAPACITY_EMPTY_ELEMENTDATA w_EMPTY_LIST w_EMPTY w_ELEMS c_ELEMS w_MIR xb h0 n0 _ T4.heap _
    rw [e4]
    exact ⟨rfl, N2, O2, K2⟩

theorem d13y_0 : decode prog_22_method_4_code 0 = .ok (.aload_n 0, 1) := by decide +kernel
theorem d13y_1 : decode prog_22_method_4_code 1 = .ok (.getfield 26, 3) := by decide +kernel
theorem d13y_4 : decode prog_22_method_4_code 4 = .ok (.invokeinterface 80 1, 5) := by decide +kernel
theorem d13y_9 : decode prog_22_method_4_code 9 = .ok (.ifCond .eq 17, 3) := by decide +kernel
theorem d13y_12 : decode prog_22_method_4_code 12 = .ok (.aload_n 0, 1) := by decide +kernel
theorem d13y_13 : decode prog_22_method_4_code 13 = .ok (.getfield 21, 3) := by decide +kernel
theorem d13y_16 : decode prog_22_method_4_code 16 = .ok (.getstatic 103, 3) := by decide +kernel
theorem d13y_19 : decode prog_22_method_4_code 19 = .ok (.if_acmp .eq 7, 3) := by decide +kernel
theorem d13y_22 : decode prog_22_method_4_code 22 = .ok (.iconst 1, 1) := by decide +kernel
theorem d13y_23 : decode prog_22_method_4_code 23 = .ok (.goto 4, 3) := by decide +kernel
theorem d13y_27 : decode prog_22_method_4_code 27 = .ok (.ireturn, 1) := by decide +kernel
theorem pn_13y : plainName "com/example/declared_endpoints/declaredendpoints/model/FieldType" = true := by first | (simp [plainName, overriddenIn]; done) | decide +kernel
theorem pd_13y_4 : parseMethodDescriptor "()Z" = some ⟨[], some .boolean⟩ := by decide +kernel
theorem ef_13y (m : MethodId) (a0 : Addr) : entryFrame m #[(.ref a0)] 1 = mkF m 0 #[.val (.ref a0)] [] := by first | (simp [entryFrame, mkF, argsToLocals, Value.category]; done) | rfl
def Q13y (Z : State) (a0 : Addr) (w_STRING : Addr) (w_OBJECT : Addr) (w_INT : Addr) (w_MAP : Addr) (w_BIGDECIMAL : Addr) (w_DATE : Addr) (w_LONG : Addr) (w_LIST : Addr) (w_BOOLEAN : Addr) (w_DEFAULTCAPACITY_EMPTY_ELEMENTDATA : Addr) (c_DEFAULTCAPACITY_EMPTY_ELEMENTDATA : Cell) (w_EMPTY_LIST : Addr) (w_EMPTY : Addr) (w_ELEMS : Addr) (c_ELEMS : Cell) (w_MIR : Addr) (xb : Addr) (h0 : Heap) (n0 : Nat) (v : Option Value) (h : Heap) (L : List Loc) : Prop := v = some (.int (1 : Int32)) ∧ Fr n0 L ∧ Old Z n0 h ∧ Keep h0 h []
set_option maxRecDepth 65536 in
set_option maxHeartbeats 40000000 in
theorem rm13y (l : Launch) (Z : State) (ar0 : Array Value) (hw : ∀ d ∈ tables_1, d.before ar0 Z = true) (ws : List Jvm.Cond) (a0 : Addr) (w_STRING : Addr) (w_OBJECT : Addr) (w_INT : Addr) (w_MAP : Addr) (w_BIGDECIMAL : Addr) (w_DATE : Addr) (w_LONG : Addr) (w_LIST : Addr) (w_BOOLEAN : Addr) (w_DEFAULTCAPACITY_EMPTY_ELEMENTDATA : Addr) (c_DEFAULTCAPACITY_EMPTY_ELEMENTDATA : Cell) (w_EMPTY_LIST : Addr) (w_EMPTY : Addr) (w_ELEMS : Addr) (c_ELEMS : Cell) (w_MIR : Addr) (xb : Addr) (h0 : Heap) (n0 : Nat) (O0 : Old Z n0 h0) (F : Fx Z Z.heap w_STRING w_OBJECT w_INT w_MAP w_BIGDECIMAL w_DATE w_LONG w_LIST w_BOOLEAN w_DEFAULTCAPACITY_EMPTY_ELEMENTDATA c_DEFAULTCAPACITY_EMPTY_ELEMENTDATA w_EMPTY_LIST w_EMPTY w_ELEMS c_ELEMS w_MIR) (F_base_a00 : Fld Z h0 a0 "com/example/declared_endpoints/declaredendpoints/model/FieldType" "base" "Lcom/example/declared_endpoints/declaredendpoints/model/FieldType$Base;" (.ref xb)) (F_containers_a00 : Fld Z h0 a0 "com/example/declared_endpoints/declaredendpoints/model/FieldType" "containers" "Ljava/util/List;" (.ref w_EMPTY_LIST)) (hc_19 : ¬ (xb = w_OBJECT)) :
    MetFree l (⟨"com/example/declared_endpoints/declaredendpoints/model/FieldType", "scalar", "()Z"⟩ : MethodName) (head1 ((Jvm.Cond.code (⟨"com/example/declared_endpoints/declaredendpoints/model/FieldType", "scalar", "()Z"⟩ : MethodName) prog_22_method_4_code 1 (some .boolean)) :: ws) ({ frames := 1, cells := 0, slots := 0, locals := 12 } : Room)) (fun a U => a = #[(.ref a0)] ∧ Z.Warmed39 U.vm ∧ U.heap = h0) (fun _ _ _ _ _ => True) (fun _ U o U' => ∃ v L, o = .returned v ∧ Q13y Z a0 w_STRING w_OBJECT w_INT w_MAP w_BIGDECIMAL w_DATE w_LONG w_LIST w_BOOLEAN w_DEFAULTCAPACITY_EMPTY_ELEMENTDATA c_DEFAULTCAPACITY_EMPTY_ELEMENTDATA w_EMPTY_LIST w_EMPTY w_ELEMS c_ELEMS w_MIR xb h0 n0 v U'.heap L ∧ FrameEnd U o U' L ({ frames := 1, cells := 0, slots := 0, locals := 12 } : Room).cells ({ frames := 1, cells := 0, slots := 0, locals := 12 } : Room).slots) := by
  obtain ⟨S_STRING, E_STRING, S_OBJECT, E_OBJECT, F_ordinal_STRING, F_ordinal_OBJECT, S_INT, E_INT, F_ordinal_INT, S_MAP, E_MAP, S_BIGDECIMAL, E_BIGDECIMAL, S_DATE, E_DATE, S_LONG, E_LONG, F_ordinal_LONG, F_ordinal_BIGDECIMAL, S_LIST, E_LIST, S_BOOLEAN, E_BOOLEAN, F_ordinal_BOOLEAN, F_ordinal_DATE, S_DEFAULTCAPACITY_EMPTY_ELEMENTDATA, E_DEFAULTCAPACITY_EMPTY_ELEMENTDATA, A_DEFAULTCAPACITY_EMPTY_ELEMENTDATA, L_DEFAULTCAPACITY_EMPTY_ELEMENTDATA, S_EMPTY_LIST, E_EMPTY_LIST, S_EMPTY, E_EMPTY, F_elements_EMPTY_LIST, A_ELEMS, L_ELEMS, M_MIR⟩ := id F
  refine MetFree.of_bodySF (plainFor_of_name pn_13y) hisR ?_
  intro p e s m args below meth c s₁ Bd hml0 hP hK
  obtain ⟨rfl, hZ, hh⟩ := hP
  have hx := Bd.exec
  have hby := Bd.bytes
  have hml : c.maxLocals = 1 := hml0
  have hown : s.vm.findClass "com/example/declared_endpoints/declaredendpoints/model/FieldType" = some m.cls := findClass_of_methodNamed Bd.named
  have hnm := (name_of_methodNamed Bd.named Bd.method).1
  have X0 : Stand p l e ({ frames := 1, cells := 0, slots := 0, locals := 12 } : Room) s m #[(.ref a0)] below meth c s₁ [] 0 0 := Stand.of_body Bd
  have e0 : s₁.heap = h0 := by rw [← hh, Bd.state]; rfl
  have N0 := Fr.nil n0
  have K0 : Keep h0 h0 [] := Keep.refl _ _
  have pre0 : ∀ t, Steps p.tables e below (s₁.setTop (mkF m 0 #[.val (.ref a0)] [])) t → Steps p.tables e below (s₁.setTop (entryFrame m #[(.ref a0)] 1)) t := fun t k => castTop (ef_13y m a0) k
  have F_base_a0 := F_base_a00
  have F_containers_a0 := F_containers_a00
  obtain ⟨T1, X1, e1, st1⟩ := getF X0 hx hZ hown (host := "") (Or.inl (hw _ (List.mem_of_getElem? (i := 89) rfl))) Via.refl e0 F_containers_a0 (g := (mkF m 1 #[.val (.ref a0)] [(.ref a0)])) rfl rfl (hb hby d13y_1)
  obtain ⟨cq2, kq2, q2a, q2b, q2c⟩ := isOf hZ e1 (E_EMPTY_LIST.ext O0.2)
  obtain ⟨_, _, ⟨T2, L2, k2, n2⟩, -, X2, ⟨Lc2, hQ2, l2, y2, z2⟩, st2⟩ := X1.interfaceBack hx (xi := (⟨"java/util/List", "isEmpty", "()Z"⟩ : MethodName)) (y := (⟨"java/util/ImmutableCollections$ListN", "isEmpty", "()Z"⟩ : MethodName)) hown (mvT hZ (hw _ (List.mem_of_getElem? (i := 96) rfl))) (mvT hZ (hw _ (List.mem_of_getElem? (i := 97) rfl))) (mvT hZ (hw _ (List.mem_of_getElem? (i := 98) rfl))) (mvT hZ (hw _ (List.mem_of_getElem? (i := 99) rfl))) (mvT hZ (hw _ (List.mem_of_getElem? (i := 100) rfl))) (mvT hZ (hw _ (List.mem_of_getElem? (i := 101) rfl))) (mvT hZ (hw _ (List.mem_of_getElem? (i := 102) rfl))) (mvT hZ (hw _ (List.mem_of_getElem? (i := 103) rfl))) (by decide) (backOf (W := 0) (rm14 l Z ar0 hw []  w_STRING w_OBJECT w_INT w_MAP w_BIGDECIMAL w_DATE w_LONG w_LIST w_BOOLEAN w_DEFAULTCAPACITY_EMPTY_ELEMENTDATA c_DEFAULTCAPACITY_EMPTY_ELEMENTDATA w_EMPTY_LIST w_EMPTY w_ELEMS c_ELEMS w_MIR  h0 n0 O0 F ) hZ (hw _ (List.mem_of_getElem? (i := 105) rfl)) (hw _ (List.mem_of_getElem? (i := 104) rfl)) (by decide) (by decide)) q2a q2b q2c (g := (mkF m 4 #[.val (.ref a0)] [(.ref w_EMPTY_LIST)])) rfl (by rw [hml]; rfl) (Steps.refl _) (argsL := []) (rest := []) (lenOf pd_13y_4 rfl) rfl (by show 2 * 0 + _ ≤ _; exact Nat.le_of_eq rfl) (hb hby d13y_4) (fun _ _ => ⟨rfl, e1, (by decide : 0 + 0 ≤ _), (by decide : 0 + 0 ≤ _)⟩)
  dsimp only [Pt.U, Pt.locs, Pt.cells, Pt.slots] at X2 l2 y2 z2 st2 hQ2
  subst l2 y2 z2
  obtain ⟨rfl, N2q, O2, Kc2⟩ := hQ2
  have N2 := Fr.app N0 N2q
  have K2 : Keep h0 T2.heap [] := K0.trans Kc2 all0
  have F_base_a0 := (F_base_a0.keep Kc2 nin0)
  have F_containers_a0 := (F_containers_a0.keep Kc2 nin0)
  obtain ⟨T3, X3, e3, st3⟩ := getF X2 hx hZ hown (host := "") (Or.inl (hw _ (List.mem_of_getElem? (i := 87) rfl))) Via.refl rfl F_base_a0 (g := (mkF m 13 #[.val (.ref a0)] [(.ref a0)])) rfl rfl (hb hby d13y_13)
  obtain ⟨T4, X4, e4, st4⟩ := getS2 X3 hx hZ hown (host := "") (Or.inl (hw _ (List.mem_of_getElem? (i := 108) rfl))) Via.refl e3 (S_OBJECT.ext O2.2) (g := (mkF m 16 #[.val (.ref a0)] [(.ref xb)])) rfl (hb hby d13y_16)
  obtain ⟨fs, hr, hrun, hended, hW, hsame⟩ := X4.leave (v := some (.int (1 : Int32))) (fun h => by rw [Bd.returns] at h; cases h)
  refine ⟨_, _, pre0 _ ?_, hrun, hended, _, _, rfl, ?_, ⟨_, rfl⟩, hW, hsame.mono (by decide) (by decide)⟩
  · show Steps p.tables e below (s₁.setTop (mkF m 0 #[.val (.ref a0)] [])) _
    refine XS.aloadN X0.here hx rfl (hb hby d13y_0) rfl rfl ?_
    show Steps p.tables e below (s₁.setTop (mkF m 1 #[.val (.ref a0)] [(.ref a0)])) _
    refine st1 _ ?_
    show Steps p.tables e below (T1.setTop (mkF m 4 #[.val (.ref a0)] [(.ref w_EMPTY_LIST)])) _
    refine st2.trans ?_
    show Steps p.tables e below (T2.setTop (mkF m 9 #[.val (.ref a0)] [(.int (1 : Int32))])) _
    refine XS.ifNo X2.here hx rfl (hb hby d13y_9) rfl ((if0 _ _).trans (feq (by decide : ¬ ((1 : Int32) = (0 : Int32)))).1) ?_
    show Steps p.tables e below (T2.setTop (mkF m 12 #[.val (.ref a0)] [])) _
    refine XS.aloadN X2.here hx rfl (hb hby d13y_12) rfl rfl ?_
    show Steps p.tables e below (T2.setTop (mkF m 13 #[.val (.ref a0)] [(.ref a0)])) _
    refine st3 _ ?_
    show Steps p.tables e below (T3.setTop (mkF m 16 #[.val (.ref a0)] [(.ref xb)])) _
    refine st4 _ ?_
    show Steps p.tables e below (T4.setTop (mkF m 19 #[.val (.ref a0)] [(.ref w_OBJECT), (.ref xb)])) _
    refine Jvm.RoadKit.acmp (g := (mkF m 19 #[.val (.ref a0)] [(.ref w_OBJECT), (.ref xb)])) X4 hx rfl rfl rfl (pc0 := 19) (pc' := 22) (same := false) rfl (hb hby d13y_19) rfl (decide_eq_false (fun q => hc_19 (Value.ref.inj q))) (by decide) (by decide) ?_
    show Steps p.tables e below (T4.setTop (mkF m 22 #[.val (.ref a0)] [])) _
    refine XS.iconst X4.here hx rfl (hb hby d13y_22) ?_
    show Steps p.tables e below (T4.setTop (mkF m 23 #[.val (.ref a0)] [(.int (1 : Int32))])) _
    refine XS.goto X4.here hx rfl (pc0 := 23) (pc' := 27) rfl (hb hby d13y_23) (by decide) (by decide) ?_
    show Steps p.tables e below (T4.setTop (mkF m 27 #[.val (.ref a0)] [(.int (1 : Int32))])) _
    exact retN X4 hx (t := .boolean) Bd.returns (by simp) (hb hby d13y_27) hr
  · show Q13y Z a0 w_STRING w_OBJECT w_INT w_MAP w_BIGDECIMAL w_DATE w_LONG w_LIST w_BOOLEAN w_DEFAULTCAPACITY_EMPTY_ELEMENTDATA c_DEFAULTCAPACITY_EMPTY_ELEMENTDATA w_EMPTY_LIST w_EMPTY w_ELEMS c_ELEMS w_MIR xb h0 n0 _ T4.heap _
    rw [e4]
    exact ⟨rfl, N2, O2, K2⟩

theorem d13n_0 : decode prog_22_method_4_code 0 = .ok (.aload_n 0, 1) := by decide +kernel
theorem d13n_1 : decode prog_22_method_4_code 1 = .ok (.getfield 26, 3) := by decide +kernel
theorem d13n_4 : decode prog_22_method_4_code 4 = .ok (.invokeinterface 80 1, 5) := by decide +kernel
theorem d13n_9 : decode prog_22_method_4_code 9 = .ok (.ifCond .eq 17, 3) := by decide +kernel
theorem d13n_26 : decode prog_22_method_4_code 26 = .ok (.iconst 0, 1) := by decide +kernel
theorem d13n_27 : decode prog_22_method_4_code 27 = .ok (.ireturn, 1) := by decide +kernel
theorem pn_13n : plainName "com/example/declared_endpoints/declaredendpoints/model/FieldType" = true := by first | (simp [plainName, overriddenIn]; done) | decide +kernel
theorem pd_13n_4 : parseMethodDescriptor "()Z" = some ⟨[], some .boolean⟩ := by decide +kernel
theorem ef_13n (m : MethodId) (a0 : Addr) : entryFrame m #[(.ref a0)] 1 = mkF m 0 #[.val (.ref a0)] [] := by first | (simp [entryFrame, mkF, argsToLocals, Value.category]; done) | rfl
def Q13n (Z : State) (a0 : Addr) (w_STRING : Addr) (w_OBJECT : Addr) (w_INT : Addr) (w_MAP : Addr) (w_BIGDECIMAL : Addr) (w_DATE : Addr) (w_LONG : Addr) (w_LIST : Addr) (w_BOOLEAN : Addr) (w_DEFAULTCAPACITY_EMPTY_ELEMENTDATA : Addr) (c_DEFAULTCAPACITY_EMPTY_ELEMENTDATA : Cell) (w_EMPTY_LIST : Addr) (w_EMPTY : Addr) (w_ELEMS : Addr) (c_ELEMS : Cell) (w_MIR : Addr) (xc : Addr) (h0 : Heap) (n0 : Nat) (v : Option Value) (h : Heap) (L : List Loc) : Prop := v = some (.int (0 : Int32)) ∧ Fr n0 L ∧ Old Z n0 h ∧ Keep h0 h []
set_option maxRecDepth 65536 in
set_option maxHeartbeats 40000000 in
theorem rm13n (l : Launch) (Z : State) (ar0 : Array Value) (hw : ∀ d ∈ tables_1, d.before ar0 Z = true) (ws : List Jvm.Cond) (a0 : Addr) (w_STRING : Addr) (w_OBJECT : Addr) (w_INT : Addr) (w_MAP : Addr) (w_BIGDECIMAL : Addr) (w_DATE : Addr) (w_LONG : Addr) (w_LIST : Addr) (w_BOOLEAN : Addr) (w_DEFAULTCAPACITY_EMPTY_ELEMENTDATA : Addr) (c_DEFAULTCAPACITY_EMPTY_ELEMENTDATA : Cell) (w_EMPTY_LIST : Addr) (w_EMPTY : Addr) (w_ELEMS : Addr) (c_ELEMS : Cell) (w_MIR : Addr) (xc : Addr) (h0 : Heap) (n0 : Nat) (O0 : Old Z n0 h0) (F : Fx Z Z.heap w_STRING w_OBJECT w_INT w_MAP w_BIGDECIMAL w_DATE w_LONG w_LIST w_BOOLEAN w_DEFAULTCAPACITY_EMPTY_ELEMENTDATA c_DEFAULTCAPACITY_EMPTY_ELEMENTDATA w_EMPTY_LIST w_EMPTY w_ELEMS c_ELEMS w_MIR) (F_containers_a00 : Fld Z h0 a0 "com/example/declared_endpoints/declaredendpoints/model/FieldType" "containers" "Ljava/util/List;" (.ref xc)) (E_xc0 : Exa Z h0 xc "java/util/ImmutableCollections$List12") :
    MetFree l (⟨"com/example/declared_endpoints/declaredendpoints/model/FieldType", "scalar", "()Z"⟩ : MethodName) (head1 ((Jvm.Cond.code (⟨"com/example/declared_endpoints/declaredendpoints/model/FieldType", "scalar", "()Z"⟩ : MethodName) prog_22_method_4_code 1 (some .boolean)) :: ws) ({ frames := 1, cells := 0, slots := 0, locals := 12 } : Room)) (fun a U => a = #[(.ref a0)] ∧ Z.Warmed39 U.vm ∧ U.heap = h0) (fun _ _ _ _ _ => True) (fun _ U o U' => ∃ v L, o = .returned v ∧ Q13n Z a0 w_STRING w_OBJECT w_INT w_MAP w_BIGDECIMAL w_DATE w_LONG w_LIST w_BOOLEAN w_DEFAULTCAPACITY_EMPTY_ELEMENTDATA c_DEFAULTCAPACITY_EMPTY_ELEMENTDATA w_EMPTY_LIST w_EMPTY w_ELEMS c_ELEMS w_MIR xc h0 n0 v U'.heap L ∧ FrameEnd U o U' L ({ frames := 1, cells := 0, slots := 0, locals := 12 } : Room).cells ({ frames := 1, cells := 0, slots := 0, locals := 12 } : Room).slots) := by
  obtain ⟨S_STRING, E_STRING, S_OBJECT, E_OBJECT, F_ordinal_STRING, F_ordinal_OBJECT, S_INT, E_INT, F_ordinal_INT, S_MAP, E_MAP, S_BIGDECIMAL, E_BIGDECIMAL, S_DATE, E_DATE, S_LONG, E_LONG, F_ordinal_LONG, F_ordinal_BIGDECIMAL, S_LIST, E_LIST, S_BOOLEAN, E_BOOLEAN, F_ordinal_BOOLEAN, F_ordinal_DATE, S_DEFAULTCAPACITY_EMPTY_ELEMENTDATA, E_DEFAULTCAPACITY_EMPTY_ELEMENTDATA, A_DEFAULTCAPACITY_EMPTY_ELEMENTDATA, L_DEFAULTCAPACITY_EMPTY_ELEMENTDATA, S_EMPTY_LIST, E_EMPTY_LIST, S_EMPTY, E_EMPTY, F_elements_EMPTY_LIST, A_ELEMS, L_ELEMS, M_MIR⟩ := id F
  refine MetFree.of_bodySF (plainFor_of_name pn_13n) hisR ?_
  intro p e s m args below meth c s₁ Bd hml0 hP hK
  obtain ⟨rfl, hZ, hh⟩ := hP
  have hx := Bd.exec
  have hby := Bd.bytes
  have hml : c.maxLocals = 1 := hml0
  have hown : s.vm.findClass "com/example/declared_endpoints/declaredendpoints/model/FieldType" = some m.cls := findClass_of_methodNamed Bd.named
  have hnm := (name_of_methodNamed Bd.named Bd.method).1
  have X0 : Stand p l e ({ frames := 1, cells := 0, slots := 0, locals := 12 } : Room) s m #[(.ref a0)] below meth c s₁ [] 0 0 := Stand.of_body Bd
  have e0 : s₁.heap = h0 := by rw [← hh, Bd.state]; rfl
  have N0 := Fr.nil n0
  have K0 : Keep h0 h0 [] := Keep.refl _ _
  have pre0 : ∀ t, Steps p.tables e below (s₁.setTop (mkF m 0 #[.val (.ref a0)] [])) t → Steps p.tables e below (s₁.setTop (entryFrame m #[(.ref a0)] 1)) t := fun t k => castTop (ef_13n m a0) k
  have F_containers_a0 := F_containers_a00
  have E_xc := E_xc0
  obtain ⟨T1, X1, e1, st1⟩ := getF X0 hx hZ hown (host := "") (Or.inl (hw _ (List.mem_of_getElem? (i := 89) rfl))) Via.refl e0 F_containers_a0 (g := (mkF m 1 #[.val (.ref a0)] [(.ref a0)])) rfl rfl (hb hby d13n_1)
  obtain ⟨cq2, kq2, q2a, q2b, q2c⟩ := isOf hZ e1 E_xc
  obtain ⟨_, _, ⟨T2, L2, k2, n2⟩, -, X2, ⟨Lc2, hQ2, l2, y2, z2⟩, st2⟩ := X1.interfaceBack hx (xi := (⟨"java/util/List", "isEmpty", "()Z"⟩ : MethodName)) (y := (⟨"java/util/ImmutableCollections$List12", "isEmpty", "()Z"⟩ : MethodName)) hown (mvT hZ (hw _ (List.mem_of_getElem? (i := 96) rfl))) (mvT hZ (hw _ (List.mem_of_getElem? (i := 97) rfl))) (mvT hZ (hw _ (List.mem_of_getElem? (i := 98) rfl))) (mvT hZ (hw _ (List.mem_of_getElem? (i := 210) rfl))) (mvT hZ (hw _ (List.mem_of_getElem? (i := 211) rfl))) (mvT hZ (hw _ (List.mem_of_getElem? (i := 212) rfl))) (mvT hZ (hw _ (List.mem_of_getElem? (i := 213) rfl))) (mvT hZ (hw _ (List.mem_of_getElem? (i := 214) rfl))) (by decide) (backOf (W := 0) (rm30 l Z ar0 hw [] xc w_STRING w_OBJECT w_INT w_MAP w_BIGDECIMAL w_DATE w_LONG w_LIST w_BOOLEAN w_DEFAULTCAPACITY_EMPTY_ELEMENTDATA c_DEFAULTCAPACITY_EMPTY_ELEMENTDATA w_EMPTY_LIST w_EMPTY w_ELEMS c_ELEMS w_MIR  h0 n0 O0 F ) hZ (hw _ (List.mem_of_getElem? (i := 215) rfl)) (hw _ (List.mem_of_getElem? (i := 184) rfl)) (by decide) (by decide)) q2a q2b q2c (g := (mkF m 4 #[.val (.ref a0)] [(.ref xc)])) rfl (by rw [hml]; rfl) (Steps.refl _) (argsL := []) (rest := []) (lenOf pd_13n_4 rfl) rfl (by show 2 * 0 + _ ≤ _; exact Nat.le_of_eq rfl) (hb hby d13n_4) (fun _ _ => ⟨rfl, e1, (by decide : 0 + 0 ≤ _), (by decide : 0 + 0 ≤ _)⟩)
  dsimp only [Pt.U, Pt.locs, Pt.cells, Pt.slots] at X2 l2 y2 z2 st2 hQ2
  subst l2 y2 z2
  obtain ⟨rfl, N2q, O2, Kc2⟩ := hQ2
  have N2 := Fr.app N0 N2q
  have K2 : Keep h0 T2.heap [] := K0.trans Kc2 all0
  have F_containers_a0 := (F_containers_a0.keep Kc2 nin0)
  have E_xc := (E_xc.keep Kc2)
  obtain ⟨fs, hr, hrun, hended, hW, hsame⟩ := X2.leave (v := some (.int (0 : Int32))) (fun h => by rw [Bd.returns] at h; cases h)
  refine ⟨_, _, pre0 _ ?_, hrun, hended, _, _, rfl, ?_, ⟨_, rfl⟩, hW, hsame.mono (by decide) (by decide)⟩
  · show Steps p.tables e below (s₁.setTop (mkF m 0 #[.val (.ref a0)] [])) _
    refine XS.aloadN X0.here hx rfl (hb hby d13n_0) rfl rfl ?_
    show Steps p.tables e below (s₁.setTop (mkF m 1 #[.val (.ref a0)] [(.ref a0)])) _
    refine st1 _ ?_
    show Steps p.tables e below (T1.setTop (mkF m 4 #[.val (.ref a0)] [(.ref xc)])) _
    refine st2.trans ?_
    show Steps p.tables e below (T2.setTop (mkF m 9 #[.val (.ref a0)] [(.int (0 : Int32))])) _
    refine XS.ifYes X2.here hx rfl (pc0 := 9) (pc' := 26) rfl (hb hby d13n_9) rfl ((if0 _ _).trans (teq (by decide : (0 : Int32) = (0 : Int32))).1) (by decide) (by decide) ?_
    show Steps p.tables e below (T2.setTop (mkF m 26 #[.val (.ref a0)] [])) _
    refine XS.iconst X2.here hx rfl (hb hby d13n_26) ?_
    show Steps p.tables e below (T2.setTop (mkF m 27 #[.val (.ref a0)] [(.int (0 : Int32))])) _
    exact retN X2 hx (t := .boolean) Bd.returns (by simp) (hb hby d13n_27) hr
  · show Q13n Z a0 w_STRING w_OBJECT w_INT w_MAP w_BIGDECIMAL w_DATE w_LONG w_LIST w_BOOLEAN w_DEFAULTCAPACITY_EMPTY_ELEMENTDATA c_DEFAULTCAPACITY_EMPTY_ELEMENTDATA w_EMPTY_LIST w_EMPTY w_ELEMS c_ELEMS w_MIR xc h0 n0 _ T2.heap _
    skip
    exact ⟨rfl, N2, O2, K2⟩

theorem own_cases7 (k : Int32) (h0 : 0 ≤ k.toInt) (h1 : k.toInt < 7) : k = (0 : Int32) ∨ k = (1 : Int32) ∨ k = (2 : Int32) ∨ k = (3 : Int32) ∨ k = (4 : Int32) ∨ k = (5 : Int32) ∨ k = (6 : Int32) := by
  have h : k.toInt = 0 ∨ k.toInt = 1 ∨ k.toInt = 2 ∨ k.toInt = 3 ∨ k.toInt = 4 ∨ k.toInt = 5 ∨ k.toInt = 6 := by omega
  rcases h with h | h | h | h | h | h | h
  · exact (Or.inl (Int32.toInt_inj.mp (h.trans (by decide : (0 : Int) = (0 : Int32).toInt))))
  · exact (Or.inr (Or.inl (Int32.toInt_inj.mp (h.trans (by decide : (1 : Int) = (1 : Int32).toInt)))))
  · exact (Or.inr (Or.inr (Or.inl (Int32.toInt_inj.mp (h.trans (by decide : (2 : Int) = (2 : Int32).toInt))))))
  · exact (Or.inr (Or.inr (Or.inr (Or.inl (Int32.toInt_inj.mp (h.trans (by decide : (3 : Int) = (3 : Int32).toInt)))))))
  · exact (Or.inr (Or.inr (Or.inr (Or.inr (Or.inl (Int32.toInt_inj.mp (h.trans (by decide : (4 : Int) = (4 : Int32).toInt))))))))
  · exact (Or.inr (Or.inr (Or.inr (Or.inr (Or.inr (Or.inl (Int32.toInt_inj.mp (h.trans (by decide : (5 : Int) = (5 : Int32).toInt)))))))))
  · exact (Or.inr (Or.inr (Or.inr (Or.inr (Or.inr (Or.inr (Int32.toInt_inj.mp (h.trans (by decide : (6 : Int) = (6 : Int32).toInt)))))))))
theorem own_mod (x : Int32) : (x &&& (2147483647 : Int32)) % (7 : Int32) = (0 : Int32) ∨ (x &&& (2147483647 : Int32)) % (7 : Int32) = (1 : Int32) ∨ (x &&& (2147483647 : Int32)) % (7 : Int32) = (2 : Int32) ∨ (x &&& (2147483647 : Int32)) % (7 : Int32) = (3 : Int32) ∨ (x &&& (2147483647 : Int32)) % (7 : Int32) = (4 : Int32) ∨ (x &&& (2147483647 : Int32)) % (7 : Int32) = (5 : Int32) ∨ (x &&& (2147483647 : Int32)) % (7 : Int32) = (6 : Int32) := by
  have e := Jvm.Kit.i32_mask x 2147483647 (k := 31) (by decide) (by decide)
  have f : ((x &&& (2147483647 : Int32)) % (7 : Int32)).toInt = (x &&& (2147483647 : Int32)).toInt % (7 : Int32).toInt := Jvm.Kit.i32_rem_nonneg (by rw [e]; omega)
  have g : (7 : Int32).toInt = 7 := by decide
  rw [g] at f
  generalize (x &&& (2147483647 : Int32)) % (7 : Int32) = k at *
  exact own_cases7 k (by omega) (by omega)
theorem own_cases3 (k : Int32) (h0 : 0 ≤ k.toInt) (h1 : k.toInt < 3) : k = (0 : Int32) ∨ k = (1 : Int32) ∨ k = (2 : Int32) := by
  have h : k.toInt = 0 ∨ k.toInt = 1 ∨ k.toInt = 2 := by omega
  rcases h with h | h | h
  · exact (Or.inl (Int32.toInt_inj.mp (h.trans (by decide : (0 : Int) = (0 : Int32).toInt))))
  · exact (Or.inr (Or.inl (Int32.toInt_inj.mp (h.trans (by decide : (1 : Int) = (1 : Int32).toInt)))))
  · exact (Or.inr (Or.inr (Int32.toInt_inj.mp (h.trans (by decide : (2 : Int) = (2 : Int32).toInt)))))
theorem own_ct (x : Int32) : (x &&& (2147483647 : Int32)) % (3 : Int32) = (0 : Int32) ∨ (x &&& (2147483647 : Int32)) % (3 : Int32) = (1 : Int32) ∨ (x &&& (2147483647 : Int32)) % (3 : Int32) = (2 : Int32) := by
  have e := Jvm.Kit.i32_mask x 2147483647 (k := 31) (by decide) (by decide)
  have f : ((x &&& (2147483647 : Int32)) % (3 : Int32)).toInt = (x &&& (2147483647 : Int32)).toInt % (3 : Int32).toInt := Jvm.Kit.i32_rem_nonneg (by rw [e]; omega)
  have g : (3 : Int32).toInt = 3 := by decide
  rw [g] at f
  generalize (x &&& (2147483647 : Int32)) % (3 : Int32) = k at *
  exact own_cases3 k (by omega) (by omega)
theorem own_b6 (w_STRING : Addr) (w_OBJECT : Addr) (w_INT : Addr) (w_MAP : Addr) (w_BIGDECIMAL : Addr) (w_DATE : Addr) (w_LONG : Addr) (w_LIST : Addr) (w_BOOLEAN : Addr) (w_DEFAULTCAPACITY_EMPTY_ELEMENTDATA : Addr) (w_EMPTY_LIST : Addr) (w_EMPTY : Addr) (w_ELEMS : Addr) (w_MIR : Addr) : v5 (6 : Int32) w_STRING w_OBJECT w_INT w_MAP w_BIGDECIMAL w_DATE w_LONG w_LIST w_BOOLEAN w_DEFAULTCAPACITY_EMPTY_ELEMENTDATA w_EMPTY_LIST w_EMPTY w_ELEMS w_MIR = w_OBJECT := by simp +decide [v5]
theorem own_bn {bi : Int32} {w_STRING : Addr} {w_OBJECT : Addr} {w_INT : Addr} {w_MAP : Addr} {w_BIGDECIMAL : Addr} {w_DATE : Addr} {w_LONG : Addr} {w_LIST : Addr} {w_BOOLEAN : Addr} {w_DEFAULTCAPACITY_EMPTY_ELEMENTDATA : Addr} {w_EMPTY_LIST : Addr} {w_EMPTY : Addr} {w_ELEMS : Addr} {w_MIR : Addr} (h : bi = 0 ∨ bi = 1 ∨ bi = 2 ∨ bi = 3 ∨ bi = 4 ∨ bi = 5 ∨ bi = 6) (hn : ¬ bi = (6 : Int32)) (n0 : w_OBJECT ≠ w_STRING) (n1 : w_OBJECT ≠ w_INT) (n2 : w_OBJECT ≠ w_LONG) (n3 : w_OBJECT ≠ w_BIGDECIMAL) (n4 : w_OBJECT ≠ w_BOOLEAN) (n5 : w_OBJECT ≠ w_DATE) : ¬ v5 bi w_STRING w_OBJECT w_INT w_MAP w_BIGDECIMAL w_DATE w_LONG w_LIST w_BOOLEAN w_DEFAULTCAPACITY_EMPTY_ELEMENTDATA w_EMPTY_LIST w_EMPTY w_ELEMS w_MIR = w_OBJECT := by
  rcases h with rfl | rfl | rfl | rfl | rfl | rfl | rfl
  · exact Ne.symm n0
  · exact Ne.symm n1
  · exact Ne.symm n2
  · exact Ne.symm n3
  · exact Ne.symm n4
  · exact Ne.symm n5
  · exact absurd rfl hn

theorem pn_0 : plainName "com/example/declared_endpoints/declaredendpoints/model/FieldTypeScalarPinLaw" = true := by first | (simp [plainName, overriddenIn]; done) | decide +kernel
theorem pd_0_20 : parseMethodDescriptor "()V" = some ⟨[], none⟩ := by decide +kernel
theorem pd_0_36 : parseMethodDescriptor "(I)Lcom/example/declared_endpoints/declaredendpoints/model/FieldType$Container;" = some ⟨[.int], some (.object "com/example/declared_endpoints/declaredendpoints/model/FieldType$Container")⟩ := by decide +kernel
theorem pd_0_39 : parseMethodDescriptor "(Ljava/lang/Object;)Z" = some ⟨[(.object "java/lang/Object")], some .boolean⟩ := by decide +kernel
theorem pd_0_56 : parseMethodDescriptor "(I)Lcom/example/declared_endpoints/declaredendpoints/model/FieldType$Container;" = some ⟨[.int], some (.object "com/example/declared_endpoints/declaredendpoints/model/FieldType$Container")⟩ := by decide +kernel
theorem pd_0_59 : parseMethodDescriptor "(Ljava/lang/Object;)Z" = some ⟨[(.object "java/lang/Object")], some .boolean⟩ := by decide +kernel
theorem pd_0_68 : parseMethodDescriptor "(I)Lcom/example/declared_endpoints/declaredendpoints/model/FieldType$Base;" = some ⟨[.int], some (.object "com/example/declared_endpoints/declaredendpoints/model/FieldType$Base")⟩ := by decide +kernel
theorem pd_0_73 : parseMethodDescriptor "(Lcom/example/declared_endpoints/declaredendpoints/model/FieldType$Base;Ljava/util/List;)V" = some ⟨[(.object "com/example/declared_endpoints/declaredendpoints/model/FieldType$Base"), (.object "java/util/List")], none⟩ := by decide +kernel
theorem pd_0_98 : parseMethodDescriptor "()Z" = some ⟨[], some .boolean⟩ := by decide +kernel
theorem ef_0 (m : MethodId) (p0 : Int32) (p1 : Int32) (p2 : Int32) : entryFrame m #[(.int p0), (.int p1), (.int p2)] maxLocals = mkF m 0 #[.val (.int p0), .val (.int p1), .val (.int p2), .unset, .unset, .unset, .unset, .unset] [] := by first | (simp [entryFrame, mkF, argsToLocals, Value.category, maxLocals]; done) | rfl
def Q0 (Z : State) (p0 : Int32) (p1 : Int32) (p2 : Int32) (w_STRING : Addr) (w_OBJECT : Addr) (w_INT : Addr) (w_MAP : Addr) (w_BIGDECIMAL : Addr) (w_DATE : Addr) (w_LONG : Addr) (w_LIST : Addr) (w_BOOLEAN : Addr) (w_DEFAULTCAPACITY_EMPTY_ELEMENTDATA : Addr) (c_DEFAULTCAPACITY_EMPTY_ELEMENTDATA : Cell) (w_EMPTY_LIST : Addr) (w_EMPTY : Addr) (w_ELEMS : Addr) (c_ELEMS : Cell) (w_MIR : Addr)  (h0 : Heap) (n0 : Nat) (v : Option Value) (h : Heap) (L : List Loc) : Prop := v = some (.int (1 : Int32)) ∧ Fr n0 L
set_option maxRecDepth 65536 in
set_option maxHeartbeats 40000000 in
theorem rm0 (l : Launch) (Z : State) (ar0 : Array Value) (hw : ∀ d ∈ tables_1, d.before ar0 Z = true) (ws : List Jvm.Cond) (p0 : Int32) (p1 : Int32) (p2 : Int32) (w_STRING : Addr) (w_OBJECT : Addr) (w_INT : Addr) (w_MAP : Addr) (w_BIGDECIMAL : Addr) (w_DATE : Addr) (w_LONG : Addr) (w_LIST : Addr) (w_BOOLEAN : Addr) (w_DEFAULTCAPACITY_EMPTY_ELEMENTDATA : Addr) (c_DEFAULTCAPACITY_EMPTY_ELEMENTDATA : Cell) (w_EMPTY_LIST : Addr) (w_EMPTY : Addr) (w_ELEMS : Addr) (c_ELEMS : Cell) (w_MIR : Addr)  (h0 : Heap) (n0 : Nat) (O0 : Old Z n0 h0) (F : Fx Z Z.heap w_STRING w_OBJECT w_INT w_MAP w_BIGDECIMAL w_DATE w_LONG w_LIST w_BOOLEAN w_DEFAULTCAPACITY_EMPTY_ELEMENTDATA c_DEFAULTCAPACITY_EMPTY_ELEMENTDATA w_EMPTY_LIST w_EMPTY w_ELEMS c_ELEMS w_MIR)  :
    MetFree l x (head1 ((Jvm.Cond.code x code maxLocals ret) :: ws) room_1) (fun a U => a = #[(.int p0), (.int p1), (.int p2)] ∧ Z.Warmed39 U.vm ∧ U.heap = h0 ∧ CHv Z EL U.vm h0) (fun _ _ _ _ _ => True) (fun _ U o U' => ∃ v L, o = .returned v ∧ Q0 Z p0 p1 p2 w_STRING w_OBJECT w_INT w_MAP w_BIGDECIMAL w_DATE w_LONG w_LIST w_BOOLEAN w_DEFAULTCAPACITY_EMPTY_ELEMENTDATA c_DEFAULTCAPACITY_EMPTY_ELEMENTDATA w_EMPTY_LIST w_EMPTY w_ELEMS c_ELEMS w_MIR  h0 n0 v U'.heap L ∧ CHr Z EL U.vm U.heap U'.vm U'.heap ∧ ReturnedEndW U o U' L room_1.cells room_1.slots) := by
  obtain ⟨S_STRING, E_STRING, S_OBJECT, E_OBJECT, F_ordinal_STRING, F_ordinal_OBJECT, S_INT, E_INT, F_ordinal_INT, S_MAP, E_MAP, S_BIGDECIMAL, E_BIGDECIMAL, S_DATE, E_DATE, S_LONG, E_LONG, F_ordinal_LONG, F_ordinal_BIGDECIMAL, S_LIST, E_LIST, S_BOOLEAN, E_BOOLEAN, F_ordinal_BOOLEAN, F_ordinal_DATE, S_DEFAULTCAPACITY_EMPTY_ELEMENTDATA, E_DEFAULTCAPACITY_EMPTY_ELEMENTDATA, A_DEFAULTCAPACITY_EMPTY_ELEMENTDATA, L_DEFAULTCAPACITY_EMPTY_ELEMENTDATA, S_EMPTY_LIST, E_EMPTY_LIST, S_EMPTY, E_EMPTY, F_elements_EMPTY_LIST, A_ELEMS, L_ELEMS, M_MIR⟩ := id F
  refine MetFree.of_bodySF (plainFor_of_name pn_0) hisR ?_
  intro p e s m args below meth c s₁ Bd hml0 hP hK
  obtain ⟨rfl, hZ, hh, hCH⟩ := hP
  have hx := Bd.exec
  have hby := Bd.bytes
  have hml : c.maxLocals = 8 := hml0
  have hown : s.vm.findClass "com/example/declared_endpoints/declaredendpoints/model/FieldTypeScalarPinLaw" = some m.cls := findClass_of_methodNamed Bd.named
  have hS : s.Since s.vm h0.size := (State.WarmedH.refl s).since _
  have hk : h0.size ≤ h0.size := Nat.le_refl _
  have CR0 : CHr Z EL s.vm h0 s.vm h0 := CHr.refl hCH
  have hEL := own_EW hw
  have wS := own_wS hw
  have hnm := (name_of_methodNamed Bd.named Bd.method).1
  have X0 : Stand p l e room_1 (s.setVm s.vm) m #[(.int p0), (.int p1), (.int p2)] below meth c s₁ [] 0 0 := Stand.of_body Bd
  have e0 : s₁.heap = h0 := by rw [← hh, Bd.state]; rfl
  have N0 := Fr.nil n0
  have K0 : Keep h0 h0 [] := Keep.refl _ _
  have pre0 : ∀ t, Steps p.tables e below (s₁.setTop (mkF m 0 #[.val (.int p0), .val (.int p1), .val (.int p2), .unset, .unset, .unset, .unset, .unset] [])) t → Steps p.tables e below (s₁.setTop (entryFrame m #[(.int p0), (.int p1), (.int p2)] maxLocals)) t := fun t k => castTop (ef_0 m p0 p1 p2) k
  have ne_OBJECT_STRING : w_OBJECT ≠ w_STRING := own_fld_ne F_ordinal_OBJECT F_ordinal_STRING (by decide)
  have ne_STRING_OBJECT := Ne.symm ne_OBJECT_STRING
  have ne_OBJECT_INT : w_OBJECT ≠ w_INT := own_fld_ne F_ordinal_OBJECT F_ordinal_INT (by decide)
  have ne_INT_OBJECT := Ne.symm ne_OBJECT_INT
  have ne_OBJECT_LONG : w_OBJECT ≠ w_LONG := own_fld_ne F_ordinal_OBJECT F_ordinal_LONG (by decide)
  have ne_LONG_OBJECT := Ne.symm ne_OBJECT_LONG
  have ne_OBJECT_BIGDECIMAL : w_OBJECT ≠ w_BIGDECIMAL := own_fld_ne F_ordinal_OBJECT F_ordinal_BIGDECIMAL (by decide)
  have ne_BIGDECIMAL_OBJECT := Ne.symm ne_OBJECT_BIGDECIMAL
  have ne_OBJECT_BOOLEAN : w_OBJECT ≠ w_BOOLEAN := own_fld_ne F_ordinal_OBJECT F_ordinal_BOOLEAN (by decide)
  have ne_BOOLEAN_OBJECT := Ne.symm ne_OBJECT_BOOLEAN
  have ne_OBJECT_DATE : w_OBJECT ≠ w_DATE := own_fld_ne F_ordinal_OBJECT F_ordinal_DATE (by decide)
  have ne_DATE_OBJECT := Ne.symm ne_OBJECT_DATE
  have pre1 : ∀ t, Steps p.tables e below (s₁.setTop (mkF m 16 #[.val (.int p0), .val (.int p1), .val (.int p2), .val (.int ((p0 &&& (2147483647 : Int32)) % (7 : Int32))), .val (.int ((p1 &&& (2147483647 : Int32)) % (3 : Int32))), .unset, .unset, .unset] [])) t → Steps p.tables e below (s₁.setTop (entryFrame m #[(.int p0), (.int p1), (.int p2)] maxLocals)) t := by
    intro t k
    refine pre0 _ ?_
    show Steps p.tables e below (s₁.setTop (mkF m 0 #[.val (.int p0), .val (.int p1), .val (.int p2), .unset, .unset, .unset, .unset, .unset] [])) _
    refine XS.iloadN X0.here hx rfl (hb hby at_0) rfl ?_
    show Steps p.tables e below (s₁.setTop (mkF m 1 #[.val (.int p0), .val (.int p1), .val (.int p2), .unset, .unset, .unset, .unset, .unset] [(.int p0)])) _
    refine X0.ldcInt hx hown (mvT hZ (hw _ (List.mem_of_getElem? (i := 0) rfl))) (g := (mkF m 1 #[.val (.int p0), .val (.int p1), .val (.int p2), .unset, .unset, .unset, .unset, .unset] [(.int p0)])) rfl (hb hby at_1) _ ?_
    show Steps p.tables e below (s₁.setTop (mkF m 3 #[.val (.int p0), .val (.int p1), .val (.int p2), .unset, .unset, .unset, .unset, .unset] [(.int (2147483647 : Int32)), (.int p0)])) _
    refine XS.iand X0.here hx rfl (hb hby at_3) rfl ?_
    show Steps p.tables e below (s₁.setTop (mkF m 4 #[.val (.int p0), .val (.int p1), .val (.int p2), .unset, .unset, .unset, .unset, .unset] [(.int (p0 &&& (2147483647 : Int32)))])) _
    refine XS.bipush X0.here hx rfl (hb hby at_4) ?_
    show Steps p.tables e below (s₁.setTop (mkF m 6 #[.val (.int p0), .val (.int p1), .val (.int p2), .unset, .unset, .unset, .unset, .unset] [(.int (7 : Int32)), (.int (p0 &&& (2147483647 : Int32)))])) _
    refine iremM X0 hx rfl (hb hby at_6) rfl (by decide) ?_
    show Steps p.tables e below (s₁.setTop (mkF m 7 #[.val (.int p0), .val (.int p1), .val (.int p2), .unset, .unset, .unset, .unset, .unset] [(.int ((p0 &&& (2147483647 : Int32)) % (7 : Int32)))])) _
    refine XS.istoreN X0.here hx rfl (hb hby at_7) rfl (l' := #[.val (.int p0), .val (.int p1), .val (.int p2), .val (.int ((p0 &&& (2147483647 : Int32)) % (7 : Int32))), .unset, .unset, .unset, .unset]) rfl ?_
    show Steps p.tables e below (s₁.setTop (mkF m 8 #[.val (.int p0), .val (.int p1), .val (.int p2), .val (.int ((p0 &&& (2147483647 : Int32)) % (7 : Int32))), .unset, .unset, .unset, .unset] [])) _
    refine XS.iloadN X0.here hx rfl (hb hby at_8) rfl ?_
    show Steps p.tables e below (s₁.setTop (mkF m 9 #[.val (.int p0), .val (.int p1), .val (.int p2), .val (.int ((p0 &&& (2147483647 : Int32)) % (7 : Int32))), .unset, .unset, .unset, .unset] [(.int p1)])) _
    refine X0.ldcInt hx hown (mvT hZ (hw _ (List.mem_of_getElem? (i := 0) rfl))) (g := (mkF m 9 #[.val (.int p0), .val (.int p1), .val (.int p2), .val (.int ((p0 &&& (2147483647 : Int32)) % (7 : Int32))), .unset, .unset, .unset, .unset] [(.int p1)])) rfl (hb hby at_9) _ ?_
    show Steps p.tables e below (s₁.setTop (mkF m 11 #[.val (.int p0), .val (.int p1), .val (.int p2), .val (.int ((p0 &&& (2147483647 : Int32)) % (7 : Int32))), .unset, .unset, .unset, .unset] [(.int (2147483647 : Int32)), (.int p1)])) _
    refine XS.iand X0.here hx rfl (hb hby at_11) rfl ?_
    show Steps p.tables e below (s₁.setTop (mkF m 12 #[.val (.int p0), .val (.int p1), .val (.int p2), .val (.int ((p0 &&& (2147483647 : Int32)) % (7 : Int32))), .unset, .unset, .unset, .unset] [(.int (p1 &&& (2147483647 : Int32)))])) _
    refine XS.iconst X0.here hx rfl (hb hby at_12) ?_
    show Steps p.tables e below (s₁.setTop (mkF m 13 #[.val (.int p0), .val (.int p1), .val (.int p2), .val (.int ((p0 &&& (2147483647 : Int32)) % (7 : Int32))), .unset, .unset, .unset, .unset] [(.int (3 : Int32)), (.int (p1 &&& (2147483647 : Int32)))])) _
    refine iremM X0 hx rfl (hb hby at_13) rfl (by decide) ?_
    show Steps p.tables e below (s₁.setTop (mkF m 14 #[.val (.int p0), .val (.int p1), .val (.int p2), .val (.int ((p0 &&& (2147483647 : Int32)) % (7 : Int32))), .unset, .unset, .unset, .unset] [(.int ((p1 &&& (2147483647 : Int32)) % (3 : Int32)))])) _
    refine XS.istore X0.here hx rfl (hb hby at_14) rfl (l' := #[.val (.int p0), .val (.int p1), .val (.int p2), .val (.int ((p0 &&& (2147483647 : Int32)) % (7 : Int32))), .val (.int ((p1 &&& (2147483647 : Int32)) % (3 : Int32))), .unset, .unset, .unset]) rfl ?_
    exact k
  obtain ⟨bi, hbi⟩ : ∃ z, z = ((p0 &&& (2147483647 : Int32)) % (7 : Int32)) := ⟨_, rfl⟩
  have pre2 : ∀ t, Steps p.tables e below (s₁.setTop (mkF m 16 #[.val (.int p0), .val (.int p1), .val (.int p2), .val (.int bi), .val (.int ((p1 &&& (2147483647 : Int32)) % (3 : Int32))), .unset, .unset, .unset] [])) t → Steps p.tables e below (s₁.setTop (entryFrame m #[(.int p0), (.int p1), (.int p2)] maxLocals)) t := by rw [hbi]; exact pre1
  obtain ⟨ct, hct⟩ : ∃ z, z = ((p1 &&& (2147483647 : Int32)) % (3 : Int32)) := ⟨_, rfl⟩
  have pre3 : ∀ t, Steps p.tables e below (s₁.setTop (mkF m 16 #[.val (.int p0), .val (.int p1), .val (.int p2), .val (.int bi), .val (.int ct), .unset, .unset, .unset] [])) t → Steps p.tables e below (s₁.setTop (entryFrame m #[(.int p0), (.int p1), (.int p2)] maxLocals)) t := by rw [hct]; exact pre2
  obtain ⟨T4, h4, X4, e4, E4, A4, D4, -, st4⟩ := newO X0 hx hZ hown (hw _ (List.mem_of_getElem? (i := 1) rfl)) (hw _ (List.mem_of_getElem? (i := 2) rfl)) (hw _ (List.mem_of_getElem? (i := 3) rfl)) e0 (g := (mkF m 16 #[.val (.int p0), .val (.int p1), .val (.int p2), .val (.int bi), .val (.int ct), .unset, .unset, .unset] [])) rfl (hb hby at_16) (by decide) (by decide)
  obtain ⟨b4, g4⟩ : ∃ z, z = h0.size := ⟨_, rfl⟩
  rw [← g4] at A4 D4 st4
  have g_b4 : n0 ≤ b4 := Nat.le_trans (own_old_le O0) (Nat.le_of_eq g4.symm)
  have sz_b4 : h0.size ≤ b4 := Nat.le_trans K0.1 (Nat.le_of_eq g4.symm)
  have O4 : Old Z n0 h4 := O0.ext E4
  have K4 : Keep h0 h4 [] := K0.ext E4
  have CH5 := CHv.ext E4 hCH
  have CR5 := CR0.trans (CHr.ext E4 hCH)
  have hk := Nat.le_trans hk E4.1
  have E_b4 := A4
  have F_modCount_b4 : Fld Z h4 b4 "java/util/AbstractList" "modCount" "I" (.int (0 : Int32)) := D4 (Or.inl (hw _ (List.mem_of_getElem? (i := 23) rfl))) (ty := .int) (by decide)
  have F_elementData_b4 : Fld Z h4 b4 "java/util/ArrayList" "elementData" "[Ljava/lang/Object;" .null := D4 (Or.inl (hw _ (List.mem_of_getElem? (i := 26) rfl))) (ty := (.array (.object "java/lang/Object"))) (by decide)
  have F_size_b4 : Fld Z h4 b4 "java/util/ArrayList" "size" "I" (.int (0 : Int32)) := D4 (Or.inl (hw _ (List.mem_of_getElem? (i := 82) rfl))) (ty := .int) (by decide)
  have h3 : ct = 0 ∨ ct = 1 ∨ ct = 2 := by rw [hct]; exact own_ct p1
  have h7 : bi = 0 ∨ bi = 1 ∨ bi = 2 ∨ bi = 3 ∨ bi = 4 ∨ bi = 5 ∨ bi = 6 := by rw [hbi]; exact own_mod p0
  obtain ⟨_, _, ⟨T6, L6, k6, n6⟩, -, X6, ⟨Lc6, hQ6, l6, y6, z6⟩, st6⟩ := X4.specialBack hx (y := (⟨"java/util/ArrayList", "<init>", "()V"⟩ : MethodName)) rfl hown (mvT hZ (hw _ (List.mem_of_getElem? (i := 4) rfl))) (mvT hZ (hw _ (List.mem_of_getElem? (i := 5) rfl))) (mvT hZ (hw _ (List.mem_of_getElem? (i := 6) rfl))) (by decide) (backOf (W := 1) (rm1 l Z ar0 hw [] b4 w_STRING w_OBJECT w_INT w_MAP w_BIGDECIMAL w_DATE w_LONG w_LIST w_BOOLEAN w_DEFAULTCAPACITY_EMPTY_ELEMENTDATA c_DEFAULTCAPACITY_EMPTY_ELEMENTDATA w_EMPTY_LIST w_EMPTY w_ELEMS c_ELEMS w_MIR (.int (0 : Int32)) .null (.int (0 : Int32)) h4 n0 O4 F E_b4 F_size_b4 F_elementData_b4 F_modCount_b4 g_b4) hZ (hw _ (List.mem_of_getElem? (i := 6) rfl)) (hw _ (List.mem_of_getElem? (i := 3) rfl)) (by decide) (by decide)) (g := (mkF m 20 #[.val (.int p0), .val (.int p1), .val (.int p2), .val (.int bi), .val (.int ct), .unset, .unset, .unset] [(.ref b4), (.ref b4)])) rfl (by rw [hml]; rfl) (Steps.refl _) (a := b4) (argsL := []) (rest := [(.ref b4)]) (lenOf pd_0_20 rfl) rfl (by show 2 * 0 + _ ≤ _; exact Nat.le_of_eq rfl) (hb hby at_20) (fun _ _ => ⟨rfl, e4, (by decide : 1 + 0 ≤ _), (by decide : 3 + 0 ≤ _)⟩)
  dsimp only [Pt.U, Pt.locs, Pt.cells, Pt.slots] at X6 l6 y6 z6 st6 hQ6
  subst l6 y6 z6
  obtain ⟨rfl, N6q, O6, Kc6, fq6_0, fq6_1, fq6_2⟩ := hQ6
  have N6 := Fr.app N0 N6q
  have K6 : Keep h0 T6.heap [] := K4.trans Kc6 (allS (Or.inr sz_b4) all0)
  have CH7 := CHv.keep Kc6 (allS (own_safe_nil _ _ _) all0) CH5
  have CR7 := CR5.trans (CHr.keep Kc6 (allS (own_safe_nil _ _ _) all0) CH5)
  have hk := Nat.le_trans hk Kc6.1
  have E_b4 := (E_b4.keep Kc6)
  have F_elementData_b4 := fq6_0
  have F_size_b4 := fq6_1
  have F_modCount_b4 := fq6_2
  have pre8 : ∀ t, Steps p.tables e below (T6.setTop (mkF m 28 #[.val (.int p0), .val (.int p1), .val (.int p2), .val (.int bi), .val (.int ct), .val (.ref b4), .unset, .unset] [(.int (1 : Int32)), (.int ct)])) t → Steps p.tables e below (s₁.setTop (entryFrame m #[(.int p0), (.int p1), (.int p2)] maxLocals)) t := by
    intro t k
    refine pre3 _ ?_
    show Steps p.tables e below (s₁.setTop (mkF m 16 #[.val (.int p0), .val (.int p1), .val (.int p2), .val (.int bi), .val (.int ct), .unset, .unset, .unset] [])) _
    refine st4 _ ?_
    show Steps p.tables e below (T4.setTop (mkF m 19 #[.val (.int p0), .val (.int p1), .val (.int p2), .val (.int bi), .val (.int ct), .unset, .unset, .unset] [(.ref b4)])) _
    refine XS.dup X4.here hx rfl (hb hby at_19) rfl rfl ?_
    show Steps p.tables e below (T4.setTop (mkF m 20 #[.val (.int p0), .val (.int p1), .val (.int p2), .val (.int bi), .val (.int ct), .unset, .unset, .unset] [(.ref b4), (.ref b4)])) _
    refine st6.trans ?_
    show Steps p.tables e below (T6.setTop (mkF m 23 #[.val (.int p0), .val (.int p1), .val (.int p2), .val (.int bi), .val (.int ct), .unset, .unset, .unset] [(.ref b4)])) _
    refine XS.astore X6.here hx rfl (hb hby at_23) rfl rfl (l' := #[.val (.int p0), .val (.int p1), .val (.int p2), .val (.int bi), .val (.int ct), .val (.ref b4), .unset, .unset]) rfl ?_
    show Steps p.tables e below (T6.setTop (mkF m 25 #[.val (.int p0), .val (.int p1), .val (.int p2), .val (.int bi), .val (.int ct), .val (.ref b4), .unset, .unset] [])) _
    refine XS.iload X6.here hx rfl (hb hby at_25) rfl ?_
    show Steps p.tables e below (T6.setTop (mkF m 27 #[.val (.int p0), .val (.int p1), .val (.int p2), .val (.int bi), .val (.int ct), .val (.ref b4), .unset, .unset] [(.int ct)])) _
    refine XS.iconst X6.here hx rfl (hb hby at_27) ?_
    exact k
  by_cases hc9 : ct < (1 : Int32)
  ·
    have hk10 : ct < (2 : Int32) := by rcases h3 with q | q | q <;> rw [q] at hc9 ⊢ <;> first | decide | (exact absurd hc9 (by decide))
    obtain ⟨T11, h11, X11, e11, E11, A11, D11, -, st11⟩ := newO X6 hx hZ hown (hw _ (List.mem_of_getElem? (i := 27) rfl)) (hw _ (List.mem_of_getElem? (i := 28) rfl)) (hw _ (List.mem_of_getElem? (i := 29) rfl)) rfl (g := (mkF m 63 #[.val (.int p0), .val (.int p1), .val (.int p2), .val (.int bi), .val (.int ct), .val (.ref b4), .unset, .unset] [])) rfl (hb hby at_63) (by decide) (by decide)
    obtain ⟨b11, g11⟩ : ∃ z, z = T6.heap.size := ⟨_, rfl⟩
    rw [← g11] at A11 D11 st11
    have ne_b4_b11 : b4 ≠ b11 := Nat.ne_of_lt (Nat.lt_of_lt_of_le E_b4.lt (Nat.le_of_eq g11.symm))
    have g_b11 : n0 ≤ b11 := Nat.le_trans (own_old_le O6) (Nat.le_of_eq g11.symm)
    have sz_b11 : h0.size ≤ b11 := Nat.le_trans K6.1 (Nat.le_of_eq g11.symm)
    have O11 : Old Z n0 h11 := O6.ext E11
    have K11 : Keep h0 h11 [] := K6.ext E11
    have CH12 := CHv.ext E11 CH7
    have CR12 := CR7.trans (CHr.ext E11 CH7)
    have hk := Nat.le_trans hk E11.1
    have E_b4 := (E_b4.ext E11)
    have F_elementData_b4 := (F_elementData_b4.ext E11)
    have F_size_b4 := (F_size_b4.ext E11)
    have F_modCount_b4 := (F_modCount_b4.ext E11)
    have E_b11 := A11
    have F_base_b11 : Fld Z h11 b11 "com/example/declared_endpoints/declaredendpoints/model/FieldType" "base" "Lcom/example/declared_endpoints/declaredendpoints/model/FieldType$Base;" .null := D11 (Or.inr (hw _ (List.mem_of_getElem? (i := 88) rfl))) (ty := (.object "com/example/declared_endpoints/declaredendpoints/model/FieldType$Base")) (by decide)
    have F_containers_b11 : Fld Z h11 b11 "com/example/declared_endpoints/declaredendpoints/model/FieldType" "containers" "Ljava/util/List;" .null := D11 (Or.inr (hw _ (List.mem_of_getElem? (i := 90) rfl))) (ty := (.object "java/util/List")) (by decide)
    obtain ⟨_, _, ⟨T13, L13, k13, n13⟩, -, X13, ⟨Lc13, hQ13, l13, y13, z13⟩, st13⟩ := Jvm.LawKit.callS X11 hx (y := (⟨"com/example/declared_endpoints/declaredendpoints/model/FieldTypeScalarPinLaw", "base", "(I)Lcom/example/declared_endpoints/declaredendpoints/model/FieldType$Base;"⟩ : MethodName)) hown (mvT hZ (hw _ (List.mem_of_getElem? (i := 30) rfl))) (mvT hZ (hw _ (List.mem_of_getElem? (i := 31) rfl))) (mvT hZ (hw _ (List.mem_of_getElem? (i := 32) rfl))) (mvT hZ (hw _ (List.mem_of_getElem? (i := 33) rfl))) (by decide) (backOf (W := 2) (rm5 l Z ar0 hw [] bi w_STRING w_OBJECT w_INT w_MAP w_BIGDECIMAL w_DATE w_LONG w_LIST w_BOOLEAN w_DEFAULTCAPACITY_EMPTY_ELEMENTDATA c_DEFAULTCAPACITY_EMPTY_ELEMENTDATA w_EMPTY_LIST w_EMPTY w_ELEMS c_ELEMS w_MIR  h11 n0 O11 F ) hZ (hw _ (List.mem_of_getElem? (i := 33) rfl)) (hw _ (List.mem_of_getElem? (i := 32) rfl)) (by decide) (by decide)) (g := (mkF m 68 #[.val (.int p0), .val (.int p1), .val (.int p2), .val (.int bi), .val (.int ct), .val (.ref b4), .unset, .unset] [(.int bi), (.ref b11), (.ref b11)])) rfl (by rw [hml]; rfl) (argsL := [(.int bi)]) (rest := [(.ref b11), (.ref b11)]) (lenOf pd_0_68 rfl) rfl (by show 2 * 0 + _ ≤ _; exact Nat.le_of_eq rfl) (hb hby at_68) (fun _ _ => ⟨rfl, e11, (by decide : 2 + 0 ≤ _), (by decide : 5 + 0 ≤ _)⟩)
    dsimp only [Pt.U, Pt.locs, Pt.cells, Pt.slots] at X13 l13 y13 z13 st13 hQ13
    subst l13 y13 z13
    obtain ⟨rfl, N13q, O13, Kc13⟩ := hQ13
    have N13 := Fr.app N6 N13q
    have K13 : Keep h0 T13.heap [] := K11.trans Kc13 all0
    have CH14 := CHv.keep Kc13 all0 CH12
    have CR14 := CR12.trans (CHr.keep Kc13 all0 CH12)
    have hk := Nat.le_trans hk Kc13.1
    have E_b4 := (E_b4.keep Kc13)
    have F_elementData_b4 := (F_elementData_b4.keep Kc13 nin0)
    have F_size_b4 := (F_size_b4.keep Kc13 nin0)
    have F_modCount_b4 := (F_modCount_b4.keep Kc13 nin0)
    have E_b11 := (E_b11.keep Kc13)
    have F_base_b11 := (F_base_b11.keep Kc13 nin0)
    have F_containers_b11 := (F_containers_b11.keep Kc13 nin0)
    obtain ⟨r13, hr13⟩ : ∃ z, z = (v5 bi w_STRING w_OBJECT w_INT w_MAP w_BIGDECIMAL w_DATE w_LONG w_LIST w_BOOLEAN w_DEFAULTCAPACITY_EMPTY_ELEMENTDATA w_EMPTY_LIST w_EMPTY w_ELEMS w_MIR) := ⟨_, rfl⟩
    rw [← hr13] at st13
    obtain ⟨_, _, ⟨T15, L15, k15, n15⟩, -, X15, hSi15, hgr15, ⟨Lc15, hQ15, l15, y15, z15, C15⟩, st15⟩ := X13.specialBackS hx (y := (⟨"com/example/declared_endpoints/declaredendpoints/model/FieldType", "<init>", "(Lcom/example/declared_endpoints/declaredendpoints/model/FieldType$Base;Ljava/util/List;)V"⟩ : MethodName)) rfl hown (mvT hZ (hw _ (List.mem_of_getElem? (i := 37) rfl))) (mvT hZ (hw _ (List.mem_of_getElem? (i := 38) rfl))) (mvT hZ (hw _ (List.mem_of_getElem? (i := 39) rfl))) (by decide) (backOfSH (W := 1) (rm6_0 l Z ar0 hw [] b11 r13 b4 w_STRING w_OBJECT w_INT w_MAP w_BIGDECIMAL w_DATE w_LONG w_LIST w_BOOLEAN w_DEFAULTCAPACITY_EMPTY_ELEMENTDATA c_DEFAULTCAPACITY_EMPTY_ELEMENTDATA w_EMPTY_LIST w_EMPTY w_ELEMS c_ELEMS w_MIR (.int (0 : Int32)) .null .null T13.heap n0 O13 F E_b11 E_b4 F_modCount_b4 F_elementData_b4 F_size_b4 F_base_b11 g_b11 F_containers_b11) hZ (hw _ (List.mem_of_getElem? (i := 39) rfl)) (hw _ (List.mem_of_getElem? (i := 29) rfl)) (by decide) (by decide) hEL CH14) (g := (mkF m 73 #[.val (.int p0), .val (.int p1), .val (.int p2), .val (.int bi), .val (.int ct), .val (.ref b4), .unset, .unset] [(.ref b4), (.ref r13), (.ref b11), (.ref b11)])) rfl (by rw [hml]; rfl) (Steps.refl _) (a := b11) (argsL := [(.ref r13), (.ref b4)]) (rest := [(.ref b11)]) (lenOf pd_0_73 rfl) rfl (by show 2 * 0 + _ ≤ _; exact Nat.le_of_eq rfl) (hb hby at_73) (fun _ _ => ⟨rfl, rfl, (by decide : 2 + 2 ≤ _), (by decide : 5 + 20 ≤ _)⟩)
    dsimp only [Pt.U, Pt.locs, Pt.cells, Pt.slots] at X15 l15 y15 z15 st15 hQ15 C15 hSi15 hgr15
    subst l15 y15 z15
    have hkT15 := hk
    obtain ⟨X15, hS, hZ, hown⟩ := rebS hS hkT15 X15 hSi15 hgr15 hZ hown
    have hk := Nat.le_refl T15.heap.size
    have CR15 := CR14.trans C15
    obtain ⟨rfl, N15q, O15, Kc15, fq15_0, fq15_1⟩ := hQ15
    have N15 := Fr.app N13 N15q
    have K15 : Keep h0 T15.heap [] := K13.trans Kc15 (allS (Or.inr sz_b11) all0)
    have E_b4 := (E_b4.keep Kc15)
    have F_elementData_b4 := (F_elementData_b4.keep Kc15 (ninS ne_b4_b11 nin0))
    have F_size_b4 := (F_size_b4.keep Kc15 (ninS ne_b4_b11 nin0))
    have F_modCount_b4 := (F_modCount_b4.keep Kc15 (ninS ne_b4_b11 nin0))
    have E_b11 := (E_b11.keep Kc15)
    have F_base_b11 := fq15_0
    have F_containers_b11 := fq15_1
    have hk17 : ct = (0 : Int32) := by rcases h3 with q | q | q <;> rw [q] at hc9 ⊢ <;> first | rfl | (exact absurd hc9 (by decide))
    have pre18 : ∀ t, Steps p.tables e below (T15.setTop (mkF m 86 #[.val (.int p0), .val (.int p1), .val (.int p2), .val (.int bi), .val (.int ct), .val (.ref b4), .val (.ref b11), .unset] [(.int (6 : Int32)), (.int bi)])) t → Steps p.tables e below (s₁.setTop (entryFrame m #[(.int p0), (.int p1), (.int p2)] maxLocals)) t := by
      intro t k
      refine pre8 _ ?_
      show Steps p.tables e below (T6.setTop (mkF m 28 #[.val (.int p0), .val (.int p1), .val (.int p2), .val (.int bi), .val (.int ct), .val (.ref b4), .unset, .unset] [(.int (1 : Int32)), (.int ct)])) _
      refine XS.icmpYes X6.here hx rfl (pc0 := 28) (pc' := 43) rfl (hb hby at_28) rfl (tlt hc9).1 (by decide) (by decide) ?_
      show Steps p.tables e below (T6.setTop (mkF m 43 #[.val (.int p0), .val (.int p1), .val (.int p2), .val (.int bi), .val (.int ct), .val (.ref b4), .unset, .unset] [])) _
      refine XS.iload X6.here hx rfl (hb hby at_43) rfl ?_
      show Steps p.tables e below (T6.setTop (mkF m 45 #[.val (.int p0), .val (.int p1), .val (.int p2), .val (.int bi), .val (.int ct), .val (.ref b4), .unset, .unset] [(.int ct)])) _
      refine XS.iconst X6.here hx rfl (hb hby at_45) ?_
      show Steps p.tables e below (T6.setTop (mkF m 46 #[.val (.int p0), .val (.int p1), .val (.int p2), .val (.int bi), .val (.int ct), .val (.ref b4), .unset, .unset] [(.int (2 : Int32)), (.int ct)])) _
      refine XS.icmpYes X6.here hx rfl (pc0 := 46) (pc' := 63) rfl (hb hby at_46) rfl (tlt hk10).1 (by decide) (by decide) ?_
      show Steps p.tables e below (T6.setTop (mkF m 63 #[.val (.int p0), .val (.int p1), .val (.int p2), .val (.int bi), .val (.int ct), .val (.ref b4), .unset, .unset] [])) _
      refine st11 _ ?_
      show Steps p.tables e below (T11.setTop (mkF m 66 #[.val (.int p0), .val (.int p1), .val (.int p2), .val (.int bi), .val (.int ct), .val (.ref b4), .unset, .unset] [(.ref b11)])) _
      refine XS.dup X11.here hx rfl (hb hby at_66) rfl rfl ?_
      show Steps p.tables e below (T11.setTop (mkF m 67 #[.val (.int p0), .val (.int p1), .val (.int p2), .val (.int bi), .val (.int ct), .val (.ref b4), .unset, .unset] [(.ref b11), (.ref b11)])) _
      refine XS.iloadN X11.here hx rfl (hb hby at_67) rfl ?_
      show Steps p.tables e below (T11.setTop (mkF m 68 #[.val (.int p0), .val (.int p1), .val (.int p2), .val (.int bi), .val (.int ct), .val (.ref b4), .unset, .unset] [(.int bi), (.ref b11), (.ref b11)])) _
      refine st13 _ ?_
      show Steps p.tables e below (T13.setTop (mkF m 71 #[.val (.int p0), .val (.int p1), .val (.int p2), .val (.int bi), .val (.int ct), .val (.ref b4), .unset, .unset] [(.ref r13), (.ref b11), (.ref b11)])) _
      refine XS.aload X13.here hx rfl (hb hby at_71) rfl rfl ?_
      show Steps p.tables e below (T13.setTop (mkF m 73 #[.val (.int p0), .val (.int p1), .val (.int p2), .val (.int bi), .val (.int ct), .val (.ref b4), .unset, .unset] [(.ref b4), (.ref r13), (.ref b11), (.ref b11)])) _
      refine st15.trans ?_
      show Steps p.tables e below (T15.setTop (mkF m 76 #[.val (.int p0), .val (.int p1), .val (.int p2), .val (.int bi), .val (.int ct), .val (.ref b4), .unset, .unset] [(.ref b11)])) _
      refine XS.astore X15.here hx rfl (hb hby at_76) rfl rfl (l' := #[.val (.int p0), .val (.int p1), .val (.int p2), .val (.int bi), .val (.int ct), .val (.ref b4), .val (.ref b11), .unset]) rfl ?_
      show Steps p.tables e below (T15.setTop (mkF m 78 #[.val (.int p0), .val (.int p1), .val (.int p2), .val (.int bi), .val (.int ct), .val (.ref b4), .val (.ref b11), .unset] [])) _
      refine XS.iload X15.here hx rfl (hb hby at_78) rfl ?_
      show Steps p.tables e below (T15.setTop (mkF m 80 #[.val (.int p0), .val (.int p1), .val (.int p2), .val (.int bi), .val (.int ct), .val (.ref b4), .val (.ref b11), .unset] [(.int ct)])) _
      refine XS.ifNo X15.here hx rfl (hb hby at_80) rfl ((if0 _ _).trans (teq hk17).2) ?_
      show Steps p.tables e below (T15.setTop (mkF m 83 #[.val (.int p0), .val (.int p1), .val (.int p2), .val (.int bi), .val (.int ct), .val (.ref b4), .val (.ref b11), .unset] [])) _
      refine XS.iloadN X15.here hx rfl (hb hby at_83) rfl ?_
      show Steps p.tables e below (T15.setTop (mkF m 84 #[.val (.int p0), .val (.int p1), .val (.int p2), .val (.int bi), .val (.int ct), .val (.ref b4), .val (.ref b11), .unset] [(.int bi)])) _
      refine XS.bipush X15.here hx rfl (hb hby at_84) ?_
      exact k
    by_cases hc19 : bi = (6 : Int32)
    ·
      obtain ⟨cq20, kq20, q20a, q20b, q20c⟩ := isOf hZ rfl E_b11
      obtain ⟨_, _, ⟨T20, L20, k20, n20⟩, -, X20, ⟨Lc20, hQ20, l20, y20, z20⟩, st20⟩ := X15.virtualBack hx (y := (⟨"com/example/declared_endpoints/declaredendpoints/model/FieldType", "scalar", "()Z"⟩ : MethodName)) (z := (⟨"com/example/declared_endpoints/declaredendpoints/model/FieldType", "scalar", "()Z"⟩ : MethodName)) hown (mvT hZ (hw _ (List.mem_of_getElem? (i := 91) rfl))) (mvT hZ (hw _ (List.mem_of_getElem? (i := 92) rfl))) (notFace_of_selects (args := #[]) (mvT hZ (hw _ (List.mem_of_getElem? (i := 94) rfl)))) (mvT hZ (hw _ (List.mem_of_getElem? (i := 94) rfl))) (mvT hZ (hw _ (List.mem_of_getElem? (i := 93) rfl))) (by decide) (backOf (W := 0) (rm13z l Z ar0 hw [] b11 w_STRING w_OBJECT w_INT w_MAP w_BIGDECIMAL w_DATE w_LONG w_LIST w_BOOLEAN w_DEFAULTCAPACITY_EMPTY_ELEMENTDATA c_DEFAULTCAPACITY_EMPTY_ELEMENTDATA w_EMPTY_LIST w_EMPTY w_ELEMS c_ELEMS w_MIR r13 T15.heap n0 O15 F F_base_b11 F_containers_b11 (by rw [hr13, hc19]; exact own_b6 w_STRING w_OBJECT w_INT w_MAP w_BIGDECIMAL w_DATE w_LONG w_LIST w_BOOLEAN w_DEFAULTCAPACITY_EMPTY_ELEMENTDATA w_EMPTY_LIST w_EMPTY w_ELEMS w_MIR)) hZ (hw _ (List.mem_of_getElem? (i := 95) rfl)) (hw _ (List.mem_of_getElem? (i := 29) rfl)) (by decide) (by decide)) q20a q20c (g := (mkF m 98 #[.val (.int p0), .val (.int p1), .val (.int p2), .val (.int bi), .val (.int ct), .val (.ref b4), .val (.ref b11), .val (.int (0 : Int32))] [(.ref b11)])) rfl (by rw [hml]; rfl) (Steps.refl _) (argsL := []) (rest := []) (lenOf pd_0_98 rfl) rfl (by show 2 * 0 + _ ≤ _; exact Nat.le_of_eq rfl) (hb hby at_98) (fun _ _ => ⟨rfl, rfl, (by decide : 4 + 0 ≤ _), (by decide : 25 + 0 ≤ _)⟩)
      dsimp only [Pt.U, Pt.locs, Pt.cells, Pt.slots] at X20 l20 y20 z20 st20 hQ20
      subst l20 y20 z20
      obtain ⟨rfl, N20q, O20, Kc20⟩ := hQ20
      have N20 := Fr.app N15 N20q
      have K20 : Keep h0 T20.heap [] := K15.trans Kc20 all0
      have CH21 := CHv.keep Kc20 all0 C15.1
      have CR21 := CR15.trans (CHr.keep Kc20 all0 C15.1)
      have hk := Nat.le_trans hk Kc20.1
      have E_b4 := (E_b4.keep Kc20)
      have F_elementData_b4 := (F_elementData_b4.keep Kc20 nin0)
      have F_size_b4 := (F_size_b4.keep Kc20 nin0)
      have F_modCount_b4 := (F_modCount_b4.keep Kc20 nin0)
      have E_b11 := (E_b11.keep Kc20)
      have F_base_b11 := (F_base_b11.keep Kc20 nin0)
      have F_containers_b11 := (F_containers_b11.keep Kc20 nin0)
      obtain ⟨fs, hr, hrun, hended, hRW⟩ := X20.leaveW hS (hk) (v := some (.int (1 : Int32))) (fun h => by rw [Bd.returns] at h; cases h)
      have CRx : CHr Z EL s.vm s.heap T20.vm T20.heap := by rw [hh]; exact CR21.trans (CHv.at X20 hZ hEL CH21)
      refine ⟨_, _, pre18 _ ?_, hrun, hended, _, _, rfl, ?_, CRx, own_rw_mono hRW (by decide) (by decide)⟩
      · show Steps p.tables e below (T15.setTop (mkF m 86 #[.val (.int p0), .val (.int p1), .val (.int p2), .val (.int bi), .val (.int ct), .val (.ref b4), .val (.ref b11), .unset] [(.int (6 : Int32)), (.int bi)])) _
        refine XS.icmpYes X15.here hx rfl (pc0 := 86) (pc' := 93) rfl (hb hby at_86) rfl (teq hc19).1 (by decide) (by decide) ?_
        show Steps p.tables e below (T15.setTop (mkF m 93 #[.val (.int p0), .val (.int p1), .val (.int p2), .val (.int bi), .val (.int ct), .val (.ref b4), .val (.ref b11), .unset] [])) _
        refine XS.iconst X15.here hx rfl (hb hby at_93) ?_
        show Steps p.tables e below (T15.setTop (mkF m 94 #[.val (.int p0), .val (.int p1), .val (.int p2), .val (.int bi), .val (.int ct), .val (.ref b4), .val (.ref b11), .unset] [(.int (0 : Int32))])) _
        refine XS.istore X15.here hx rfl (hb hby at_94) rfl (l' := #[.val (.int p0), .val (.int p1), .val (.int p2), .val (.int bi), .val (.int ct), .val (.ref b4), .val (.ref b11), .val (.int (0 : Int32))]) rfl ?_
        show Steps p.tables e below (T15.setTop (mkF m 96 #[.val (.int p0), .val (.int p1), .val (.int p2), .val (.int bi), .val (.int ct), .val (.ref b4), .val (.ref b11), .val (.int (0 : Int32))] [])) _
        refine XS.aload X15.here hx rfl (hb hby at_96) rfl rfl ?_
        show Steps p.tables e below (T15.setTop (mkF m 98 #[.val (.int p0), .val (.int p1), .val (.int p2), .val (.int bi), .val (.int ct), .val (.ref b4), .val (.ref b11), .val (.int (0 : Int32))] [(.ref b11)])) _
        refine st20.trans ?_
        show Steps p.tables e below (T20.setTop (mkF m 101 #[.val (.int p0), .val (.int p1), .val (.int p2), .val (.int bi), .val (.int ct), .val (.ref b4), .val (.ref b11), .val (.int (0 : Int32))] [(.int (0 : Int32))])) _
        refine XS.iload X20.here hx rfl (hb hby at_101) rfl ?_
        show Steps p.tables e below (T20.setTop (mkF m 103 #[.val (.int p0), .val (.int p1), .val (.int p2), .val (.int bi), .val (.int ct), .val (.ref b4), .val (.ref b11), .val (.int (0 : Int32))] [(.int (0 : Int32)), (.int (0 : Int32))])) _
        refine XS.icmpNo X20.here hx rfl (hb hby at_103) rfl (teq (by decide : (0 : Int32) = (0 : Int32))).2 ?_
        show Steps p.tables e below (T20.setTop (mkF m 106 #[.val (.int p0), .val (.int p1), .val (.int p2), .val (.int bi), .val (.int ct), .val (.ref b4), .val (.ref b11), .val (.int (0 : Int32))] [])) _
        refine XS.iconst X20.here hx rfl (hb hby at_106) ?_
        show Steps p.tables e below (T20.setTop (mkF m 107 #[.val (.int p0), .val (.int p1), .val (.int p2), .val (.int bi), .val (.int ct), .val (.ref b4), .val (.ref b11), .val (.int (0 : Int32))] [(.int (1 : Int32))])) _
        refine XS.goto X20.here hx rfl (pc0 := 107) (pc' := 111) rfl (hb hby at_107) (by decide) (by decide) ?_
        show Steps p.tables e below (T20.setTop (mkF m 111 #[.val (.int p0), .val (.int p1), .val (.int p2), .val (.int bi), .val (.int ct), .val (.ref b4), .val (.ref b11), .val (.int (0 : Int32))] [(.int (1 : Int32))])) _
        exact retN X20 hx (t := .boolean) Bd.returns (by simp) (hb hby at_111) hr
      · show Q0 Z p0 p1 p2 w_STRING w_OBJECT w_INT w_MAP w_BIGDECIMAL w_DATE w_LONG w_LIST w_BOOLEAN w_DEFAULTCAPACITY_EMPTY_ELEMENTDATA c_DEFAULTCAPACITY_EMPTY_ELEMENTDATA w_EMPTY_LIST w_EMPTY w_ELEMS c_ELEMS w_MIR  h0 n0 _ T20.heap _
        skip
        exact ⟨rfl, N20⟩
    ·
      obtain ⟨cq22, kq22, q22a, q22b, q22c⟩ := isOf hZ rfl E_b11
      obtain ⟨_, _, ⟨T22, L22, k22, n22⟩, -, X22, ⟨Lc22, hQ22, l22, y22, z22⟩, st22⟩ := X15.virtualBack hx (y := (⟨"com/example/declared_endpoints/declaredendpoints/model/FieldType", "scalar", "()Z"⟩ : MethodName)) (z := (⟨"com/example/declared_endpoints/declaredendpoints/model/FieldType", "scalar", "()Z"⟩ : MethodName)) hown (mvT hZ (hw _ (List.mem_of_getElem? (i := 91) rfl))) (mvT hZ (hw _ (List.mem_of_getElem? (i := 92) rfl))) (notFace_of_selects (args := #[]) (mvT hZ (hw _ (List.mem_of_getElem? (i := 94) rfl)))) (mvT hZ (hw _ (List.mem_of_getElem? (i := 94) rfl))) (mvT hZ (hw _ (List.mem_of_getElem? (i := 93) rfl))) (by decide) (backOf (W := 0) (rm13y l Z ar0 hw [] b11 w_STRING w_OBJECT w_INT w_MAP w_BIGDECIMAL w_DATE w_LONG w_LIST w_BOOLEAN w_DEFAULTCAPACITY_EMPTY_ELEMENTDATA c_DEFAULTCAPACITY_EMPTY_ELEMENTDATA w_EMPTY_LIST w_EMPTY w_ELEMS c_ELEMS w_MIR r13 T15.heap n0 O15 F F_base_b11 F_containers_b11 (by rw [hr13]; exact own_bn h7 hc19 ne_OBJECT_STRING ne_OBJECT_INT ne_OBJECT_LONG ne_OBJECT_BIGDECIMAL ne_OBJECT_BOOLEAN ne_OBJECT_DATE)) hZ (hw _ (List.mem_of_getElem? (i := 95) rfl)) (hw _ (List.mem_of_getElem? (i := 29) rfl)) (by decide) (by decide)) q22a q22c (g := (mkF m 98 #[.val (.int p0), .val (.int p1), .val (.int p2), .val (.int bi), .val (.int ct), .val (.ref b4), .val (.ref b11), .val (.int (1 : Int32))] [(.ref b11)])) rfl (by rw [hml]; rfl) (Steps.refl _) (argsL := []) (rest := []) (lenOf pd_0_98 rfl) rfl (by show 2 * 0 + _ ≤ _; exact Nat.le_of_eq rfl) (hb hby at_98) (fun _ _ => ⟨rfl, rfl, (by decide : 4 + 0 ≤ _), (by decide : 25 + 0 ≤ _)⟩)
      dsimp only [Pt.U, Pt.locs, Pt.cells, Pt.slots] at X22 l22 y22 z22 st22 hQ22
      subst l22 y22 z22
      obtain ⟨rfl, N22q, O22, Kc22⟩ := hQ22
      have N22 := Fr.app N15 N22q
      have K22 : Keep h0 T22.heap [] := K15.trans Kc22 all0
      have CH23 := CHv.keep Kc22 all0 C15.1
      have CR23 := CR15.trans (CHr.keep Kc22 all0 C15.1)
      have hk := Nat.le_trans hk Kc22.1
      have E_b4 := (E_b4.keep Kc22)
      have F_elementData_b4 := (F_elementData_b4.keep Kc22 nin0)
      have F_size_b4 := (F_size_b4.keep Kc22 nin0)
      have F_modCount_b4 := (F_modCount_b4.keep Kc22 nin0)
      have E_b11 := (E_b11.keep Kc22)
      have F_base_b11 := (F_base_b11.keep Kc22 nin0)
      have F_containers_b11 := (F_containers_b11.keep Kc22 nin0)
      obtain ⟨fs, hr, hrun, hended, hRW⟩ := X22.leaveW hS (hk) (v := some (.int (1 : Int32))) (fun h => by rw [Bd.returns] at h; cases h)
      have CRx : CHr Z EL s.vm s.heap T22.vm T22.heap := by rw [hh]; exact CR23.trans (CHv.at X22 hZ hEL CH23)
      refine ⟨_, _, pre18 _ ?_, hrun, hended, _, _, rfl, ?_, CRx, own_rw_mono hRW (by decide) (by decide)⟩
      · show Steps p.tables e below (T15.setTop (mkF m 86 #[.val (.int p0), .val (.int p1), .val (.int p2), .val (.int bi), .val (.int ct), .val (.ref b4), .val (.ref b11), .unset] [(.int (6 : Int32)), (.int bi)])) _
        refine XS.icmpNo X15.here hx rfl (hb hby at_86) rfl (feq hc19).1 ?_
        show Steps p.tables e below (T15.setTop (mkF m 89 #[.val (.int p0), .val (.int p1), .val (.int p2), .val (.int bi), .val (.int ct), .val (.ref b4), .val (.ref b11), .unset] [])) _
        refine XS.iconst X15.here hx rfl (hb hby at_89) ?_
        show Steps p.tables e below (T15.setTop (mkF m 90 #[.val (.int p0), .val (.int p1), .val (.int p2), .val (.int bi), .val (.int ct), .val (.ref b4), .val (.ref b11), .unset] [(.int (1 : Int32))])) _
        refine XS.goto X15.here hx rfl (pc0 := 90) (pc' := 94) rfl (hb hby at_90) (by decide) (by decide) ?_
        show Steps p.tables e below (T15.setTop (mkF m 94 #[.val (.int p0), .val (.int p1), .val (.int p2), .val (.int bi), .val (.int ct), .val (.ref b4), .val (.ref b11), .unset] [(.int (1 : Int32))])) _
        refine XS.istore X15.here hx rfl (hb hby at_94) rfl (l' := #[.val (.int p0), .val (.int p1), .val (.int p2), .val (.int bi), .val (.int ct), .val (.ref b4), .val (.ref b11), .val (.int (1 : Int32))]) rfl ?_
        show Steps p.tables e below (T15.setTop (mkF m 96 #[.val (.int p0), .val (.int p1), .val (.int p2), .val (.int bi), .val (.int ct), .val (.ref b4), .val (.ref b11), .val (.int (1 : Int32))] [])) _
        refine XS.aload X15.here hx rfl (hb hby at_96) rfl rfl ?_
        show Steps p.tables e below (T15.setTop (mkF m 98 #[.val (.int p0), .val (.int p1), .val (.int p2), .val (.int bi), .val (.int ct), .val (.ref b4), .val (.ref b11), .val (.int (1 : Int32))] [(.ref b11)])) _
        refine st22.trans ?_
        show Steps p.tables e below (T22.setTop (mkF m 101 #[.val (.int p0), .val (.int p1), .val (.int p2), .val (.int bi), .val (.int ct), .val (.ref b4), .val (.ref b11), .val (.int (1 : Int32))] [(.int (1 : Int32))])) _
        refine XS.iload X22.here hx rfl (hb hby at_101) rfl ?_
        show Steps p.tables e below (T22.setTop (mkF m 103 #[.val (.int p0), .val (.int p1), .val (.int p2), .val (.int bi), .val (.int ct), .val (.ref b4), .val (.ref b11), .val (.int (1 : Int32))] [(.int (1 : Int32)), (.int (1 : Int32))])) _
        refine XS.icmpNo X22.here hx rfl (hb hby at_103) rfl (teq (by decide : (1 : Int32) = (1 : Int32))).2 ?_
        show Steps p.tables e below (T22.setTop (mkF m 106 #[.val (.int p0), .val (.int p1), .val (.int p2), .val (.int bi), .val (.int ct), .val (.ref b4), .val (.ref b11), .val (.int (1 : Int32))] [])) _
        refine XS.iconst X22.here hx rfl (hb hby at_106) ?_
        show Steps p.tables e below (T22.setTop (mkF m 107 #[.val (.int p0), .val (.int p1), .val (.int p2), .val (.int bi), .val (.int ct), .val (.ref b4), .val (.ref b11), .val (.int (1 : Int32))] [(.int (1 : Int32))])) _
        refine XS.goto X22.here hx rfl (pc0 := 107) (pc' := 111) rfl (hb hby at_107) (by decide) (by decide) ?_
        show Steps p.tables e below (T22.setTop (mkF m 111 #[.val (.int p0), .val (.int p1), .val (.int p2), .val (.int bi), .val (.int ct), .val (.ref b4), .val (.ref b11), .val (.int (1 : Int32))] [(.int (1 : Int32))])) _
        exact retN X22 hx (t := .boolean) Bd.returns (by simp) (hb hby at_111) hr
      · show Q0 Z p0 p1 p2 w_STRING w_OBJECT w_INT w_MAP w_BIGDECIMAL w_DATE w_LONG w_LIST w_BOOLEAN w_DEFAULTCAPACITY_EMPTY_ELEMENTDATA c_DEFAULTCAPACITY_EMPTY_ELEMENTDATA w_EMPTY_LIST w_EMPTY w_ELEMS c_ELEMS w_MIR  h0 n0 _ T22.heap _
        skip
        exact ⟨rfl, N22⟩
  ·
    obtain ⟨_, _, ⟨T24, L24, k24, n24⟩, -, X24, ⟨Lc24, hQ24, l24, y24, z24⟩, st24⟩ := Jvm.LawKit.callS X6 hx (y := (⟨"com/example/declared_endpoints/declaredendpoints/model/FieldTypeScalarPinLaw", "container", "(I)Lcom/example/declared_endpoints/declaredendpoints/model/FieldType$Container;"⟩ : MethodName)) hown (mvT hZ (hw _ (List.mem_of_getElem? (i := 112) rfl))) (mvT hZ (hw _ (List.mem_of_getElem? (i := 113) rfl))) (mvT hZ (hw _ (List.mem_of_getElem? (i := 32) rfl))) (mvT hZ (hw _ (List.mem_of_getElem? (i := 114) rfl))) (by decide) (backOf (W := 1) (rm15 l Z ar0 hw [] (p2 &&& (1 : Int32)) w_STRING w_OBJECT w_INT w_MAP w_BIGDECIMAL w_DATE w_LONG w_LIST w_BOOLEAN w_DEFAULTCAPACITY_EMPTY_ELEMENTDATA c_DEFAULTCAPACITY_EMPTY_ELEMENTDATA w_EMPTY_LIST w_EMPTY w_ELEMS c_ELEMS w_MIR  T6.heap n0 O6 F ) hZ (hw _ (List.mem_of_getElem? (i := 114) rfl)) (hw _ (List.mem_of_getElem? (i := 32) rfl)) (by decide) (by decide)) (g := (mkF m 36 #[.val (.int p0), .val (.int p1), .val (.int p2), .val (.int bi), .val (.int ct), .val (.ref b4), .unset, .unset] [(.int (p2 &&& (1 : Int32))), (.ref b4)])) rfl (by rw [hml]; rfl) (argsL := [(.int (p2 &&& (1 : Int32)))]) (rest := [(.ref b4)]) (lenOf pd_0_36 rfl) rfl (by show 2 * 0 + _ ≤ _; exact Nat.le_of_eq rfl) (hb hby at_36) (fun _ _ => ⟨rfl, rfl, (by decide : 1 + 0 ≤ _), (by decide : 3 + 0 ≤ _)⟩)
    dsimp only [Pt.U, Pt.locs, Pt.cells, Pt.slots] at X24 l24 y24 z24 st24 hQ24
    subst l24 y24 z24
    obtain ⟨rfl, N24q, O24, Kc24⟩ := hQ24
    have N24 := Fr.app N6 N24q
    have K24 : Keep h0 T24.heap [] := K6.trans Kc24 all0
    have CH25 := CHv.keep Kc24 all0 CH7
    have CR25 := CR7.trans (CHr.keep Kc24 all0 CH7)
    have hk := Nat.le_trans hk Kc24.1
    have E_b4 := (E_b4.keep Kc24)
    have F_elementData_b4 := (F_elementData_b4.keep Kc24 nin0)
    have F_size_b4 := (F_size_b4.keep Kc24 nin0)
    have F_modCount_b4 := (F_modCount_b4.keep Kc24 nin0)
    obtain ⟨r24, hr24⟩ : ∃ z, z = (v15 (p2 &&& (1 : Int32)) w_STRING w_OBJECT w_INT w_MAP w_BIGDECIMAL w_DATE w_LONG w_LIST w_BOOLEAN w_DEFAULTCAPACITY_EMPTY_ELEMENTDATA w_EMPTY_LIST w_EMPTY w_ELEMS w_MIR) := ⟨_, rfl⟩
    rw [← hr24] at st24
    have E_r24 : Exa Z T24.heap r24 "com/example/declared_endpoints/declaredendpoints/model/FieldType$Container" := by rw [hr24]; unfold v15; split; exact E_LIST.ext O24.2; exact E_MAP.ext O24.2
    obtain ⟨cq26, kq26, q26a, q26b, q26c⟩ := isOf hZ rfl E_b4
    obtain ⟨_, _, ⟨T26, L26, k26, n26⟩, -, X26, ⟨Lc26, hQ26, l26, y26, z26⟩, st26⟩ := X24.virtualBack hx (y := (⟨"java/util/ArrayList", "add", "(Ljava/lang/Object;)Z"⟩ : MethodName)) (z := (⟨"java/util/ArrayList", "add", "(Ljava/lang/Object;)Z"⟩ : MethodName)) hown (mvT hZ (hw _ (List.mem_of_getElem? (i := 118) rfl))) (mvT hZ (hw _ (List.mem_of_getElem? (i := 119) rfl))) (notFace_of_selects (args := #[]) (mvT hZ (hw _ (List.mem_of_getElem? (i := 121) rfl)))) (mvT hZ (hw _ (List.mem_of_getElem? (i := 121) rfl))) (mvT hZ (hw _ (List.mem_of_getElem? (i := 120) rfl))) (by decide) (backOf (W := 0) (rm16a l Z ar0 hw [] b4 r24 w_STRING w_OBJECT w_INT w_MAP w_BIGDECIMAL w_DATE w_LONG w_LIST w_BOOLEAN w_DEFAULTCAPACITY_EMPTY_ELEMENTDATA c_DEFAULTCAPACITY_EMPTY_ELEMENTDATA w_EMPTY_LIST w_EMPTY w_ELEMS c_ELEMS w_MIR (0 : Int32) T24.heap n0 O24 F E_b4 F_modCount_b4 F_elementData_b4 F_size_b4 E_r24 g_b4) hZ (hw _ (List.mem_of_getElem? (i := 122) rfl)) (hw _ (List.mem_of_getElem? (i := 3) rfl)) (by decide) (by decide)) q26a q26c (g := (mkF m 39 #[.val (.int p0), .val (.int p1), .val (.int p2), .val (.int bi), .val (.int ct), .val (.ref b4), .unset, .unset] [(.ref r24), (.ref b4)])) rfl (by rw [hml]; rfl) (Steps.refl _) (argsL := [(.ref r24)]) (rest := []) (lenOf pd_0_39 rfl) rfl (by show 2 * 0 + _ ≤ _; exact Nat.le_of_eq rfl) (hb hby at_39) (fun _ _ => ⟨rfl, rfl, (by decide : 1 + 1 ≤ _), (by decide : 3 + 10 ≤ _)⟩)
    dsimp only [Pt.U, Pt.locs, Pt.cells, Pt.slots] at X26 l26 y26 z26 st26 hQ26
    subst l26 y26 z26
    obtain ⟨b26_5_1_2_5, k5_2_1_5_26, rfl, N26q, O26, Kc26, sz26_0, fq26_0, fq26_1, fq26_2, fq26_3, fq26_4, fq26_5⟩ := hQ26
    have N26 := Fr.app N24 N26q
    have ne_b4_b26_5_1_2_5 : b4 ≠ b26_5_1_2_5 := Nat.ne_of_lt (Nat.lt_of_lt_of_le E_b4.lt sz26_0)
    have ne_r24_b26_5_1_2_5 : r24 ≠ b26_5_1_2_5 := Nat.ne_of_lt (Nat.lt_of_lt_of_le E_r24.lt sz26_0)
    have g_b26_5_1_2_5 : n0 ≤ b26_5_1_2_5 := Nat.le_trans (own_old_le O24) sz26_0
    have sz_b26_5_1_2_5 : h0.size ≤ b26_5_1_2_5 := Nat.le_trans K24.1 sz26_0
    have K26 : Keep h0 T26.heap [] := K24.trans Kc26 (allS (Or.inr sz_b4) all0)
    have CH27 := CHv.keep Kc26 (allS (own_safe_nil _ _ _) all0) CH25
    have CR27 := CR25.trans (CHr.keep Kc26 (allS (own_safe_nil _ _ _) all0) CH25)
    have hk := Nat.le_trans hk Kc26.1
    have E_b4 := (E_b4.keep Kc26)
    have E_r24 := (E_r24.keep Kc26)
    have F_modCount_b4 := fq26_0
    have F_elementData_b4 := fq26_1
    have F_size_b4 := fq26_2
    have V_b26_5_1_2_5 := fq26_3
    have E_b26_5_1_2_5 := fq26_4
    have Ovr_b26_5_1_2_5 := fq26_5
    have pre28 : ∀ t, Steps p.tables e below (T26.setTop (mkF m 46 #[.val (.int p0), .val (.int p1), .val (.int p2), .val (.int bi), .val (.int ct), .val (.ref b4), .unset, .unset] [(.int (2 : Int32)), (.int ct)])) t → Steps p.tables e below (s₁.setTop (entryFrame m #[(.int p0), (.int p1), (.int p2)] maxLocals)) t := by
      intro t k
      refine pre8 _ ?_
      show Steps p.tables e below (T6.setTop (mkF m 28 #[.val (.int p0), .val (.int p1), .val (.int p2), .val (.int bi), .val (.int ct), .val (.ref b4), .unset, .unset] [(.int (1 : Int32)), (.int ct)])) _
      refine XS.icmpNo X6.here hx rfl (hb hby at_28) rfl (flt hc9).1 ?_
      show Steps p.tables e below (T6.setTop (mkF m 31 #[.val (.int p0), .val (.int p1), .val (.int p2), .val (.int bi), .val (.int ct), .val (.ref b4), .unset, .unset] [])) _
      refine XS.aload X6.here hx rfl (hb hby at_31) rfl rfl ?_
      show Steps p.tables e below (T6.setTop (mkF m 33 #[.val (.int p0), .val (.int p1), .val (.int p2), .val (.int bi), .val (.int ct), .val (.ref b4), .unset, .unset] [(.ref b4)])) _
      refine XS.iloadN X6.here hx rfl (hb hby at_33) rfl ?_
      show Steps p.tables e below (T6.setTop (mkF m 34 #[.val (.int p0), .val (.int p1), .val (.int p2), .val (.int bi), .val (.int ct), .val (.ref b4), .unset, .unset] [(.int p2), (.ref b4)])) _
      refine XS.iconst X6.here hx rfl (hb hby at_34) ?_
      show Steps p.tables e below (T6.setTop (mkF m 35 #[.val (.int p0), .val (.int p1), .val (.int p2), .val (.int bi), .val (.int ct), .val (.ref b4), .unset, .unset] [(.int (1 : Int32)), (.int p2), (.ref b4)])) _
      refine XS.iand X6.here hx rfl (hb hby at_35) rfl ?_
      show Steps p.tables e below (T6.setTop (mkF m 36 #[.val (.int p0), .val (.int p1), .val (.int p2), .val (.int bi), .val (.int ct), .val (.ref b4), .unset, .unset] [(.int (p2 &&& (1 : Int32))), (.ref b4)])) _
      refine st24 _ ?_
      show Steps p.tables e below (T24.setTop (mkF m 39 #[.val (.int p0), .val (.int p1), .val (.int p2), .val (.int bi), .val (.int ct), .val (.ref b4), .unset, .unset] [(.ref r24), (.ref b4)])) _
      refine st26.trans ?_
      show Steps p.tables e below (T26.setTop (mkF m 42 #[.val (.int p0), .val (.int p1), .val (.int p2), .val (.int bi), .val (.int ct), .val (.ref b4), .unset, .unset] [(.int (1 : Int32))])) _
      refine XS.pop X26.here hx rfl (hb hby at_42) rfl rfl ?_
      show Steps p.tables e below (T26.setTop (mkF m 43 #[.val (.int p0), .val (.int p1), .val (.int p2), .val (.int bi), .val (.int ct), .val (.ref b4), .unset, .unset] [])) _
      refine XS.iload X26.here hx rfl (hb hby at_43) rfl ?_
      show Steps p.tables e below (T26.setTop (mkF m 45 #[.val (.int p0), .val (.int p1), .val (.int p2), .val (.int bi), .val (.int ct), .val (.ref b4), .unset, .unset] [(.int ct)])) _
      refine XS.iconst X26.here hx rfl (hb hby at_45) ?_
      exact k
    by_cases hc29 : ct < (2 : Int32)
    ·
      obtain ⟨T30, h30, X30, e30, E30, A30, D30, -, st30⟩ := newO X26 hx hZ hown (hw _ (List.mem_of_getElem? (i := 27) rfl)) (hw _ (List.mem_of_getElem? (i := 28) rfl)) (hw _ (List.mem_of_getElem? (i := 29) rfl)) rfl (g := (mkF m 63 #[.val (.int p0), .val (.int p1), .val (.int p2), .val (.int bi), .val (.int ct), .val (.ref b4), .unset, .unset] [])) rfl (hb hby at_63) (by decide) (by decide)
      obtain ⟨b30, g30⟩ : ∃ z, z = T26.heap.size := ⟨_, rfl⟩
      rw [← g30] at A30 D30 st30
      have ne_b4_b30 : b4 ≠ b30 := Nat.ne_of_lt (Nat.lt_of_lt_of_le E_b4.lt (Nat.le_of_eq g30.symm))
      have ne_r24_b30 : r24 ≠ b30 := Nat.ne_of_lt (Nat.lt_of_lt_of_le E_r24.lt (Nat.le_of_eq g30.symm))
      have ne_b26_5_1_2_5_b30 : b26_5_1_2_5 ≠ b30 := Nat.ne_of_lt (Nat.lt_of_lt_of_le V_b26_5_1_2_5.lt (Nat.le_of_eq g30.symm))
      have g_b30 : n0 ≤ b30 := Nat.le_trans (own_old_le O26) (Nat.le_of_eq g30.symm)
      have sz_b30 : h0.size ≤ b30 := Nat.le_trans K26.1 (Nat.le_of_eq g30.symm)
      have O30 : Old Z n0 h30 := O26.ext E30
      have K30 : Keep h0 h30 [] := K26.ext E30
      have CH31 := CHv.ext E30 CH27
      have CR31 := CR27.trans (CHr.ext E30 CH27)
      have hk := Nat.le_trans hk E30.1
      have E_b4 := (E_b4.ext E30)
      have E_r24 := (E_r24.ext E30)
      have F_modCount_b4 := (F_modCount_b4.ext E30)
      have F_elementData_b4 := (F_elementData_b4.ext E30)
      have F_size_b4 := (F_size_b4.ext E30)
      have V_b26_5_1_2_5 := (V_b26_5_1_2_5.ext E30)
      have E_b26_5_1_2_5 := (E_b26_5_1_2_5.ext E30)
      have E_b30 := A30
      have F_base_b30 : Fld Z h30 b30 "com/example/declared_endpoints/declaredendpoints/model/FieldType" "base" "Lcom/example/declared_endpoints/declaredendpoints/model/FieldType$Base;" .null := D30 (Or.inr (hw _ (List.mem_of_getElem? (i := 88) rfl))) (ty := (.object "com/example/declared_endpoints/declaredendpoints/model/FieldType$Base")) (by decide)
      have F_containers_b30 : Fld Z h30 b30 "com/example/declared_endpoints/declaredendpoints/model/FieldType" "containers" "Ljava/util/List;" .null := D30 (Or.inr (hw _ (List.mem_of_getElem? (i := 90) rfl))) (ty := (.object "java/util/List")) (by decide)
      obtain ⟨_, _, ⟨T32, L32, k32, n32⟩, -, X32, ⟨Lc32, hQ32, l32, y32, z32⟩, st32⟩ := Jvm.LawKit.callS X30 hx (y := (⟨"com/example/declared_endpoints/declaredendpoints/model/FieldTypeScalarPinLaw", "base", "(I)Lcom/example/declared_endpoints/declaredendpoints/model/FieldType$Base;"⟩ : MethodName)) hown (mvT hZ (hw _ (List.mem_of_getElem? (i := 30) rfl))) (mvT hZ (hw _ (List.mem_of_getElem? (i := 31) rfl))) (mvT hZ (hw _ (List.mem_of_getElem? (i := 32) rfl))) (mvT hZ (hw _ (List.mem_of_getElem? (i := 33) rfl))) (by decide) (backOf (W := 2) (rm5 l Z ar0 hw [] bi w_STRING w_OBJECT w_INT w_MAP w_BIGDECIMAL w_DATE w_LONG w_LIST w_BOOLEAN w_DEFAULTCAPACITY_EMPTY_ELEMENTDATA c_DEFAULTCAPACITY_EMPTY_ELEMENTDATA w_EMPTY_LIST w_EMPTY w_ELEMS c_ELEMS w_MIR  h30 n0 O30 F ) hZ (hw _ (List.mem_of_getElem? (i := 33) rfl)) (hw _ (List.mem_of_getElem? (i := 32) rfl)) (by decide) (by decide)) (g := (mkF m 68 #[.val (.int p0), .val (.int p1), .val (.int p2), .val (.int bi), .val (.int ct), .val (.ref b4), .unset, .unset] [(.int bi), (.ref b30), (.ref b30)])) rfl (by rw [hml]; rfl) (argsL := [(.int bi)]) (rest := [(.ref b30), (.ref b30)]) (lenOf pd_0_68 rfl) rfl (by show 2 * 0 + _ ≤ _; exact Nat.le_of_eq rfl) (hb hby at_68) (fun _ _ => ⟨rfl, e30, (by decide : 3 + 0 ≤ _), (by decide : 15 + 0 ≤ _)⟩)
      dsimp only [Pt.U, Pt.locs, Pt.cells, Pt.slots] at X32 l32 y32 z32 st32 hQ32
      subst l32 y32 z32
      obtain ⟨rfl, N32q, O32, Kc32⟩ := hQ32
      have N32 := Fr.app N26 N32q
      have K32 : Keep h0 T32.heap [] := K30.trans Kc32 all0
      have CH33 := CHv.keep Kc32 all0 CH31
      have CR33 := CR31.trans (CHr.keep Kc32 all0 CH31)
      have hk := Nat.le_trans hk Kc32.1
      have E_b4 := (E_b4.keep Kc32)
      have E_r24 := (E_r24.keep Kc32)
      have F_modCount_b4 := (F_modCount_b4.keep Kc32 nin0)
      have F_elementData_b4 := (F_elementData_b4.keep Kc32 nin0)
      have F_size_b4 := (F_size_b4.keep Kc32 nin0)
      have V_b26_5_1_2_5 := (V_b26_5_1_2_5.keep Kc32 nin0)
      have E_b26_5_1_2_5 := (E_b26_5_1_2_5.keep Kc32)
      have E_b30 := (E_b30.keep Kc32)
      have F_base_b30 := (F_base_b30.keep Kc32 nin0)
      have F_containers_b30 := (F_containers_b30.keep Kc32 nin0)
      obtain ⟨r32, hr32⟩ : ∃ z, z = (v5 bi w_STRING w_OBJECT w_INT w_MAP w_BIGDECIMAL w_DATE w_LONG w_LIST w_BOOLEAN w_DEFAULTCAPACITY_EMPTY_ELEMENTDATA w_EMPTY_LIST w_EMPTY w_ELEMS w_MIR) := ⟨_, rfl⟩
      rw [← hr32] at st32
      obtain ⟨_, _, ⟨T34, L34, k34, n34⟩, -, X34, hSi34, hgr34, ⟨Lc34, hQ34, l34, y34, z34, C34⟩, st34⟩ := X32.specialBackS hx (y := (⟨"com/example/declared_endpoints/declaredendpoints/model/FieldType", "<init>", "(Lcom/example/declared_endpoints/declaredendpoints/model/FieldType$Base;Ljava/util/List;)V"⟩ : MethodName)) rfl hown (mvT hZ (hw _ (List.mem_of_getElem? (i := 37) rfl))) (mvT hZ (hw _ (List.mem_of_getElem? (i := 38) rfl))) (mvT hZ (hw _ (List.mem_of_getElem? (i := 39) rfl))) (by decide) (backOfSH (W := 1) (rm6_1 l Z ar0 hw [] b30 r32 b4 w_STRING w_OBJECT w_INT w_MAP w_BIGDECIMAL w_DATE w_LONG w_LIST w_BOOLEAN w_DEFAULTCAPACITY_EMPTY_ELEMENTDATA c_DEFAULTCAPACITY_EMPTY_ELEMENTDATA w_EMPTY_LIST w_EMPTY w_ELEMS c_ELEMS w_MIR (.int ((0 : Int32) + (1 : Int32))) b26_5_1_2_5 k5_2_1_5_26 r24 .null .null T32.heap n0 O32 F E_b30 E_b4 F_modCount_b4 F_elementData_b4 F_size_b4 V_b26_5_1_2_5 E_b26_5_1_2_5 Ovr_b26_5_1_2_5 E_r24 F_base_b30 g_b30 F_containers_b30) hZ (hw _ (List.mem_of_getElem? (i := 39) rfl)) (hw _ (List.mem_of_getElem? (i := 29) rfl)) (by decide) (by decide) hEL CH33) (g := (mkF m 73 #[.val (.int p0), .val (.int p1), .val (.int p2), .val (.int bi), .val (.int ct), .val (.ref b4), .unset, .unset] [(.ref b4), (.ref r32), (.ref b30), (.ref b30)])) rfl (by rw [hml]; rfl) (Steps.refl _) (a := b30) (argsL := [(.ref r32), (.ref b4)]) (rest := [(.ref b30)]) (lenOf pd_0_73 rfl) rfl (by show 2 * 0 + _ ≤ _; exact Nat.le_of_eq rfl) (hb hby at_73) (fun _ _ => ⟨rfl, rfl, (by decide : 3 + 4 ≤ _), (by decide : 15 + 23 ≤ _)⟩)
      dsimp only [Pt.U, Pt.locs, Pt.cells, Pt.slots] at X34 l34 y34 z34 st34 hQ34 C34 hSi34 hgr34
      subst l34 y34 z34
      have hkT34 := hk
      obtain ⟨X34, hS, hZ, hown⟩ := rebS hS hkT34 X34 hSi34 hgr34 hZ hown
      have hk := Nat.le_refl T34.heap.size
      have CR34 := CR33.trans C34
      obtain ⟨b34_7_1_5_2, rfl, N34q, O34, Kc34, sz34_0, fq34_0, fq34_1, fq34_2, fq34_3, fq34_4⟩ := hQ34
      have N34 := Fr.app N32 N34q
      have ne_b4_b34_7_1_5_2 : b4 ≠ b34_7_1_5_2 := Nat.ne_of_lt (Nat.lt_of_lt_of_le E_b4.lt sz34_0)
      have ne_r24_b34_7_1_5_2 : r24 ≠ b34_7_1_5_2 := Nat.ne_of_lt (Nat.lt_of_lt_of_le E_r24.lt sz34_0)
      have ne_b26_5_1_2_5_b34_7_1_5_2 : b26_5_1_2_5 ≠ b34_7_1_5_2 := Nat.ne_of_lt (Nat.lt_of_lt_of_le V_b26_5_1_2_5.lt sz34_0)
      have ne_b30_b34_7_1_5_2 : b30 ≠ b34_7_1_5_2 := Nat.ne_of_lt (Nat.lt_of_lt_of_le E_b30.lt sz34_0)
      have g_b34_7_1_5_2 : n0 ≤ b34_7_1_5_2 := Nat.le_trans (own_old_le O32) sz34_0
      have sz_b34_7_1_5_2 : h0.size ≤ b34_7_1_5_2 := Nat.le_trans K32.1 sz34_0
      have K34 : Keep h0 T34.heap [] := K32.trans Kc34 (allS (Or.inr sz_b30) all0)
      have E_b4 := (E_b4.keep Kc34)
      have E_r24 := (E_r24.keep Kc34)
      have F_modCount_b4 := (F_modCount_b4.keep Kc34 (ninS ne_b4_b30 nin0))
      have F_elementData_b4 := (F_elementData_b4.keep Kc34 (ninS ne_b4_b30 nin0))
      have F_size_b4 := (F_size_b4.keep Kc34 (ninS ne_b4_b30 nin0))
      have V_b26_5_1_2_5 := (V_b26_5_1_2_5.keep Kc34 (ninS ne_b26_5_1_2_5_b30 nin0))
      have E_b26_5_1_2_5 := (E_b26_5_1_2_5.keep Kc34)
      have E_b30 := (E_b30.keep Kc34)
      have E_b34_7_1_5_2 := fq34_0
      have F_e0_b34_7_1_5_2 := fq34_1
      have F_e1_b34_7_1_5_2 := fq34_2
      have F_base_b30 := fq34_3
      have F_containers_b30 := fq34_4
      have hk36 : ¬ (ct = (0 : Int32)) := by intro z; rw [z] at hc9; exact hc9 (by decide)
      obtain ⟨cq37, kq37, q37a, q37b, q37c⟩ := isOf hZ rfl E_b30
      obtain ⟨_, _, ⟨T37, L37, k37, n37⟩, -, X37, ⟨Lc37, hQ37, l37, y37, z37⟩, st37⟩ := X34.virtualBack hx (y := (⟨"com/example/declared_endpoints/declaredendpoints/model/FieldType", "scalar", "()Z"⟩ : MethodName)) (z := (⟨"com/example/declared_endpoints/declaredendpoints/model/FieldType", "scalar", "()Z"⟩ : MethodName)) hown (mvT hZ (hw _ (List.mem_of_getElem? (i := 91) rfl))) (mvT hZ (hw _ (List.mem_of_getElem? (i := 92) rfl))) (notFace_of_selects (args := #[]) (mvT hZ (hw _ (List.mem_of_getElem? (i := 94) rfl)))) (mvT hZ (hw _ (List.mem_of_getElem? (i := 94) rfl))) (mvT hZ (hw _ (List.mem_of_getElem? (i := 93) rfl))) (by decide) (backOf (W := 0) (rm13n l Z ar0 hw [] b30 w_STRING w_OBJECT w_INT w_MAP w_BIGDECIMAL w_DATE w_LONG w_LIST w_BOOLEAN w_DEFAULTCAPACITY_EMPTY_ELEMENTDATA c_DEFAULTCAPACITY_EMPTY_ELEMENTDATA w_EMPTY_LIST w_EMPTY w_ELEMS c_ELEMS w_MIR b34_7_1_5_2 T34.heap n0 O34 F F_containers_b30 E_b34_7_1_5_2) hZ (hw _ (List.mem_of_getElem? (i := 95) rfl)) (hw _ (List.mem_of_getElem? (i := 29) rfl)) (by decide) (by decide)) q37a q37c (g := (mkF m 98 #[.val (.int p0), .val (.int p1), .val (.int p2), .val (.int bi), .val (.int ct), .val (.ref b4), .val (.ref b30), .val (.int (0 : Int32))] [(.ref b30)])) rfl (by rw [hml]; rfl) (Steps.refl _) (argsL := []) (rest := []) (lenOf pd_0_98 rfl) rfl (by show 2 * 0 + _ ≤ _; exact Nat.le_of_eq rfl) (hb hby at_98) (fun _ _ => ⟨rfl, rfl, (by decide : 7 + 0 ≤ _), (by decide : 38 + 0 ≤ _)⟩)
      dsimp only [Pt.U, Pt.locs, Pt.cells, Pt.slots] at X37 l37 y37 z37 st37 hQ37
      subst l37 y37 z37
      obtain ⟨rfl, N37q, O37, Kc37⟩ := hQ37
      have N37 := Fr.app N34 N37q
      have K37 : Keep h0 T37.heap [] := K34.trans Kc37 all0
      have CH38 := CHv.keep Kc37 all0 C34.1
      have CR38 := CR34.trans (CHr.keep Kc37 all0 C34.1)
      have hk := Nat.le_trans hk Kc37.1
      have E_b4 := (E_b4.keep Kc37)
      have E_r24 := (E_r24.keep Kc37)
      have F_modCount_b4 := (F_modCount_b4.keep Kc37 nin0)
      have F_elementData_b4 := (F_elementData_b4.keep Kc37 nin0)
      have F_size_b4 := (F_size_b4.keep Kc37 nin0)
      have V_b26_5_1_2_5 := (V_b26_5_1_2_5.keep Kc37 nin0)
      have E_b26_5_1_2_5 := (E_b26_5_1_2_5.keep Kc37)
      have E_b30 := (E_b30.keep Kc37)
      have E_b34_7_1_5_2 := (E_b34_7_1_5_2.keep Kc37)
      have F_e0_b34_7_1_5_2 := (F_e0_b34_7_1_5_2.keep Kc37 nin0)
      have F_e1_b34_7_1_5_2 := (F_e1_b34_7_1_5_2.keep Kc37 nin0)
      have F_base_b30 := (F_base_b30.keep Kc37 nin0)
      have F_containers_b30 := (F_containers_b30.keep Kc37 nin0)
      obtain ⟨fs, hr, hrun, hended, hRW⟩ := X37.leaveW hS (hk) (v := some (.int (1 : Int32))) (fun h => by rw [Bd.returns] at h; cases h)
      have CRx : CHr Z EL s.vm s.heap T37.vm T37.heap := by rw [hh]; exact CR38.trans (CHv.at X37 hZ hEL CH38)
      refine ⟨_, _, pre28 _ ?_, hrun, hended, _, _, rfl, ?_, CRx, own_rw_mono hRW (by decide) (by decide)⟩
      · show Steps p.tables e below (T26.setTop (mkF m 46 #[.val (.int p0), .val (.int p1), .val (.int p2), .val (.int bi), .val (.int ct), .val (.ref b4), .unset, .unset] [(.int (2 : Int32)), (.int ct)])) _
        refine XS.icmpYes X26.here hx rfl (pc0 := 46) (pc' := 63) rfl (hb hby at_46) rfl (tlt hc29).1 (by decide) (by decide) ?_
        show Steps p.tables e below (T26.setTop (mkF m 63 #[.val (.int p0), .val (.int p1), .val (.int p2), .val (.int bi), .val (.int ct), .val (.ref b4), .unset, .unset] [])) _
        refine st30 _ ?_
        show Steps p.tables e below (T30.setTop (mkF m 66 #[.val (.int p0), .val (.int p1), .val (.int p2), .val (.int bi), .val (.int ct), .val (.ref b4), .unset, .unset] [(.ref b30)])) _
        refine XS.dup X30.here hx rfl (hb hby at_66) rfl rfl ?_
        show Steps p.tables e below (T30.setTop (mkF m 67 #[.val (.int p0), .val (.int p1), .val (.int p2), .val (.int bi), .val (.int ct), .val (.ref b4), .unset, .unset] [(.ref b30), (.ref b30)])) _
        refine XS.iloadN X30.here hx rfl (hb hby at_67) rfl ?_
        show Steps p.tables e below (T30.setTop (mkF m 68 #[.val (.int p0), .val (.int p1), .val (.int p2), .val (.int bi), .val (.int ct), .val (.ref b4), .unset, .unset] [(.int bi), (.ref b30), (.ref b30)])) _
        refine st32 _ ?_
        show Steps p.tables e below (T32.setTop (mkF m 71 #[.val (.int p0), .val (.int p1), .val (.int p2), .val (.int bi), .val (.int ct), .val (.ref b4), .unset, .unset] [(.ref r32), (.ref b30), (.ref b30)])) _
        refine XS.aload X32.here hx rfl (hb hby at_71) rfl rfl ?_
        show Steps p.tables e below (T32.setTop (mkF m 73 #[.val (.int p0), .val (.int p1), .val (.int p2), .val (.int bi), .val (.int ct), .val (.ref b4), .unset, .unset] [(.ref b4), (.ref r32), (.ref b30), (.ref b30)])) _
        refine st34.trans ?_
        show Steps p.tables e below (T34.setTop (mkF m 76 #[.val (.int p0), .val (.int p1), .val (.int p2), .val (.int bi), .val (.int ct), .val (.ref b4), .unset, .unset] [(.ref b30)])) _
        refine XS.astore X34.here hx rfl (hb hby at_76) rfl rfl (l' := #[.val (.int p0), .val (.int p1), .val (.int p2), .val (.int bi), .val (.int ct), .val (.ref b4), .val (.ref b30), .unset]) rfl ?_
        show Steps p.tables e below (T34.setTop (mkF m 78 #[.val (.int p0), .val (.int p1), .val (.int p2), .val (.int bi), .val (.int ct), .val (.ref b4), .val (.ref b30), .unset] [])) _
        refine XS.iload X34.here hx rfl (hb hby at_78) rfl ?_
        show Steps p.tables e below (T34.setTop (mkF m 80 #[.val (.int p0), .val (.int p1), .val (.int p2), .val (.int bi), .val (.int ct), .val (.ref b4), .val (.ref b30), .unset] [(.int ct)])) _
        refine XS.ifYes X34.here hx rfl (pc0 := 80) (pc' := 93) rfl (hb hby at_80) rfl ((if0 _ _).trans (feq hk36).2) (by decide) (by decide) ?_
        show Steps p.tables e below (T34.setTop (mkF m 93 #[.val (.int p0), .val (.int p1), .val (.int p2), .val (.int bi), .val (.int ct), .val (.ref b4), .val (.ref b30), .unset] [])) _
        refine XS.iconst X34.here hx rfl (hb hby at_93) ?_
        show Steps p.tables e below (T34.setTop (mkF m 94 #[.val (.int p0), .val (.int p1), .val (.int p2), .val (.int bi), .val (.int ct), .val (.ref b4), .val (.ref b30), .unset] [(.int (0 : Int32))])) _
        refine XS.istore X34.here hx rfl (hb hby at_94) rfl (l' := #[.val (.int p0), .val (.int p1), .val (.int p2), .val (.int bi), .val (.int ct), .val (.ref b4), .val (.ref b30), .val (.int (0 : Int32))]) rfl ?_
        show Steps p.tables e below (T34.setTop (mkF m 96 #[.val (.int p0), .val (.int p1), .val (.int p2), .val (.int bi), .val (.int ct), .val (.ref b4), .val (.ref b30), .val (.int (0 : Int32))] [])) _
        refine XS.aload X34.here hx rfl (hb hby at_96) rfl rfl ?_
        show Steps p.tables e below (T34.setTop (mkF m 98 #[.val (.int p0), .val (.int p1), .val (.int p2), .val (.int bi), .val (.int ct), .val (.ref b4), .val (.ref b30), .val (.int (0 : Int32))] [(.ref b30)])) _
        refine st37.trans ?_
        show Steps p.tables e below (T37.setTop (mkF m 101 #[.val (.int p0), .val (.int p1), .val (.int p2), .val (.int bi), .val (.int ct), .val (.ref b4), .val (.ref b30), .val (.int (0 : Int32))] [(.int (0 : Int32))])) _
        refine XS.iload X37.here hx rfl (hb hby at_101) rfl ?_
        show Steps p.tables e below (T37.setTop (mkF m 103 #[.val (.int p0), .val (.int p1), .val (.int p2), .val (.int bi), .val (.int ct), .val (.ref b4), .val (.ref b30), .val (.int (0 : Int32))] [(.int (0 : Int32)), (.int (0 : Int32))])) _
        refine XS.icmpNo X37.here hx rfl (hb hby at_103) rfl (teq (by decide : (0 : Int32) = (0 : Int32))).2 ?_
        show Steps p.tables e below (T37.setTop (mkF m 106 #[.val (.int p0), .val (.int p1), .val (.int p2), .val (.int bi), .val (.int ct), .val (.ref b4), .val (.ref b30), .val (.int (0 : Int32))] [])) _
        refine XS.iconst X37.here hx rfl (hb hby at_106) ?_
        show Steps p.tables e below (T37.setTop (mkF m 107 #[.val (.int p0), .val (.int p1), .val (.int p2), .val (.int bi), .val (.int ct), .val (.ref b4), .val (.ref b30), .val (.int (0 : Int32))] [(.int (1 : Int32))])) _
        refine XS.goto X37.here hx rfl (pc0 := 107) (pc' := 111) rfl (hb hby at_107) (by decide) (by decide) ?_
        show Steps p.tables e below (T37.setTop (mkF m 111 #[.val (.int p0), .val (.int p1), .val (.int p2), .val (.int bi), .val (.int ct), .val (.ref b4), .val (.ref b30), .val (.int (0 : Int32))] [(.int (1 : Int32))])) _
        exact retN X37 hx (t := .boolean) Bd.returns (by simp) (hb hby at_111) hr
      · show Q0 Z p0 p1 p2 w_STRING w_OBJECT w_INT w_MAP w_BIGDECIMAL w_DATE w_LONG w_LIST w_BOOLEAN w_DEFAULTCAPACITY_EMPTY_ELEMENTDATA c_DEFAULTCAPACITY_EMPTY_ELEMENTDATA w_EMPTY_LIST w_EMPTY w_ELEMS c_ELEMS w_MIR  h0 n0 _ T37.heap _
        skip
        exact ⟨rfl, N37⟩
    ·
      obtain ⟨_, _, ⟨T39, L39, k39, n39⟩, -, X39, ⟨Lc39, hQ39, l39, y39, z39⟩, st39⟩ := Jvm.LawKit.callS X26 hx (y := (⟨"com/example/declared_endpoints/declaredendpoints/model/FieldTypeScalarPinLaw", "container", "(I)Lcom/example/declared_endpoints/declaredendpoints/model/FieldType$Container;"⟩ : MethodName)) hown (mvT hZ (hw _ (List.mem_of_getElem? (i := 112) rfl))) (mvT hZ (hw _ (List.mem_of_getElem? (i := 113) rfl))) (mvT hZ (hw _ (List.mem_of_getElem? (i := 32) rfl))) (mvT hZ (hw _ (List.mem_of_getElem? (i := 114) rfl))) (by decide) (backOf (W := 1) (rm15 l Z ar0 hw [] (((p2.toUInt32 >>> ((1 : Int32) &&& 31).toUInt32).toInt32) &&& (1 : Int32)) w_STRING w_OBJECT w_INT w_MAP w_BIGDECIMAL w_DATE w_LONG w_LIST w_BOOLEAN w_DEFAULTCAPACITY_EMPTY_ELEMENTDATA c_DEFAULTCAPACITY_EMPTY_ELEMENTDATA w_EMPTY_LIST w_EMPTY w_ELEMS c_ELEMS w_MIR  T26.heap n0 O26 F ) hZ (hw _ (List.mem_of_getElem? (i := 114) rfl)) (hw _ (List.mem_of_getElem? (i := 32) rfl)) (by decide) (by decide)) (g := (mkF m 56 #[.val (.int p0), .val (.int p1), .val (.int p2), .val (.int bi), .val (.int ct), .val (.ref b4), .unset, .unset] [(.int (((p2.toUInt32 >>> ((1 : Int32) &&& 31).toUInt32).toInt32) &&& (1 : Int32))), (.ref b4)])) rfl (by rw [hml]; rfl) (argsL := [(.int (((p2.toUInt32 >>> ((1 : Int32) &&& 31).toUInt32).toInt32) &&& (1 : Int32)))]) (rest := [(.ref b4)]) (lenOf pd_0_56 rfl) rfl (by show 2 * 0 + _ ≤ _; exact Nat.le_of_eq rfl) (hb hby at_56) (fun _ _ => ⟨rfl, rfl, (by decide : 2 + 0 ≤ _), (by decide : 13 + 0 ≤ _)⟩)
      dsimp only [Pt.U, Pt.locs, Pt.cells, Pt.slots] at X39 l39 y39 z39 st39 hQ39
      subst l39 y39 z39
      obtain ⟨rfl, N39q, O39, Kc39⟩ := hQ39
      have N39 := Fr.app N26 N39q
      have K39 : Keep h0 T39.heap [] := K26.trans Kc39 all0
      have CH40 := CHv.keep Kc39 all0 CH27
      have CR40 := CR27.trans (CHr.keep Kc39 all0 CH27)
      have hk := Nat.le_trans hk Kc39.1
      have E_b4 := (E_b4.keep Kc39)
      have E_r24 := (E_r24.keep Kc39)
      have F_modCount_b4 := (F_modCount_b4.keep Kc39 nin0)
      have F_elementData_b4 := (F_elementData_b4.keep Kc39 nin0)
      have F_size_b4 := (F_size_b4.keep Kc39 nin0)
      have V_b26_5_1_2_5 := (V_b26_5_1_2_5.keep Kc39 nin0)
      have E_b26_5_1_2_5 := (E_b26_5_1_2_5.keep Kc39)
      obtain ⟨r39, hr39⟩ : ∃ z, z = (v15 (((p2.toUInt32 >>> ((1 : Int32) &&& 31).toUInt32).toInt32) &&& (1 : Int32)) w_STRING w_OBJECT w_INT w_MAP w_BIGDECIMAL w_DATE w_LONG w_LIST w_BOOLEAN w_DEFAULTCAPACITY_EMPTY_ELEMENTDATA w_EMPTY_LIST w_EMPTY w_ELEMS w_MIR) := ⟨_, rfl⟩
      rw [← hr39] at st39
      have E_r39 : Exa Z T39.heap r39 "com/example/declared_endpoints/declaredendpoints/model/FieldType$Container" := by rw [hr39]; unfold v15; split; exact E_LIST.ext O39.2; exact E_MAP.ext O39.2
      obtain ⟨cq41, kq41, q41a, q41b, q41c⟩ := isOf hZ rfl E_b4
      obtain ⟨_, _, ⟨T41, L41, k41, n41⟩, -, X41, ⟨Lc41, hQ41, l41, y41, z41⟩, st41⟩ := X39.virtualBack hx (y := (⟨"java/util/ArrayList", "add", "(Ljava/lang/Object;)Z"⟩ : MethodName)) (z := (⟨"java/util/ArrayList", "add", "(Ljava/lang/Object;)Z"⟩ : MethodName)) hown (mvT hZ (hw _ (List.mem_of_getElem? (i := 118) rfl))) (mvT hZ (hw _ (List.mem_of_getElem? (i := 119) rfl))) (notFace_of_selects (args := #[]) (mvT hZ (hw _ (List.mem_of_getElem? (i := 121) rfl)))) (mvT hZ (hw _ (List.mem_of_getElem? (i := 121) rfl))) (mvT hZ (hw _ (List.mem_of_getElem? (i := 120) rfl))) (by decide) (backOf (W := 0) (rm16b l Z ar0 hw [] b4 r39 w_STRING w_OBJECT w_INT w_MAP w_BIGDECIMAL w_DATE w_LONG w_LIST w_BOOLEAN w_DEFAULTCAPACITY_EMPTY_ELEMENTDATA c_DEFAULTCAPACITY_EMPTY_ELEMENTDATA w_EMPTY_LIST w_EMPTY w_ELEMS c_ELEMS w_MIR ((0 : Int32) + (1 : Int32)) b26_5_1_2_5 k5_2_1_5_26 r24 T39.heap n0 O39 F E_b4 F_modCount_b4 F_elementData_b4 F_size_b4 V_b26_5_1_2_5 E_b26_5_1_2_5 Ovr_b26_5_1_2_5 E_r39 g_b4 g_b26_5_1_2_5) hZ (hw _ (List.mem_of_getElem? (i := 122) rfl)) (hw _ (List.mem_of_getElem? (i := 3) rfl)) (by decide) (by decide)) q41a q41c (g := (mkF m 59 #[.val (.int p0), .val (.int p1), .val (.int p2), .val (.int bi), .val (.int ct), .val (.ref b4), .unset, .unset] [(.ref r39), (.ref b4)])) rfl (by rw [hml]; rfl) (Steps.refl _) (argsL := [(.ref r39)]) (rest := []) (lenOf pd_0_59 rfl) rfl (by show 2 * 0 + _ ≤ _; exact Nat.le_of_eq rfl) (hb hby at_59) (fun _ _ => ⟨rfl, rfl, (by decide : 2 + 0 ≤ _), (by decide : 13 + 0 ≤ _)⟩)
      dsimp only [Pt.U, Pt.locs, Pt.cells, Pt.slots] at X41 l41 y41 z41 st41 hQ41
      subst l41 y41 z41
      obtain ⟨rfl, N41q, O41, Kc41, fq41_0, fq41_1, fq41_2, fq41_3⟩ := hQ41
      have N41 := Fr.app N39 N41q
      have K41 : Keep h0 T41.heap [] := K39.trans Kc41 (allS (Or.inr sz_b4) (allS (Or.inr sz_b26_5_1_2_5) all0))
      have CH42 := CHv.keep Kc41 (allS (own_safe_nil _ _ _) (allS (own_safe_nil _ _ _) all0)) CH40
      have CR42 := CR40.trans (CHr.keep Kc41 (allS (own_safe_nil _ _ _) (allS (own_safe_nil _ _ _) all0)) CH40)
      have hk := Nat.le_trans hk Kc41.1
      have E_b4 := (E_b4.keep Kc41)
      have E_r24 := (E_r24.keep Kc41)
      have E_b26_5_1_2_5 := (E_b26_5_1_2_5.keep Kc41)
      have E_r39 := (E_r39.keep Kc41)
      have F_modCount_b4 := fq41_0
      have F_elementData_b4 := fq41_1
      have F_size_b4 := fq41_2
      have V_b26_5_1_2_5 := fq41_3
      obtain ⟨T43, h43, X43, e43, E43, A43, D43, -, st43⟩ := newO X41 hx hZ hown (hw _ (List.mem_of_getElem? (i := 27) rfl)) (hw _ (List.mem_of_getElem? (i := 28) rfl)) (hw _ (List.mem_of_getElem? (i := 29) rfl)) rfl (g := (mkF m 63 #[.val (.int p0), .val (.int p1), .val (.int p2), .val (.int bi), .val (.int ct), .val (.ref b4), .unset, .unset] [])) rfl (hb hby at_63) (by decide) (by decide)
      obtain ⟨b43, g43⟩ : ∃ z, z = T41.heap.size := ⟨_, rfl⟩
      rw [← g43] at A43 D43 st43
      have ne_b4_b43 : b4 ≠ b43 := Nat.ne_of_lt (Nat.lt_of_lt_of_le E_b4.lt (Nat.le_of_eq g43.symm))
      have ne_r24_b43 : r24 ≠ b43 := Nat.ne_of_lt (Nat.lt_of_lt_of_le E_r24.lt (Nat.le_of_eq g43.symm))
      have ne_b26_5_1_2_5_b43 : b26_5_1_2_5 ≠ b43 := Nat.ne_of_lt (Nat.lt_of_lt_of_le E_b26_5_1_2_5.lt (Nat.le_of_eq g43.symm))
      have ne_r39_b43 : r39 ≠ b43 := Nat.ne_of_lt (Nat.lt_of_lt_of_le E_r39.lt (Nat.le_of_eq g43.symm))
      have g_b43 : n0 ≤ b43 := Nat.le_trans (own_old_le O41) (Nat.le_of_eq g43.symm)
      have sz_b43 : h0.size ≤ b43 := Nat.le_trans K41.1 (Nat.le_of_eq g43.symm)
      have O43 : Old Z n0 h43 := O41.ext E43
      have K43 : Keep h0 h43 [] := K41.ext E43
      have CH44 := CHv.ext E43 CH42
      have CR44 := CR42.trans (CHr.ext E43 CH42)
      have hk := Nat.le_trans hk E43.1
      have E_b4 := (E_b4.ext E43)
      have E_r24 := (E_r24.ext E43)
      have E_b26_5_1_2_5 := (E_b26_5_1_2_5.ext E43)
      have E_r39 := (E_r39.ext E43)
      have F_modCount_b4 := (F_modCount_b4.ext E43)
      have F_elementData_b4 := (F_elementData_b4.ext E43)
      have F_size_b4 := (F_size_b4.ext E43)
      have V_b26_5_1_2_5 := (V_b26_5_1_2_5.ext E43)
      have E_b43 := A43
      have F_base_b43 : Fld Z h43 b43 "com/example/declared_endpoints/declaredendpoints/model/FieldType" "base" "Lcom/example/declared_endpoints/declaredendpoints/model/FieldType$Base;" .null := D43 (Or.inr (hw _ (List.mem_of_getElem? (i := 88) rfl))) (ty := (.object "com/example/declared_endpoints/declaredendpoints/model/FieldType$Base")) (by decide)
      have F_containers_b43 : Fld Z h43 b43 "com/example/declared_endpoints/declaredendpoints/model/FieldType" "containers" "Ljava/util/List;" .null := D43 (Or.inr (hw _ (List.mem_of_getElem? (i := 90) rfl))) (ty := (.object "java/util/List")) (by decide)
      obtain ⟨_, _, ⟨T45, L45, k45, n45⟩, -, X45, ⟨Lc45, hQ45, l45, y45, z45⟩, st45⟩ := Jvm.LawKit.callS X43 hx (y := (⟨"com/example/declared_endpoints/declaredendpoints/model/FieldTypeScalarPinLaw", "base", "(I)Lcom/example/declared_endpoints/declaredendpoints/model/FieldType$Base;"⟩ : MethodName)) hown (mvT hZ (hw _ (List.mem_of_getElem? (i := 30) rfl))) (mvT hZ (hw _ (List.mem_of_getElem? (i := 31) rfl))) (mvT hZ (hw _ (List.mem_of_getElem? (i := 32) rfl))) (mvT hZ (hw _ (List.mem_of_getElem? (i := 33) rfl))) (by decide) (backOf (W := 2) (rm5 l Z ar0 hw [] bi w_STRING w_OBJECT w_INT w_MAP w_BIGDECIMAL w_DATE w_LONG w_LIST w_BOOLEAN w_DEFAULTCAPACITY_EMPTY_ELEMENTDATA c_DEFAULTCAPACITY_EMPTY_ELEMENTDATA w_EMPTY_LIST w_EMPTY w_ELEMS c_ELEMS w_MIR  h43 n0 O43 F ) hZ (hw _ (List.mem_of_getElem? (i := 33) rfl)) (hw _ (List.mem_of_getElem? (i := 32) rfl)) (by decide) (by decide)) (g := (mkF m 68 #[.val (.int p0), .val (.int p1), .val (.int p2), .val (.int bi), .val (.int ct), .val (.ref b4), .unset, .unset] [(.int bi), (.ref b43), (.ref b43)])) rfl (by rw [hml]; rfl) (argsL := [(.int bi)]) (rest := [(.ref b43), (.ref b43)]) (lenOf pd_0_68 rfl) rfl (by show 2 * 0 + _ ≤ _; exact Nat.le_of_eq rfl) (hb hby at_68) (fun _ _ => ⟨rfl, e43, (by decide : 3 + 0 ≤ _), (by decide : 15 + 0 ≤ _)⟩)
      dsimp only [Pt.U, Pt.locs, Pt.cells, Pt.slots] at X45 l45 y45 z45 st45 hQ45
      subst l45 y45 z45
      obtain ⟨rfl, N45q, O45, Kc45⟩ := hQ45
      have N45 := Fr.app N41 N45q
      have K45 : Keep h0 T45.heap [] := K43.trans Kc45 all0
      have CH46 := CHv.keep Kc45 all0 CH44
      have CR46 := CR44.trans (CHr.keep Kc45 all0 CH44)
      have hk := Nat.le_trans hk Kc45.1
      have E_b4 := (E_b4.keep Kc45)
      have E_r24 := (E_r24.keep Kc45)
      have E_b26_5_1_2_5 := (E_b26_5_1_2_5.keep Kc45)
      have E_r39 := (E_r39.keep Kc45)
      have F_modCount_b4 := (F_modCount_b4.keep Kc45 nin0)
      have F_elementData_b4 := (F_elementData_b4.keep Kc45 nin0)
      have F_size_b4 := (F_size_b4.keep Kc45 nin0)
      have V_b26_5_1_2_5 := (V_b26_5_1_2_5.keep Kc45 nin0)
      have E_b43 := (E_b43.keep Kc45)
      have F_base_b43 := (F_base_b43.keep Kc45 nin0)
      have F_containers_b43 := (F_containers_b43.keep Kc45 nin0)
      obtain ⟨r45, hr45⟩ : ∃ z, z = (v5 bi w_STRING w_OBJECT w_INT w_MAP w_BIGDECIMAL w_DATE w_LONG w_LIST w_BOOLEAN w_DEFAULTCAPACITY_EMPTY_ELEMENTDATA w_EMPTY_LIST w_EMPTY w_ELEMS w_MIR) := ⟨_, rfl⟩
      rw [← hr45] at st45
      obtain ⟨_, _, ⟨T47, L47, k47, n47⟩, -, X47, hSi47, hgr47, ⟨Lc47, hQ47, l47, y47, z47, C47⟩, st47⟩ := X45.specialBackS hx (y := (⟨"com/example/declared_endpoints/declaredendpoints/model/FieldType", "<init>", "(Lcom/example/declared_endpoints/declaredendpoints/model/FieldType$Base;Ljava/util/List;)V"⟩ : MethodName)) rfl hown (mvT hZ (hw _ (List.mem_of_getElem? (i := 37) rfl))) (mvT hZ (hw _ (List.mem_of_getElem? (i := 38) rfl))) (mvT hZ (hw _ (List.mem_of_getElem? (i := 39) rfl))) (by decide) (backOfSH (W := 1) (rm6_2 l Z ar0 hw [] b43 r45 b4 w_STRING w_OBJECT w_INT w_MAP w_BIGDECIMAL w_DATE w_LONG w_LIST w_BOOLEAN w_DEFAULTCAPACITY_EMPTY_ELEMENTDATA c_DEFAULTCAPACITY_EMPTY_ELEMENTDATA w_EMPTY_LIST w_EMPTY w_ELEMS c_ELEMS w_MIR (.int (((0 : Int32) + (1 : Int32)) + (1 : Int32))) b26_5_1_2_5 k5_2_1_5_26 r24 r39 .null .null T45.heap n0 O45 F E_b43 E_b4 F_modCount_b4 F_elementData_b4 F_size_b4 V_b26_5_1_2_5 E_b26_5_1_2_5 Ovr_b26_5_1_2_5 E_r24 E_r39 F_base_b43 g_b43 F_containers_b43) hZ (hw _ (List.mem_of_getElem? (i := 39) rfl)) (hw _ (List.mem_of_getElem? (i := 29) rfl)) (by decide) (by decide) hEL CH46) (g := (mkF m 73 #[.val (.int p0), .val (.int p1), .val (.int p2), .val (.int bi), .val (.int ct), .val (.ref b4), .unset, .unset] [(.ref b4), (.ref r45), (.ref b43), (.ref b43)])) rfl (by rw [hml]; rfl) (Steps.refl _) (a := b43) (argsL := [(.ref r45), (.ref b4)]) (rest := [(.ref b43)]) (lenOf pd_0_73 rfl) rfl (by show 2 * 0 + _ ≤ _; exact Nat.le_of_eq rfl) (hb hby at_73) (fun _ _ => ⟨rfl, rfl, (by decide : 3 + 4 ≤ _), (by decide : 15 + 24 ≤ _)⟩)
      dsimp only [Pt.U, Pt.locs, Pt.cells, Pt.slots] at X47 l47 y47 z47 st47 hQ47 C47 hSi47 hgr47
      subst l47 y47 z47
      have hkT47 := hk
      obtain ⟨X47, hS, hZ, hown⟩ := rebS hS hkT47 X47 hSi47 hgr47 hZ hown
      have hk := Nat.le_refl T47.heap.size
      have CR47 := CR46.trans C47
      obtain ⟨b47_7_1_5_2, rfl, N47q, O47, Kc47, sz47_0, fq47_0, fq47_1, fq47_2, fq47_3, fq47_4⟩ := hQ47
      have N47 := Fr.app N45 N47q
      have ne_b4_b47_7_1_5_2 : b4 ≠ b47_7_1_5_2 := Nat.ne_of_lt (Nat.lt_of_lt_of_le E_b4.lt sz47_0)
      have ne_r24_b47_7_1_5_2 : r24 ≠ b47_7_1_5_2 := Nat.ne_of_lt (Nat.lt_of_lt_of_le E_r24.lt sz47_0)
      have ne_b26_5_1_2_5_b47_7_1_5_2 : b26_5_1_2_5 ≠ b47_7_1_5_2 := Nat.ne_of_lt (Nat.lt_of_lt_of_le E_b26_5_1_2_5.lt sz47_0)
      have ne_r39_b47_7_1_5_2 : r39 ≠ b47_7_1_5_2 := Nat.ne_of_lt (Nat.lt_of_lt_of_le E_r39.lt sz47_0)
      have ne_b43_b47_7_1_5_2 : b43 ≠ b47_7_1_5_2 := Nat.ne_of_lt (Nat.lt_of_lt_of_le E_b43.lt sz47_0)
      have g_b47_7_1_5_2 : n0 ≤ b47_7_1_5_2 := Nat.le_trans (own_old_le O45) sz47_0
      have sz_b47_7_1_5_2 : h0.size ≤ b47_7_1_5_2 := Nat.le_trans K45.1 sz47_0
      have K47 : Keep h0 T47.heap [] := K45.trans Kc47 (allS (Or.inr sz_b43) all0)
      have E_b4 := (E_b4.keep Kc47)
      have E_r24 := (E_r24.keep Kc47)
      have E_b26_5_1_2_5 := (E_b26_5_1_2_5.keep Kc47)
      have E_r39 := (E_r39.keep Kc47)
      have F_modCount_b4 := (F_modCount_b4.keep Kc47 (ninS ne_b4_b43 nin0))
      have F_elementData_b4 := (F_elementData_b4.keep Kc47 (ninS ne_b4_b43 nin0))
      have F_size_b4 := (F_size_b4.keep Kc47 (ninS ne_b4_b43 nin0))
      have V_b26_5_1_2_5 := (V_b26_5_1_2_5.keep Kc47 (ninS ne_b26_5_1_2_5_b43 nin0))
      have E_b43 := (E_b43.keep Kc47)
      have E_b47_7_1_5_2 := fq47_0
      have F_e0_b47_7_1_5_2 := fq47_1
      have F_e1_b47_7_1_5_2 := fq47_2
      have F_base_b43 := fq47_3
      have F_containers_b43 := fq47_4
      have hk49 : ¬ (ct = (0 : Int32)) := by intro z; rw [z] at hc9; exact hc9 (by decide)
      obtain ⟨cq50, kq50, q50a, q50b, q50c⟩ := isOf hZ rfl E_b43
      obtain ⟨_, _, ⟨T50, L50, k50, n50⟩, -, X50, ⟨Lc50, hQ50, l50, y50, z50⟩, st50⟩ := X47.virtualBack hx (y := (⟨"com/example/declared_endpoints/declaredendpoints/model/FieldType", "scalar", "()Z"⟩ : MethodName)) (z := (⟨"com/example/declared_endpoints/declaredendpoints/model/FieldType", "scalar", "()Z"⟩ : MethodName)) hown (mvT hZ (hw _ (List.mem_of_getElem? (i := 91) rfl))) (mvT hZ (hw _ (List.mem_of_getElem? (i := 92) rfl))) (notFace_of_selects (args := #[]) (mvT hZ (hw _ (List.mem_of_getElem? (i := 94) rfl)))) (mvT hZ (hw _ (List.mem_of_getElem? (i := 94) rfl))) (mvT hZ (hw _ (List.mem_of_getElem? (i := 93) rfl))) (by decide) (backOf (W := 0) (rm13n l Z ar0 hw [] b43 w_STRING w_OBJECT w_INT w_MAP w_BIGDECIMAL w_DATE w_LONG w_LIST w_BOOLEAN w_DEFAULTCAPACITY_EMPTY_ELEMENTDATA c_DEFAULTCAPACITY_EMPTY_ELEMENTDATA w_EMPTY_LIST w_EMPTY w_ELEMS c_ELEMS w_MIR b47_7_1_5_2 T47.heap n0 O47 F F_containers_b43 E_b47_7_1_5_2) hZ (hw _ (List.mem_of_getElem? (i := 95) rfl)) (hw _ (List.mem_of_getElem? (i := 29) rfl)) (by decide) (by decide)) q50a q50c (g := (mkF m 98 #[.val (.int p0), .val (.int p1), .val (.int p2), .val (.int bi), .val (.int ct), .val (.ref b4), .val (.ref b43), .val (.int (0 : Int32))] [(.ref b43)])) rfl (by rw [hml]; rfl) (Steps.refl _) (argsL := []) (rest := []) (lenOf pd_0_98 rfl) rfl (by show 2 * 0 + _ ≤ _; exact Nat.le_of_eq rfl) (hb hby at_98) (fun _ _ => ⟨rfl, rfl, (by decide : 7 + 0 ≤ _), (by decide : 39 + 0 ≤ _)⟩)
      dsimp only [Pt.U, Pt.locs, Pt.cells, Pt.slots] at X50 l50 y50 z50 st50 hQ50
      subst l50 y50 z50
      obtain ⟨rfl, N50q, O50, Kc50⟩ := hQ50
      have N50 := Fr.app N47 N50q
      have K50 : Keep h0 T50.heap [] := K47.trans Kc50 all0
      have CH51 := CHv.keep Kc50 all0 C47.1
      have CR51 := CR47.trans (CHr.keep Kc50 all0 C47.1)
      have hk := Nat.le_trans hk Kc50.1
      have E_b4 := (E_b4.keep Kc50)
      have E_r24 := (E_r24.keep Kc50)
      have E_b26_5_1_2_5 := (E_b26_5_1_2_5.keep Kc50)
      have E_r39 := (E_r39.keep Kc50)
      have F_modCount_b4 := (F_modCount_b4.keep Kc50 nin0)
      have F_elementData_b4 := (F_elementData_b4.keep Kc50 nin0)
      have F_size_b4 := (F_size_b4.keep Kc50 nin0)
      have V_b26_5_1_2_5 := (V_b26_5_1_2_5.keep Kc50 nin0)
      have E_b43 := (E_b43.keep Kc50)
      have E_b47_7_1_5_2 := (E_b47_7_1_5_2.keep Kc50)
      have F_e0_b47_7_1_5_2 := (F_e0_b47_7_1_5_2.keep Kc50 nin0)
      have F_e1_b47_7_1_5_2 := (F_e1_b47_7_1_5_2.keep Kc50 nin0)
      have F_base_b43 := (F_base_b43.keep Kc50 nin0)
      have F_containers_b43 := (F_containers_b43.keep Kc50 nin0)
      obtain ⟨fs, hr, hrun, hended, hRW⟩ := X50.leaveW hS (hk) (v := some (.int (1 : Int32))) (fun h => by rw [Bd.returns] at h; cases h)
      have CRx : CHr Z EL s.vm s.heap T50.vm T50.heap := by rw [hh]; exact CR51.trans (CHv.at X50 hZ hEL CH51)
      refine ⟨_, _, pre28 _ ?_, hrun, hended, _, _, rfl, ?_, CRx, own_rw_mono hRW (by decide) (by decide)⟩
      · show Steps p.tables e below (T26.setTop (mkF m 46 #[.val (.int p0), .val (.int p1), .val (.int p2), .val (.int bi), .val (.int ct), .val (.ref b4), .unset, .unset] [(.int (2 : Int32)), (.int ct)])) _
        refine XS.icmpNo X26.here hx rfl (hb hby at_46) rfl (flt hc29).1 ?_
        show Steps p.tables e below (T26.setTop (mkF m 49 #[.val (.int p0), .val (.int p1), .val (.int p2), .val (.int bi), .val (.int ct), .val (.ref b4), .unset, .unset] [])) _
        refine XS.aload X26.here hx rfl (hb hby at_49) rfl rfl ?_
        show Steps p.tables e below (T26.setTop (mkF m 51 #[.val (.int p0), .val (.int p1), .val (.int p2), .val (.int bi), .val (.int ct), .val (.ref b4), .unset, .unset] [(.ref b4)])) _
        refine XS.iloadN X26.here hx rfl (hb hby at_51) rfl ?_
        show Steps p.tables e below (T26.setTop (mkF m 52 #[.val (.int p0), .val (.int p1), .val (.int p2), .val (.int bi), .val (.int ct), .val (.ref b4), .unset, .unset] [(.int p2), (.ref b4)])) _
        refine XS.iconst X26.here hx rfl (hb hby at_52) ?_
        show Steps p.tables e below (T26.setTop (mkF m 53 #[.val (.int p0), .val (.int p1), .val (.int p2), .val (.int bi), .val (.int ct), .val (.ref b4), .unset, .unset] [(.int (1 : Int32)), (.int p2), (.ref b4)])) _
        refine XS.iushr X26.here hx rfl (hb hby at_53) rfl ?_
        show Steps p.tables e below (T26.setTop (mkF m 54 #[.val (.int p0), .val (.int p1), .val (.int p2), .val (.int bi), .val (.int ct), .val (.ref b4), .unset, .unset] [(.int ((p2.toUInt32 >>> ((1 : Int32) &&& 31).toUInt32).toInt32)), (.ref b4)])) _
        refine XS.iconst X26.here hx rfl (hb hby at_54) ?_
        show Steps p.tables e below (T26.setTop (mkF m 55 #[.val (.int p0), .val (.int p1), .val (.int p2), .val (.int bi), .val (.int ct), .val (.ref b4), .unset, .unset] [(.int (1 : Int32)), (.int ((p2.toUInt32 >>> ((1 : Int32) &&& 31).toUInt32).toInt32)), (.ref b4)])) _
        refine XS.iand X26.here hx rfl (hb hby at_55) rfl ?_
        show Steps p.tables e below (T26.setTop (mkF m 56 #[.val (.int p0), .val (.int p1), .val (.int p2), .val (.int bi), .val (.int ct), .val (.ref b4), .unset, .unset] [(.int (((p2.toUInt32 >>> ((1 : Int32) &&& 31).toUInt32).toInt32) &&& (1 : Int32))), (.ref b4)])) _
        refine st39 _ ?_
        show Steps p.tables e below (T39.setTop (mkF m 59 #[.val (.int p0), .val (.int p1), .val (.int p2), .val (.int bi), .val (.int ct), .val (.ref b4), .unset, .unset] [(.ref r39), (.ref b4)])) _
        refine st41.trans ?_
        show Steps p.tables e below (T41.setTop (mkF m 62 #[.val (.int p0), .val (.int p1), .val (.int p2), .val (.int bi), .val (.int ct), .val (.ref b4), .unset, .unset] [(.int (1 : Int32))])) _
        refine XS.pop X41.here hx rfl (hb hby at_62) rfl rfl ?_
        show Steps p.tables e below (T41.setTop (mkF m 63 #[.val (.int p0), .val (.int p1), .val (.int p2), .val (.int bi), .val (.int ct), .val (.ref b4), .unset, .unset] [])) _
        refine st43 _ ?_
        show Steps p.tables e below (T43.setTop (mkF m 66 #[.val (.int p0), .val (.int p1), .val (.int p2), .val (.int bi), .val (.int ct), .val (.ref b4), .unset, .unset] [(.ref b43)])) _
        refine XS.dup X43.here hx rfl (hb hby at_66) rfl rfl ?_
        show Steps p.tables e below (T43.setTop (mkF m 67 #[.val (.int p0), .val (.int p1), .val (.int p2), .val (.int bi), .val (.int ct), .val (.ref b4), .unset, .unset] [(.ref b43), (.ref b43)])) _
        refine XS.iloadN X43.here hx rfl (hb hby at_67) rfl ?_
        show Steps p.tables e below (T43.setTop (mkF m 68 #[.val (.int p0), .val (.int p1), .val (.int p2), .val (.int bi), .val (.int ct), .val (.ref b4), .unset, .unset] [(.int bi), (.ref b43), (.ref b43)])) _
        refine st45 _ ?_
        show Steps p.tables e below (T45.setTop (mkF m 71 #[.val (.int p0), .val (.int p1), .val (.int p2), .val (.int bi), .val (.int ct), .val (.ref b4), .unset, .unset] [(.ref r45), (.ref b43), (.ref b43)])) _
        refine XS.aload X45.here hx rfl (hb hby at_71) rfl rfl ?_
        show Steps p.tables e below (T45.setTop (mkF m 73 #[.val (.int p0), .val (.int p1), .val (.int p2), .val (.int bi), .val (.int ct), .val (.ref b4), .unset, .unset] [(.ref b4), (.ref r45), (.ref b43), (.ref b43)])) _
        refine st47.trans ?_
        show Steps p.tables e below (T47.setTop (mkF m 76 #[.val (.int p0), .val (.int p1), .val (.int p2), .val (.int bi), .val (.int ct), .val (.ref b4), .unset, .unset] [(.ref b43)])) _
        refine XS.astore X47.here hx rfl (hb hby at_76) rfl rfl (l' := #[.val (.int p0), .val (.int p1), .val (.int p2), .val (.int bi), .val (.int ct), .val (.ref b4), .val (.ref b43), .unset]) rfl ?_
        show Steps p.tables e below (T47.setTop (mkF m 78 #[.val (.int p0), .val (.int p1), .val (.int p2), .val (.int bi), .val (.int ct), .val (.ref b4), .val (.ref b43), .unset] [])) _
        refine XS.iload X47.here hx rfl (hb hby at_78) rfl ?_
        show Steps p.tables e below (T47.setTop (mkF m 80 #[.val (.int p0), .val (.int p1), .val (.int p2), .val (.int bi), .val (.int ct), .val (.ref b4), .val (.ref b43), .unset] [(.int ct)])) _
        refine XS.ifYes X47.here hx rfl (pc0 := 80) (pc' := 93) rfl (hb hby at_80) rfl ((if0 _ _).trans (feq hk49).2) (by decide) (by decide) ?_
        show Steps p.tables e below (T47.setTop (mkF m 93 #[.val (.int p0), .val (.int p1), .val (.int p2), .val (.int bi), .val (.int ct), .val (.ref b4), .val (.ref b43), .unset] [])) _
        refine XS.iconst X47.here hx rfl (hb hby at_93) ?_
        show Steps p.tables e below (T47.setTop (mkF m 94 #[.val (.int p0), .val (.int p1), .val (.int p2), .val (.int bi), .val (.int ct), .val (.ref b4), .val (.ref b43), .unset] [(.int (0 : Int32))])) _
        refine XS.istore X47.here hx rfl (hb hby at_94) rfl (l' := #[.val (.int p0), .val (.int p1), .val (.int p2), .val (.int bi), .val (.int ct), .val (.ref b4), .val (.ref b43), .val (.int (0 : Int32))]) rfl ?_
        show Steps p.tables e below (T47.setTop (mkF m 96 #[.val (.int p0), .val (.int p1), .val (.int p2), .val (.int bi), .val (.int ct), .val (.ref b4), .val (.ref b43), .val (.int (0 : Int32))] [])) _
        refine XS.aload X47.here hx rfl (hb hby at_96) rfl rfl ?_
        show Steps p.tables e below (T47.setTop (mkF m 98 #[.val (.int p0), .val (.int p1), .val (.int p2), .val (.int bi), .val (.int ct), .val (.ref b4), .val (.ref b43), .val (.int (0 : Int32))] [(.ref b43)])) _
        refine st50.trans ?_
        show Steps p.tables e below (T50.setTop (mkF m 101 #[.val (.int p0), .val (.int p1), .val (.int p2), .val (.int bi), .val (.int ct), .val (.ref b4), .val (.ref b43), .val (.int (0 : Int32))] [(.int (0 : Int32))])) _
        refine XS.iload X50.here hx rfl (hb hby at_101) rfl ?_
        show Steps p.tables e below (T50.setTop (mkF m 103 #[.val (.int p0), .val (.int p1), .val (.int p2), .val (.int bi), .val (.int ct), .val (.ref b4), .val (.ref b43), .val (.int (0 : Int32))] [(.int (0 : Int32)), (.int (0 : Int32))])) _
        refine XS.icmpNo X50.here hx rfl (hb hby at_103) rfl (teq (by decide : (0 : Int32) = (0 : Int32))).2 ?_
        show Steps p.tables e below (T50.setTop (mkF m 106 #[.val (.int p0), .val (.int p1), .val (.int p2), .val (.int bi), .val (.int ct), .val (.ref b4), .val (.ref b43), .val (.int (0 : Int32))] [])) _
        refine XS.iconst X50.here hx rfl (hb hby at_106) ?_
        show Steps p.tables e below (T50.setTop (mkF m 107 #[.val (.int p0), .val (.int p1), .val (.int p2), .val (.int bi), .val (.int ct), .val (.ref b4), .val (.ref b43), .val (.int (0 : Int32))] [(.int (1 : Int32))])) _
        refine XS.goto X50.here hx rfl (pc0 := 107) (pc' := 111) rfl (hb hby at_107) (by decide) (by decide) ?_
        show Steps p.tables e below (T50.setTop (mkF m 111 #[.val (.int p0), .val (.int p1), .val (.int p2), .val (.int bi), .val (.int ct), .val (.ref b4), .val (.ref b43), .val (.int (0 : Int32))] [(.int (1 : Int32))])) _
        exact retN X50 hx (t := .boolean) Bd.returns (by simp) (hb hby at_111) hr
      · show Q0 Z p0 p1 p2 w_STRING w_OBJECT w_INT w_MAP w_BIGDECIMAL w_DATE w_LONG w_LIST w_BOOLEAN w_DEFAULTCAPACITY_EMPTY_ELEMENTDATA c_DEFAULTCAPACITY_EMPTY_ELEMENTDATA w_EMPTY_LIST w_EMPTY w_ELEMS c_ELEMS w_MIR  h0 n0 _ T50.heap _
        skip
        exact ⟨rfl, N50⟩

set_option maxRecDepth 65536 in
set_option maxHeartbeats 40000000 in
theorem comes_1 {Post : Tables → Env → Array Value → State → Outcome → State → Prop} (hpost : ∀ tb e args s v u, (limb_1_1.after args s (.returned v) u = true ∧ limb_1_2.after args s (.returned v) u = true ∧ True) → ReturnedEndW s (.returned v) u (Jvm.fieldLocs frame_1_writes args s ++ Jvm.arrayLocs frame_1_arrays args s ++ Jvm.staticLocs frame_1_statics s) 24 1152 → Post tb e args s (.returned v) u) :
    ArmFor flags0 classFile x code maxLocals ret World_1 tables_1 room_1 Calls_1 rest_1 Pre_1 Post := by
  intro l hfl _ _ p e ha hc hk s m args below hf hA hF happ hP
  obtain ⟨hcalls, hrest, hpre⟩ := hP
  obtain ⟨-, -, -, hnamed, -, -, -, hat⟩ := (Spec.applies_iff hf).mp happ
  obtain ⟨hg, hn⟩ := and_e (Cond.before_iff.mp (show (Jvm.Cond.and given_1 narrow_1).before args s = true from hpre))
  obtain ⟨g0, hg⟩ := and_e hg
  obtain ⟨w0, w1, w2, rfl⟩ : ∃ w0 w1 w2 : Value, args = #[w0, w1, w2] := by
    have hs : args.size = 3 := by simpa [Cond.value, given_1] using g0
    obtain ⟨L⟩ := args
    match L, hs with
    | [w0, w1, w2], _ => exact ⟨w0, w1, w2, rfl⟩
  have hw := fun d (hd : d ∈ tables_1) => atoms_spec (ws := Jvm.Cond.code x code maxLocals ret :: tables_1) hat d (List.mem_cons_of_mem _ hd)
  obtain ⟨g1, hg⟩ := and_e hg
  obtain ⟨i0, ei0⟩ := is_v g1
  obtain rfl : w0 = (.int i0) := Option.some.inj ei0
  obtain ⟨g2, hg⟩ := and_e hg
  obtain ⟨i1, ei1⟩ := is_v g2
  obtain rfl : w1 = (.int i1) := Option.some.inj ei1
  obtain ⟨i2, ei2⟩ := is_v hg
  obtain rfl : w2 = (.int i2) := Option.some.inj ei2
  obtain ⟨c0, hn⟩ := and_e hn
  obtain ⟨c1, hn⟩ := and_e hn
  obtain ⟨c2, hn⟩ := and_e hn
  obtain ⟨c3, hn⟩ := and_e hn
  obtain ⟨c4, hn⟩ := and_e hn
  obtain ⟨c5, hn⟩ := and_e hn
  obtain ⟨c6, hn⟩ := and_e hn
  obtain ⟨c7, hn⟩ := and_e hn
  obtain ⟨c8, hn⟩ := and_e hn
  obtain ⟨c9, hn⟩ := and_e hn
  obtain ⟨c10, hn⟩ := and_e hn
  obtain ⟨c11, hn⟩ := and_e hn
  obtain ⟨c12, hn⟩ := and_e hn
  obtain ⟨c13, hn⟩ := and_e hn
  obtain ⟨c14, hn⟩ := and_e hn
  have c15 := hn
  obtain ⟨w_STRING, ev_STRING⟩ := exa_v c0
  have S_STRING := Sta.start ev_STRING (Or.inr ⟨(hw _ (List.mem_of_getElem? (i := 35) rfl)), (hw _ (List.mem_of_getElem? (i := 36) rfl))⟩)
  have E_STRING := Exa.start ev_STRING c0
  obtain ⟨w_OBJECT, ev_OBJECT⟩ := exa_v c1
  have S_OBJECT := Sta.start ev_OBJECT (Or.inr ⟨(hw _ (List.mem_of_getElem? (i := 35) rfl)), (hw _ (List.mem_of_getElem? (i := 109) rfl))⟩)
  have E_OBJECT := Exa.start ev_OBJECT c1
  obtain ⟨w_INT, ev_INT⟩ := exa_v c4
  have S_INT := Sta.start ev_INT (Or.inr ⟨(hw _ (List.mem_of_getElem? (i := 35) rfl)), (hw _ (List.mem_of_getElem? (i := 111) rfl))⟩)
  have E_INT := Exa.start ev_INT c4
  obtain ⟨w_MAP, ev_MAP⟩ := exa_v c6
  have S_MAP := Sta.start ev_MAP (Or.inr ⟨(hw _ (List.mem_of_getElem? (i := 116) rfl)), (hw _ (List.mem_of_getElem? (i := 117) rfl))⟩)
  have E_MAP := Exa.start ev_MAP c6
  obtain ⟨w_BIGDECIMAL, ev_BIGDECIMAL⟩ := exa_v c7
  have S_BIGDECIMAL := Sta.start ev_BIGDECIMAL (Or.inr ⟨(hw _ (List.mem_of_getElem? (i := 35) rfl)), (hw _ (List.mem_of_getElem? (i := 148) rfl))⟩)
  have E_BIGDECIMAL := Exa.start ev_BIGDECIMAL c7
  obtain ⟨w_DATE, ev_DATE⟩ := exa_v c8
  have S_DATE := Sta.start ev_DATE (Or.inr ⟨(hw _ (List.mem_of_getElem? (i := 35) rfl)), (hw _ (List.mem_of_getElem? (i := 217) rfl))⟩)
  have E_DATE := Exa.start ev_DATE c8
  obtain ⟨w_LONG, ev_LONG⟩ := exa_v c9
  have S_LONG := Sta.start ev_LONG (Or.inr ⟨(hw _ (List.mem_of_getElem? (i := 35) rfl)), (hw _ (List.mem_of_getElem? (i := 223) rfl))⟩)
  have E_LONG := Exa.start ev_LONG c9
  obtain ⟨w_LIST, ev_LIST⟩ := exa_v c12
  have S_LIST := Sta.start ev_LIST (Or.inr ⟨(hw _ (List.mem_of_getElem? (i := 116) rfl)), (hw _ (List.mem_of_getElem? (i := 225) rfl))⟩)
  have E_LIST := Exa.start ev_LIST c12
  obtain ⟨w_BOOLEAN, ev_BOOLEAN⟩ := exa_v c13
  have S_BOOLEAN := Sta.start ev_BOOLEAN (Or.inr ⟨(hw _ (List.mem_of_getElem? (i := 35) rfl)), (hw _ (List.mem_of_getElem? (i := 227) rfl))⟩)
  have E_BOOLEAN := Exa.start ev_BOOLEAN c13
  have F_ordinal_STRING := own_fld ev_STRING c2
  have F_ordinal_OBJECT := own_fld ev_OBJECT c3
  have F_ordinal_INT := own_fld ev_INT c5
  have F_ordinal_LONG := own_fld ev_LONG c10
  have F_ordinal_BIGDECIMAL := own_fld ev_BIGDECIMAL c11
  have F_ordinal_BOOLEAN := own_fld ev_BOOLEAN c14
  have F_ordinal_DATE := own_fld ev_DATE c15
  obtain ⟨hsets, hown0⟩ := atoms_of _ (rest_1_c_eq ▸ (show rest_1_c.before _ s = true from hrest))
  obtain ⟨w_DEFAULTCAPACITY_EMPTY_ELEMENTDATA, ev_DEFAULTCAPACITY_EMPTY_ELEMENTDATA⟩ := exa_v (Cond.before_iff.mp (hsets _ (List.mem_of_getElem? (i := 7) rfl)))
  have S_DEFAULTCAPACITY_EMPTY_ELEMENTDATA := Sta.start ev_DEFAULTCAPACITY_EMPTY_ELEMENTDATA (Or.inr ⟨(hw _ (List.mem_of_getElem? (i := 3) rfl)), (hsets _ (List.mem_of_getElem? (i := 2) rfl))⟩)
  have E_DEFAULTCAPACITY_EMPTY_ELEMENTDATA := Exa.start ev_DEFAULTCAPACITY_EMPTY_ELEMENTDATA (Cond.before_iff.mp (hsets _ (List.mem_of_getElem? (i := 7) rfl)))
  obtain ⟨c_DEFAULTCAPACITY_EMPTY_ELEMENTDATA, A_DEFAULTCAPACITY_EMPTY_ELEMENTDATA⟩ := Arr.start ev_DEFAULTCAPACITY_EMPTY_ELEMENTDATA (Cond.before_iff.mp (hsets _ (List.mem_of_getElem? (i := 6) rfl)))
  have L_DEFAULTCAPACITY_EMPTY_ELEMENTDATA := own_len ev_DEFAULTCAPACITY_EMPTY_ELEMENTDATA A_DEFAULTCAPACITY_EMPTY_ELEMENTDATA (k := 0) (by decide) (Cond.before_iff.mp (hsets _ (List.mem_of_getElem? (i := 8) rfl)))
  obtain ⟨w_EMPTY_LIST, ev_EMPTY_LIST⟩ := exa_v (Cond.before_iff.mp (hsets _ (List.mem_of_getElem? (i := 24) rfl)))
  have S_EMPTY_LIST := Sta.start ev_EMPTY_LIST (Or.inl (hsets _ (List.mem_of_getElem? (i := 23) rfl)))
  have E_EMPTY_LIST := Exa.start ev_EMPTY_LIST (Cond.before_iff.mp (hsets _ (List.mem_of_getElem? (i := 24) rfl)))
  obtain ⟨w_EMPTY, ev_EMPTY⟩ := exa_v (Cond.before_iff.mp (hsets _ (List.mem_of_getElem? (i := 18) rfl)))
  have S_EMPTY := Sta.start ev_EMPTY (Or.inl (hsets _ (List.mem_of_getElem? (i := 17) rfl)))
  have E_EMPTY := Exa.start ev_EMPTY (Cond.before_iff.mp (hsets _ (List.mem_of_getElem? (i := 18) rfl)))
  obtain ⟨w_ELEMS, ev_ELEMS⟩ := arr_v (Cond.before_iff.mp (hsets _ (List.mem_of_getElem? (i := 12) rfl)))
  have F_elements_EMPTY_LIST := Fld.start ((fld_at ev_EMPTY_LIST).symm.trans ev_ELEMS)
  obtain ⟨c_ELEMS, A_ELEMS⟩ := Arr.start ev_ELEMS (Cond.before_iff.mp (hsets _ (List.mem_of_getElem? (i := 12) rfl)))
  have L_ELEMS := own_len ev_ELEMS A_ELEMS (k := 0) (by decide) (Cond.before_iff.mp (hsets _ (List.mem_of_getElem? (i := 14) rfl)))
  obtain ⟨mc, mk, w_MIR, mm1, mm2, mm3, -⟩ := hcalls.1
  have M_MIR : MirW s "[Ljava/lang/Object;" w_MIR := ⟨mc, mk, mm1, mm2, mm3⟩
  have F : Fx s s.heap w_STRING w_OBJECT w_INT w_MAP w_BIGDECIMAL w_DATE w_LONG w_LIST w_BOOLEAN w_DEFAULTCAPACITY_EMPTY_ELEMENTDATA c_DEFAULTCAPACITY_EMPTY_ELEMENTDATA w_EMPTY_LIST w_EMPTY w_ELEMS c_ELEMS w_MIR := ⟨S_STRING, E_STRING, S_OBJECT, E_OBJECT, F_ordinal_STRING, F_ordinal_OBJECT, S_INT, E_INT, F_ordinal_INT, S_MAP, E_MAP, S_BIGDECIMAL, E_BIGDECIMAL, S_DATE, E_DATE, S_LONG, E_LONG, F_ordinal_LONG, F_ordinal_BIGDECIMAL, S_LIST, E_LIST, S_BOOLEAN, E_BOOLEAN, F_ordinal_BOOLEAN, F_ordinal_DATE, S_DEFAULTCAPACITY_EMPTY_ELEMENTDATA, E_DEFAULTCAPACITY_EMPTY_ELEMENTDATA, A_DEFAULTCAPACITY_EMPTY_ELEMENTDATA, L_DEFAULTCAPACITY_EMPTY_ELEMENTDATA, S_EMPTY_LIST, E_EMPTY_LIST, S_EMPTY, E_EMPTY, F_elements_EMPTY_LIST, A_ELEMS, L_ELEMS, M_MIR⟩

  obtain ⟨n, o, h1, h2, h3, _, L, rfl, ⟨rfl, N⟩, -, hq⟩ := rm0 l s _ hw tables_1 i0 i1 i2 w_STRING w_OBJECT w_INT w_MAP w_BIGDECIMAL w_DATE w_LONG w_LIST w_BOOLEAN w_DEFAULTCAPACITY_EMPTY_ELEMENTDATA c_DEFAULTCAPACITY_EMPTY_ELEMENTDATA w_EMPTY_LIST w_EMPTY w_ELEMS c_ELEMS w_MIR s.heap s.heap.size (Old.start s) F  p e ha hc hk s m _ below hf ((Spec.applies_iff_loose hf).mp happ).1 ⟨rfl, State.Warmed39.refl s, rfl, fun p hp => by cases hp⟩ trivial
  refine ⟨n, _, h1, h2, h3, hpost _ _ _ _ _ _ ⟨Cond.after_iff.mpr rfl, Cond.after_iff.mpr (eq_i res_at (Term.int_eval (1)) rfl), trivial⟩ ⟨hq.1, hq.2.1, hq.2.2.1, (hq.2.2.2.sift fun y hy => Or.inr (N y hy)).mono (by decide) (by decide)⟩⟩
theorem main_1_1 : Claimed_1_1 := comes_1 fun _ _ _ _ _ _ h hF => ⟨h.1, hF⟩
theorem main_1_2 : Claimed_1_2 := comes_1 fun _ _ _ _ _ _ h hF => ⟨h.2.1, hF⟩
end Jvm.Pilot.@@N@@
namespace Jvm.Pilot.@@N@@
open Jvm Jvm.ClassFile Sem Op Lib Jvm.Free Jvm.Stand Jvm.Pilot.@@N@@.Jvm.D
/-! MADE BY PROGRAM (witnessworld.py) out of the Statement's table words and the real class files: 37 classes; the members and pool entries that the words name. The judged class is class 1, her method 3. -/
namespace start1
open Jvm.ClassFile
def u (s : String) : CpInfo := .utf8 (stringToUtf16 s)
/-- a pool by its gaps: so many unusable entries, then the entry; so many at the end -/
def gap : Nat → List CpInfo → List CpInfo
  | 0, r => r
  | n + 1, r => .unusable :: gap n r
def poolList (es : List (Nat × CpInfo)) (last : Nat) : List CpInfo := es.foldr (fun e r => gap e.1 (e.2 :: r)) (gap last [])
def pool (es : List (Nat × CpInfo)) (last : Nat) : Array CpInfo := ⟨poolList es last⟩
def fileOf (pool : Array CpInfo) (this : Nat) (attrs : Array Attribute := #[]) (ms : Array MethodInfo := #[]) (fl : Nat := 33) (sup : Nat := 0) (ifs : Array Nat := #[]) (fds : Array FieldInfo := #[]) : ClassFile where
  minorVersion := 0
  majorVersion := 65
  constantPool := pool
  accessFlags := fl
  thisClass := this
  superClass := sup
  interfaces := ifs
  fields := fds
  methods := ms
  attributes := attrs
def plain (name : String) (sup : Option ClassId) : Class where
  name := name
  kind := .ordinary
  loader := none
  accessFlags := 33
  super := sup
  interfaces := #[]
  cf := none
  fields := #[]
  methods := #[]
  instanceTypes := #[]
  staticTypes := #[]
  resolved := #[]
  callSites := []
  init := .initialized
  statics := none
  mirror := none

def pool0 : Array CpInfo := pool [(5, u "<init>"), (0, u "()V"), (1, .class_ 10), (1, u "java/lang/Object"), (0, u "getClass"), (0, u "()Ljava/lang/Class;")] 111

def k0c0 : Code := { maxStack := 0, maxLocals := 1, code := object_method_1_code, exceptionTable := #[], attributes := #[] }
def k0m0 : Method := { name := "<init>", desc := "()V", sig := { parameters := [], returnType := none }, accessFlags := 1, code := some k0c0 }
def k0m1 : Method := { name := "getClass", desc := "()Ljava/lang/Class;", sig := { parameters := [], returnType := some (.object "java/lang/Class") }, accessFlags := 273, code := none }
/-- java/lang/Object -/
def k0 : Class := { plain "java/lang/Object" none with
  accessFlags := 33
  interfaces := #[]
  cf := some (fileOf pool0 8 #[] #[{ accessFlags := 1, nameIndex := 5, descriptorIndex := 6, attributes := #[] }, { accessFlags := 273, nameIndex := 11, descriptorIndex := 12, attributes := #[] }] 33 0 #[] #[])
  fields := #[]
  methods := #[k0m0, k0m1]
  instanceTypes := #[]
  staticTypes := #[]
  resolved := Array.replicate 124 none
  statics := none }

def pool1 : Array CpInfo := pool [(2, .class_ 4), (0, .nameAndType 5 6), (0, u "java/lang/Object"), (0, u "<init>"), (0, u "()V"), (0, .fieldref 8 9), (0, .class_ 10), (0, .nameAndType 11 12), (0, u "com/example/declared_endpoints/declaredendpoints/model/FieldType$Base"), (0, u "STRING"), (0, u "Lcom/example/declared_endpoints/declaredendpoints/model/FieldType$Base;"), (0, .fieldref 8 14), (0, .nameAndType 15 12), (0, u "INT"), (0, .fieldref 8 17), (0, .nameAndType 18 12), (0, u "LONG"), (0, .fieldref 8 20), (0, .nameAndType 21 12), (0, u "BIGDECIMAL"), (0, .fieldref 8 23), (0, .nameAndType 24 12), (0, u "BOOLEAN"), (0, .fieldref 8 26), (0, .nameAndType 27 12), (0, u "DATE"), (0, .fieldref 8 29), (0, .nameAndType 30 12), (0, u "OBJECT"), (0, .fieldref 32 33), (0, .class_ 34), (0, .nameAndType 35 36), (0, u "com/example/declared_endpoints/declaredendpoints/model/FieldType$Container"), (0, u "LIST"), (0, u "Lcom/example/declared_endpoints/declaredendpoints/model/FieldType$Container;"), (0, .fieldref 32 38), (0, .nameAndType 39 36), (0, u "MAP"), (0, .integer 2147483647), (0, .class_ 42), (0, u "java/util/ArrayList"), (0, .methodref 41 3), (0, .methodref 45 46), (0, .class_ 47), (0, .nameAndType 48 49), (0, u "com/example/declared_endpoints/declaredendpoints/model/FieldTypeScalarPinLaw"), (0, u "container"), (0, u "(I)Lcom/example/declared_endpoints/declaredendpoints/model/FieldType$Container;"), (0, .methodref 41 51), (0, .nameAndType 52 53), (0, u "add"), (0, u "(Ljava/lang/Object;)Z"), (0, .class_ 55), (0, u "com/example/declared_endpoints/declaredendpoints/model/FieldType"), (0, .methodref 45 57), (0, .nameAndType 58 59), (0, u "base"), (0, u "(I)Lcom/example/declared_endpoints/declaredendpoints/model/FieldType$Base;"), (0, .methodref 54 61), (0, .nameAndType 5 62), (0, u "(Lcom/example/declared_endpoints/declaredendpoints/model/FieldType$Base;Ljava/util/List;)V"), (0, .methodref 54 64), (0, .nameAndType 65 66), (0, u "scalar"), (0, u "()Z"), (3, u "law"), (0, u "(III)Z")] 5

def k1m0 : Method := { name := "<init>", desc := "()V", sig := { parameters := [], returnType := none }, accessFlags := 1, code := none }
def k1c1 : Code := { maxStack := 2, maxLocals := 1, code := method_2_code, exceptionTable := #[], attributes := #[] }
def k1m1 : Method := { name := "base", desc := "(I)Lcom/example/declared_endpoints/declaredendpoints/model/FieldType$Base;", sig := { parameters := [.int], returnType := some (.object "com/example/declared_endpoints/declaredendpoints/model/FieldType$Base") }, accessFlags := 10, code := some k1c1 }
def k1c2 : Code := { maxStack := 1, maxLocals := 1, code := method_3_code, exceptionTable := #[], attributes := #[] }
def k1m2 : Method := { name := "container", desc := "(I)Lcom/example/declared_endpoints/declaredendpoints/model/FieldType$Container;", sig := { parameters := [.int], returnType := some (.object "com/example/declared_endpoints/declaredendpoints/model/FieldType$Container") }, accessFlags := 10, code := some k1c2 }
def k1c3 : Code := { maxStack := 4, maxLocals := 8, code := code, exceptionTable := #[], attributes := #[] }
def k1m3 : Method := { name := "law", desc := "(III)Z", sig := { parameters := [.int, .int, .int], returnType := some .boolean }, accessFlags := 9, code := some k1c3 }
/-- com/example/declared_endpoints/declaredendpoints/model/FieldTypeScalarPinLaw -/
def k1 : Class := { plain "com/example/declared_endpoints/declaredendpoints/model/FieldTypeScalarPinLaw" (some 0) with
  accessFlags := 49
  interfaces := #[]
  cf := some (fileOf pool1 45 #[] #[{ accessFlags := 1, nameIndex := 5, descriptorIndex := 6, attributes := #[] }, { accessFlags := 10, nameIndex := 58, descriptorIndex := 59, attributes := #[] }, { accessFlags := 10, nameIndex := 48, descriptorIndex := 49, attributes := #[] }, { accessFlags := 9, nameIndex := 70, descriptorIndex := 71, attributes := #[] }] 49 2 #[] #[])
  fields := #[]
  methods := #[k1m0, k1m1, k1m2, k1m3]
  instanceTypes := #[]
  staticTypes := #[]
  resolved := Array.replicate 77 none
  statics := none }

def pool2 : Array CpInfo := pool [(8, .class_ 10), (1, u "java/lang/Iterable"), (24, .class_ 36), (0, u "java/lang/Object")] 25

/-- java/lang/Iterable -/
def k2 : Class := { plain "java/lang/Iterable" (some 0) with
  accessFlags := 1537
  interfaces := #[]
  cf := some (fileOf pool2 8 #[] #[] 1537 35 #[] #[])
  fields := #[]
  methods := #[]
  instanceTypes := #[]
  staticTypes := #[]
  resolved := Array.replicate 62 none
  statics := none }

def pool3 : Array CpInfo := pool [(10, .class_ 12), (1, u "java/util/Collection"), (0, u "toArray"), (16, u "()Z"), (29, .class_ 61), (0, u "java/lang/Object"), (0, .class_ 63), (0, u "java/lang/Iterable"), (2, u "isEmpty"), (3, u "()[Ljava/lang/Object;")] 44

def k3m0 : Method := { name := "isEmpty", desc := "()Z", sig := { parameters := [], returnType := some .boolean }, accessFlags := 1025, code := none }
def k3m1 : Method := { name := "toArray", desc := "()[Ljava/lang/Object;", sig := { parameters := [], returnType := some (.array (.object "java/lang/Object")) }, accessFlags := 1025, code := none }
/-- java/util/Collection -/
def k3 : Class := { plain "java/util/Collection" (some 0) with
  accessFlags := 1537
  interfaces := #[2]
  cf := some (fileOf pool3 10 #[] #[{ accessFlags := 1025, nameIndex := 66, descriptorIndex := 30, attributes := #[] }, { accessFlags := 1025, nameIndex := 13, descriptorIndex := 70, attributes := #[] }] 1537 60 #[62] #[])
  fields := #[]
  methods := #[k3m0, k3m1]
  instanceTypes := #[]
  staticTypes := #[]
  resolved := Array.replicate 115 none
  statics := none }

def pool4 : Array CpInfo := pool [(1, .methodref 2 3), (0, .class_ 4), (0, .nameAndType 5 6), (0, u "java/lang/Object"), (0, u "<init>"), (0, u "()V"), (1, .class_ 10), (1, u "java/util/AbstractCollection"), (66, .class_ 78), (0, u "java/util/Collection")] 81

def k4c0 : Code := { maxStack := 1, maxLocals := 1, code := jdk_22_method_1_code, exceptionTable := #[], attributes := #[] }
def k4m0 : Method := { name := "<init>", desc := "()V", sig := { parameters := [], returnType := none }, accessFlags := 4, code := some k4c0 }
/-- java/util/AbstractCollection -/
def k4 : Class := { plain "java/util/AbstractCollection" (some 0) with
  accessFlags := 1057
  interfaces := #[3]
  cf := some (fileOf pool4 8 #[] #[{ accessFlags := 4, nameIndex := 5, descriptorIndex := 6, attributes := #[] }] 1057 2 #[77] #[])
  fields := #[]
  methods := #[k4m0]
  instanceTypes := #[]
  staticTypes := #[]
  resolved := Array.replicate 160 none
  statics := none }

def pool5 : Array CpInfo := pool [(8, .class_ 10), (1, u "java/util/SequencedCollection"), (15, .class_ 27), (0, u "java/lang/Object"), (0, .class_ 29), (0, u "java/util/Collection")] 27

/-- java/util/SequencedCollection -/
def k5 : Class := { plain "java/util/SequencedCollection" (some 0) with
  accessFlags := 1537
  interfaces := #[3]
  cf := some (fileOf pool5 8 #[] #[] 1537 26 #[28] #[])
  fields := #[]
  methods := #[]
  instanceTypes := #[]
  staticTypes := #[]
  resolved := Array.replicate 57 none
  statics := none }

def pool6 : Array CpInfo := pool [(8, .class_ 10), (1, u "java/util/List"), (7, u "()Z"), (12, u "(Ljava/lang/Object;)V"), (16, u "<init>"), (18, u "isEmpty"), (20, u "of"), (1, .fieldref 91 92), (0, .class_ 93), (0, .nameAndType 94 95), (0, u "java/util/ImmutableCollections"), (0, u "EMPTY_LIST"), (0, u "Ljava/util/ImmutableCollections$ListN;"), (0, .class_ 97), (0, u "java/util/ImmutableCollections$List12"), (0, .methodref 96 99), (0, .nameAndType 48 31), (0, .methodref 96 101), (0, .nameAndType 48 102), (0, u "(Ljava/lang/Object;Ljava/lang/Object;)V"), (0, .class_ 104), (0, u "java/lang/Object"), (3, u "([Ljava/lang/Object;)Ljava/util/List;"), (3, .methodref 91 113), (0, .nameAndType 114 115), (0, u "listCopy"), (0, u "(Ljava/util/Collection;)Ljava/util/List;"), (3, u "()Ljava/util/List;"), (0, .class_ 121), (0, u "java/util/SequencedCollection"), (112, u "copyOf")] 16

def k6m0 : Method := { name := "isEmpty", desc := "()Z", sig := { parameters := [], returnType := some .boolean }, accessFlags := 1025, code := none }
def k6c1 : Code := { maxStack := 1, maxLocals := 0, code := jdk_40_method_36_code, exceptionTable := #[], attributes := #[] }
def k6m1 : Method := { name := "of", desc := "()Ljava/util/List;", sig := { parameters := [], returnType := some (.object "java/util/List") }, accessFlags := 9, code := some k6c1 }
def k6c2 : Code := { maxStack := 5, maxLocals := 2, code := jdk_40_method_47_code, exceptionTable := #[], attributes := #[] }
def k6m2 : Method := { name := "of", desc := "([Ljava/lang/Object;)Ljava/util/List;", sig := { parameters := [(.array (.object "java/lang/Object"))], returnType := some (.object "java/util/List") }, accessFlags := 137, code := some k6c2 }
def k6c3 : Code := { maxStack := 1, maxLocals := 1, code := jdk_40_method_48_code, exceptionTable := #[], attributes := #[] }
def k6m3 : Method := { name := "copyOf", desc := "(Ljava/util/Collection;)Ljava/util/List;", sig := { parameters := [(.object "java/util/Collection")], returnType := some (.object "java/util/List") }, accessFlags := 9, code := some k6c3 }
/-- java/util/List -/
def k6 : Class := { plain "java/util/List" (some 0) with
  accessFlags := 1537
  interfaces := #[5]
  cf := some (fileOf pool6 8 #[] #[{ accessFlags := 1025, nameIndex := 67, descriptorIndex := 18, attributes := #[] }, { accessFlags := 9, nameIndex := 88, descriptorIndex := 119, attributes := #[] }, { accessFlags := 137, nameIndex := 88, descriptorIndex := 108, attributes := #[] }, { accessFlags := 9, nameIndex := 234, descriptorIndex := 115, attributes := #[] }] 1537 103 #[120] #[])
  fields := #[]
  methods := #[k6m0, k6m1, k6m2, k6m3]
  instanceTypes := #[]
  staticTypes := #[]
  resolved := Array.replicate 251 none
  statics := none }

def pool7 : Array CpInfo := pool [(1, .methodref 2 3), (0, .class_ 4), (0, .nameAndType 5 6), (0, u "java/util/AbstractCollection"), (0, u "<init>"), (0, u "()V"), (0, .fieldref 8 9), (0, .class_ 10), (0, .nameAndType 11 12), (0, u "java/util/AbstractList"), (0, u "modCount"), (0, u "I"), (64, .class_ 78), (0, u "java/util/AbstractList$Itr"), (3, .class_ 83), (0, u "java/util/AbstractList$ListItr"), (9, .class_ 94), (0, u "java/util/AbstractList$RandomAccessSubList"), (3, .class_ 99), (0, u "java/util/AbstractList$SubList"), (33, .class_ 134), (0, u "java/util/List"), (73, .class_ 209), (0, u "java/util/AbstractList$SubList$1"), (0, .class_ 211), (0, u "java/util/AbstractList$RandomAccessSpliterator")] 6

def k7c0 : Code := { maxStack := 2, maxLocals := 1, code := jdk_39_method_1_code, exceptionTable := #[], attributes := #[] }
def k7m0 : Method := { name := "<init>", desc := "()V", sig := { parameters := [], returnType := none }, accessFlags := 4, code := some k7c0 }
/-- java/util/AbstractList -/
def k7 : Class := { plain "java/util/AbstractList" (some 4) with
  accessFlags := 1057
  interfaces := #[6]
  cf := some (fileOf pool7 8 #[.nestMembers #[93, 98, 208, 210, 82, 77]] #[{ accessFlags := 4, nameIndex := 5, descriptorIndex := 6, attributes := #[] }] 1057 2 #[133] #[{ accessFlags := 132, nameIndex := 11, descriptorIndex := 12, attributes := #[] }])
  fields := #[{ name := "modCount", type := .int, accessFlags := 132, slot := 0, constantValue := 0 }]
  methods := #[k7m0]
  instanceTypes := #[.int]
  staticTypes := #[]
  resolved := Array.replicate 218 none
  statics := none }

def pool8 : Array CpInfo := pool [(1, .class_ 2), (0, u "java/util/RandomAccess"), (0, .class_ 4), (0, u "java/lang/Object")] 2

/-- java/util/RandomAccess -/
def k8 : Class := { plain "java/util/RandomAccess" (some 0) with
  accessFlags := 1537
  interfaces := #[]
  cf := some (fileOf pool8 1 #[] #[] 1537 3 #[] #[])
  fields := #[]
  methods := #[]
  instanceTypes := #[]
  staticTypes := #[]
  resolved := Array.replicate 7 none
  statics := none }

def pool9 : Array CpInfo := pool [(1, .class_ 2), (0, u "java/lang/Cloneable"), (0, .class_ 4), (0, u "java/lang/Object")] 2

/-- java/lang/Cloneable -/
def k9 : Class := { plain "java/lang/Cloneable" (some 0) with
  accessFlags := 1537
  interfaces := #[]
  cf := some (fileOf pool9 1 #[] #[] 1537 3 #[] #[])
  fields := #[]
  methods := #[]
  instanceTypes := #[]
  staticTypes := #[]
  resolved := Array.replicate 7 none
  statics := none }

def pool10 : Array CpInfo := pool [(1, .class_ 2), (0, u "java/io/Serializable"), (0, .class_ 4), (0, u "java/lang/Object")] 2

/-- java/io/Serializable -/
def k10 : Class := { plain "java/io/Serializable" (some 0) with
  accessFlags := 1537
  interfaces := #[]
  cf := some (fileOf pool10 1 #[] #[] 1537 3 #[] #[])
  fields := #[]
  methods := #[]
  instanceTypes := #[]
  staticTypes := #[]
  resolved := Array.replicate 7 none
  statics := none }

def pool11 : Array CpInfo := pool [(1, .methodref 2 3), (0, .class_ 4), (0, .nameAndType 5 6), (0, u "java/util/AbstractList"), (0, u "<init>"), (0, u "()V"), (0, .class_ 8), (0, u "java/lang/Object"), (0, .fieldref 10 11), (0, .class_ 12), (0, .nameAndType 13 14), (0, u "java/util/ArrayList"), (0, u "elementData"), (0, u "[Ljava/lang/Object;"), (2, u "EMPTY_ELEMENTDATA"), (21, .fieldref 10 40), (0, .nameAndType 41 14), (0, u "DEFAULTCAPACITY_EMPTY_ELEMENTDATA"), (4, u "toArray"), (0, u "()[Ljava/lang/Object;"), (0, .fieldref 10 49), (0, .nameAndType 50 51), (0, u "size"), (0, u "I"), (6, .class_ 60), (1, u "java/util/Arrays"), (0, u "copyOf"), (1, .fieldref 10 64), (0, .nameAndType 65 51), (0, u "modCount"), (0, .methodref 58 67), (0, .nameAndType 61 68), (0, u "([Ljava/lang/Object;I)[Ljava/lang/Object;"), (0, .methodref 10 70), (0, .nameAndType 71 72), (0, u "grow"), (0, u "(I)[Ljava/lang/Object;"), (6, .methodref 80 81), (0, .class_ 82), (0, .nameAndType 83 84), (0, u "java/lang/Math"), (0, u "max"), (0, u "(II)I"), (11, u "(Ljava/lang/Object;)Z"), (32, .methodref 10 130), (0, .nameAndType 71 47), (0, .methodref 10 132), (0, .nameAndType 133 134), (0, u "add"), (0, u "(Ljava/lang/Object;[Ljava/lang/Object;I)V"), (13, .class_ 149), (0, u "java/util/List"), (23, u "()Z"), (88, .class_ 263), (0, u "java/util/ArrayList$ListItr"), (3, .class_ 268), (0, u "java/util/ArrayList$Itr"), (7, .class_ 277), (0, u "java/util/ArrayList$SubList"), (12, .class_ 291), (0, u "java/util/ArrayList$ArrayListSpliterator"), (37, .class_ 330), (0, u "java/util/RandomAccess"), (0, .class_ 332), (0, u "java/lang/Cloneable"), (0, .class_ 334), (0, u "java/io/Serializable"), (0, u "serialVersionUID"), (0, u "J"), (3, u "DEFAULT_CAPACITY"), (22, u "isEmpty"), (136, .class_ 501), (0, u "java/util/ArrayList$SubList$2"), (0, .class_ 503), (0, u "java/util/ArrayList$SubList$1")] 5

def k11c0 : Code := { maxStack := 2, maxLocals := 1, code := jdk_38_method_2_code, exceptionTable := #[], attributes := #[] }
def k11m0 : Method := { name := "<init>", desc := "()V", sig := { parameters := [], returnType := none }, accessFlags := 1, code := some k11c0 }
def k11c1 : Code := { maxStack := 4, maxLocals := 4, code := jdk_38_method_6_code, exceptionTable := #[], attributes := #[] }
def k11m1 : Method := { name := "grow", desc := "(I)[Ljava/lang/Object;", sig := { parameters := [.int], returnType := some (.array (.object "java/lang/Object")) }, accessFlags := 2, code := some k11c1 }
def k11c2 : Code := { maxStack := 3, maxLocals := 1, code := jdk_38_method_7_code, exceptionTable := #[], attributes := #[] }
def k11m2 : Method := { name := "grow", desc := "()[Ljava/lang/Object;", sig := { parameters := [], returnType := some (.array (.object "java/lang/Object")) }, accessFlags := 2, code := some k11c2 }
def k11c3 : Code := { maxStack := 1, maxLocals := 1, code := jdk_38_method_9_code, exceptionTable := #[], attributes := #[] }
def k11m3 : Method := { name := "isEmpty", desc := "()Z", sig := { parameters := [], returnType := some .boolean }, accessFlags := 1, code := some k11c3 }
def k11c4 : Code := { maxStack := 2, maxLocals := 1, code := jdk_38_method_16_code, exceptionTable := #[], attributes := #[] }
def k11m4 : Method := { name := "toArray", desc := "()[Ljava/lang/Object;", sig := { parameters := [], returnType := some (.array (.object "java/lang/Object")) }, accessFlags := 1, code := some k11c4 }
def k11c5 : Code := { maxStack := 3, maxLocals := 4, code := jdk_38_method_24_code, exceptionTable := #[], attributes := #[] }
def k11m5 : Method := { name := "add", desc := "(Ljava/lang/Object;[Ljava/lang/Object;I)V", sig := { parameters := [(.object "java/lang/Object"), (.array (.object "java/lang/Object")), .int], returnType := none }, accessFlags := 2, code := some k11c5 }
def k11c6 : Code := { maxStack := 4, maxLocals := 2, code := jdk_38_method_25_code, exceptionTable := #[], attributes := #[] }
def k11m6 : Method := { name := "add", desc := "(Ljava/lang/Object;)Z", sig := { parameters := [(.object "java/lang/Object")], returnType := some .boolean }, accessFlags := 1, code := some k11c6 }
/-- java/util/ArrayList -/
def k11 : Class := { plain "java/util/ArrayList" (some 7) with
  accessFlags := 33
  interfaces := #[6, 8, 9, 10]
  cf := some (fileOf pool11 10 #[.nestMembers #[290, 276, 500, 502, 262, 267]] #[{ accessFlags := 1, nameIndex := 5, descriptorIndex := 6, attributes := #[] }, { accessFlags := 2, nameIndex := 71, descriptorIndex := 72, attributes := #[] }, { accessFlags := 2, nameIndex := 71, descriptorIndex := 47, attributes := #[] }, { accessFlags := 1, nameIndex := 363, descriptorIndex := 173, attributes := #[] }, { accessFlags := 1, nameIndex := 46, descriptorIndex := 47, attributes := #[] }, { accessFlags := 2, nameIndex := 133, descriptorIndex := 134, attributes := #[] }, { accessFlags := 1, nameIndex := 133, descriptorIndex := 96, attributes := #[] }] 33 2 #[148, 329, 331, 333] #[{ accessFlags := 26, nameIndex := 335, descriptorIndex := 336, attributes := #[] }, { accessFlags := 26, nameIndex := 340, descriptorIndex := 51, attributes := #[] }, { accessFlags := 26, nameIndex := 17, descriptorIndex := 14, attributes := #[] }, { accessFlags := 26, nameIndex := 41, descriptorIndex := 14, attributes := #[] }, { accessFlags := 128, nameIndex := 13, descriptorIndex := 14, attributes := #[] }, { accessFlags := 2, nameIndex := 50, descriptorIndex := 51, attributes := #[] }])
  fields := #[{ name := "serialVersionUID", type := .long, accessFlags := 26, slot := 0, constantValue := 0 }, { name := "DEFAULT_CAPACITY", type := .int, accessFlags := 26, slot := 1, constantValue := 0 }, { name := "EMPTY_ELEMENTDATA", type := (.array (.object "java/lang/Object")), accessFlags := 26, slot := 2, constantValue := 0 }, { name := "DEFAULTCAPACITY_EMPTY_ELEMENTDATA", type := (.array (.object "java/lang/Object")), accessFlags := 26, slot := 3, constantValue := 0 }, { name := "elementData", type := (.array (.object "java/lang/Object")), accessFlags := 128, slot := 1, constantValue := 0 }, { name := "size", type := .int, accessFlags := 2, slot := 2, constantValue := 0 }]
  methods := #[k11m0, k11m1, k11m2, k11m3, k11m4, k11m5, k11m6]
  instanceTypes := #[.int, (.array (.object "java/lang/Object")), .int]
  staticTypes := #[.long, .int, (.array (.object "java/lang/Object")), (.array (.object "java/lang/Object"))]
  resolved := Array.replicate 509 none
  statics := some 0 }

def pool12 : Array CpInfo := pool [(1, .methodref 2 3), (0, .class_ 4), (0, .nameAndType 5 6), (0, u "java/lang/Object"), (0, u "<init>"), (0, u "()V"), (0, .class_ 8), (0, u "java/lang/Record")] 13

def k12c0 : Code := { maxStack := 1, maxLocals := 1, code := jdk_30_method_1_code, exceptionTable := #[], attributes := #[] }
def k12m0 : Method := { name := "<init>", desc := "()V", sig := { parameters := [], returnType := none }, accessFlags := 4, code := some k12c0 }
/-- java/lang/Record -/
def k12 : Class := { plain "java/lang/Record" (some 0) with
  accessFlags := 1057
  interfaces := #[]
  cf := some (fileOf pool12 7 #[] #[{ accessFlags := 4, nameIndex := 5, descriptorIndex := 6, attributes := #[] }] 1057 2 #[] #[])
  fields := #[]
  methods := #[k12m0]
  instanceTypes := #[]
  staticTypes := #[]
  resolved := Array.replicate 22 none
  statics := none }

def pool13 : Array CpInfo := pool [(1, .methodref 2 3), (0, .class_ 4), (0, .nameAndType 5 6), (0, u "java/lang/Record"), (0, u "<init>"), (0, u "()V"), (0, .string 8), (0, u "base"), (0, .methodref 10 11), (0, .class_ 12), (0, .nameAndType 13 14), (0, u "java/util/Objects"), (0, u "requireNonNull"), (0, u "(Ljava/lang/Object;Ljava/lang/String;)Ljava/lang/Object;"), (0, .interfaceMethodref 16 17), (0, .class_ 18), (0, .nameAndType 19 20), (0, u "java/util/List"), (0, u "copyOf"), (0, u "(Ljava/util/Collection;)Ljava/util/List;"), (0, .fieldref 22 23), (0, .class_ 24), (0, .nameAndType 8 25), (0, u "com/example/declared_endpoints/declaredendpoints/model/FieldType"), (0, u "Lcom/example/declared_endpoints/declaredendpoints/model/FieldType$Base;"), (0, .fieldref 22 27), (0, .nameAndType 28 29), (0, u "containers"), (0, u "Ljava/util/List;"), (9, .class_ 41), (1, u "com/example/declared_endpoints/declaredendpoints/model/FieldType$Base"), (24, u "(Lcom/example/declared_endpoints/declaredendpoints/model/FieldType$Base;Ljava/util/List;)V"), (4, u "NAME_RULE"), (0, u "Ljava/lang/String;"), (7, .interfaceMethodref 16 81), (0, .nameAndType 82 83), (0, u "isEmpty"), (0, u "()Z"), (19, .fieldref 39 104), (0, .nameAndType 105 25), (0, u "OBJECT"), (43, .class_ 151), (1, u "com/example/declared_endpoints/declaredendpoints/model/FieldType$Container"), (14, u "WHOLE"), (0, u "Ljava/util/regex/Pattern;"), (24, u "TEXT_FORMS"), (0, u "Ljava/util/Map;"), (34, u "TEXT_RULES"), (2, u "OBJECT_NOT_TEXT"), (3, u "SEPARATOR"), (13, u "scalar")] 67

def k13c0 : Code := { maxStack := 2, maxLocals := 3, code := prog_22_method_1_code, exceptionTable := #[], attributes := #[] }
def k13m0 : Method := { name := "<init>", desc := "(Lcom/example/declared_endpoints/declaredendpoints/model/FieldType$Base;Ljava/util/List;)V", sig := { parameters := [(.object "com/example/declared_endpoints/declaredendpoints/model/FieldType$Base"), (.object "java/util/List")], returnType := none }, accessFlags := 1, code := some k13c0 }
def k13c1 : Code := { maxStack := 2, maxLocals := 1, code := prog_22_method_4_code, exceptionTable := #[], attributes := #[] }
def k13m1 : Method := { name := "scalar", desc := "()Z", sig := { parameters := [], returnType := some .boolean }, accessFlags := 1, code := some k13c1 }
/-- com/example/declared_endpoints/declaredendpoints/model/FieldType -/
def k13 : Class := { plain "com/example/declared_endpoints/declaredendpoints/model/FieldType" (some 12) with
  accessFlags := 49
  interfaces := #[]
  cf := some (fileOf pool13 22 #[.nestMembers #[149, 39]] #[{ accessFlags := 1, nameIndex := 5, descriptorIndex := 66, attributes := #[] }, { accessFlags := 1, nameIndex := 249, descriptorIndex := 83, attributes := #[] }] 49 2 #[] #[{ accessFlags := 18, nameIndex := 8, descriptorIndex := 25, attributes := #[] }, { accessFlags := 18, nameIndex := 28, descriptorIndex := 29, attributes := #[] }, { accessFlags := 26, nameIndex := 231, descriptorIndex := 72, attributes := #[] }, { accessFlags := 26, nameIndex := 235, descriptorIndex := 72, attributes := #[] }, { accessFlags := 26, nameIndex := 71, descriptorIndex := 72, attributes := #[] }, { accessFlags := 26, nameIndex := 166, descriptorIndex := 167, attributes := #[] }, { accessFlags := 26, nameIndex := 192, descriptorIndex := 193, attributes := #[] }, { accessFlags := 26, nameIndex := 228, descriptorIndex := 193, attributes := #[] }])
  fields := #[{ name := "base", type := (.object "com/example/declared_endpoints/declaredendpoints/model/FieldType$Base"), accessFlags := 18, slot := 0, constantValue := 0 }, { name := "containers", type := (.object "java/util/List"), accessFlags := 18, slot := 1, constantValue := 0 }, { name := "OBJECT_NOT_TEXT", type := (.object "java/lang/String"), accessFlags := 26, slot := 0, constantValue := 0 }, { name := "SEPARATOR", type := (.object "java/lang/String"), accessFlags := 26, slot := 1, constantValue := 0 }, { name := "NAME_RULE", type := (.object "java/lang/String"), accessFlags := 26, slot := 2, constantValue := 0 }, { name := "WHOLE", type := (.object "java/util/regex/Pattern"), accessFlags := 26, slot := 3, constantValue := 0 }, { name := "TEXT_FORMS", type := (.object "java/util/Map"), accessFlags := 26, slot := 4, constantValue := 0 }, { name := "TEXT_RULES", type := (.object "java/util/Map"), accessFlags := 26, slot := 5, constantValue := 0 }]
  methods := #[k13m0, k13m1]
  instanceTypes := #[(.object "com/example/declared_endpoints/declaredendpoints/model/FieldType$Base"), (.object "java/util/List")]
  staticTypes := #[(.object "java/lang/String"), (.object "java/lang/String"), (.object "java/lang/String"), (.object "java/util/regex/Pattern"), (.object "java/util/Map"), (.object "java/util/Map")]
  resolved := Array.replicate 317 none
  statics := none }

def pool14 : Array CpInfo := pool [(1, .class_ 2), (0, u "java/lang/constant/Constable"), (0, .class_ 4), (0, u "java/lang/Object")] 6

/-- java/lang/constant/Constable -/
def k14 : Class := { plain "java/lang/constant/Constable" (some 0) with
  accessFlags := 1537
  interfaces := #[]
  cf := some (fileOf pool14 1 #[] #[] 1537 3 #[] #[])
  fields := #[]
  methods := #[]
  instanceTypes := #[]
  staticTypes := #[]
  resolved := Array.replicate 11 none
  statics := none }

def pool15 : Array CpInfo := pool [(1, .class_ 2), (0, u "java/lang/Comparable"), (0, .class_ 4), (0, u "java/lang/Object")] 7

/-- java/lang/Comparable -/
def k15 : Class := { plain "java/lang/Comparable" (some 0) with
  accessFlags := 1537
  interfaces := #[]
  cf := some (fileOf pool15 1 #[] #[] 1537 3 #[] #[])
  fields := #[]
  methods := #[]
  instanceTypes := #[]
  staticTypes := #[]
  resolved := Array.replicate 12 none
  statics := none }

def pool16 : Array CpInfo := pool [(2, .class_ 4), (1, u "java/lang/Enum"), (0, u "name"), (0, u "Ljava/lang/String;"), (2, u "ordinal"), (0, u "I"), (1, .class_ 14), (1, u "java/lang/Object"), (4, u "hash"), (86, .class_ 108), (1, u "java/lang/Enum$EnumDesc"), (2, .class_ 112), (0, u "java/lang/constant/Constable"), (0, .class_ 114), (0, u "java/lang/Comparable"), (0, .class_ 116), (0, u "java/io/Serializable")] 87

/-- java/lang/Enum -/
def k16 : Class := { plain "java/lang/Enum" (some 0) with
  accessFlags := 1057
  interfaces := #[14, 15, 10]
  cf := some (fileOf pool16 2 #[.nestMembers #[106]] #[] 1057 12 #[111, 113, 115] #[{ accessFlags := 18, nameIndex := 5, descriptorIndex := 6, attributes := #[] }, { accessFlags := 18, nameIndex := 9, descriptorIndex := 10, attributes := #[] }, { accessFlags := 2, nameIndex := 19, descriptorIndex := 10, attributes := #[] }])
  fields := #[{ name := "name", type := (.object "java/lang/String"), accessFlags := 18, slot := 0, constantValue := 0 }, { name := "ordinal", type := .int, accessFlags := 18, slot := 1, constantValue := 0 }, { name := "hash", type := .int, accessFlags := 2, slot := 2, constantValue := 0 }]
  methods := #[]
  instanceTypes := #[(.object "java/lang/String"), .int, .int]
  staticTypes := #[]
  resolved := Array.replicate 204 none
  statics := none }

def pool17 : Array CpInfo := pool [(1, .class_ 2), (0, u "com/example/declared_endpoints/declaredendpoints/model/FieldType"), (0, .class_ 4), (0, u "com/example/declared_endpoints/declaredendpoints/model/FieldType$Base"), (2, u "STRING"), (0, u "Lcom/example/declared_endpoints/declaredendpoints/model/FieldType$Base;"), (2, u "INT"), (2, u "LONG"), (2, u "BIGDECIMAL"), (2, u "BOOLEAN"), (2, u "DATE"), (2, u "OBJECT"), (2, u "$VALUES"), (0, u "[Lcom/example/declared_endpoints/declaredendpoints/model/FieldType$Base;"), (6, .class_ 39), (1, u "java/lang/Enum")] 135

/-- com/example/declared_endpoints/declaredendpoints/model/FieldType$Base -/
def k17 : Class := { plain "com/example/declared_endpoints/declaredendpoints/model/FieldType$Base" (some 16) with
  accessFlags := 16433
  interfaces := #[]
  cf := some (fileOf pool17 3 #[.nestHost 1] #[] 16433 37 #[] #[{ accessFlags := 16409, nameIndex := 7, descriptorIndex := 8, attributes := #[] }, { accessFlags := 16409, nameIndex := 11, descriptorIndex := 8, attributes := #[] }, { accessFlags := 16409, nameIndex := 14, descriptorIndex := 8, attributes := #[] }, { accessFlags := 16409, nameIndex := 17, descriptorIndex := 8, attributes := #[] }, { accessFlags := 16409, nameIndex := 20, descriptorIndex := 8, attributes := #[] }, { accessFlags := 16409, nameIndex := 23, descriptorIndex := 8, attributes := #[] }, { accessFlags := 16409, nameIndex := 26, descriptorIndex := 8, attributes := #[] }, { accessFlags := 4122, nameIndex := 29, descriptorIndex := 30, attributes := #[] }])
  fields := #[{ name := "STRING", type := (.object "com/example/declared_endpoints/declaredendpoints/model/FieldType$Base"), accessFlags := 16409, slot := 0, constantValue := 0 }, { name := "INT", type := (.object "com/example/declared_endpoints/declaredendpoints/model/FieldType$Base"), accessFlags := 16409, slot := 1, constantValue := 0 }, { name := "LONG", type := (.object "com/example/declared_endpoints/declaredendpoints/model/FieldType$Base"), accessFlags := 16409, slot := 2, constantValue := 0 }, { name := "BIGDECIMAL", type := (.object "com/example/declared_endpoints/declaredendpoints/model/FieldType$Base"), accessFlags := 16409, slot := 3, constantValue := 0 }, { name := "BOOLEAN", type := (.object "com/example/declared_endpoints/declaredendpoints/model/FieldType$Base"), accessFlags := 16409, slot := 4, constantValue := 0 }, { name := "DATE", type := (.object "com/example/declared_endpoints/declaredendpoints/model/FieldType$Base"), accessFlags := 16409, slot := 5, constantValue := 0 }, { name := "OBJECT", type := (.object "com/example/declared_endpoints/declaredendpoints/model/FieldType$Base"), accessFlags := 16409, slot := 6, constantValue := 0 }, { name := "$VALUES", type := (.array (.object "com/example/declared_endpoints/declaredendpoints/model/FieldType$Base")), accessFlags := 4122, slot := 7, constantValue := 0 }]
  methods := #[]
  instanceTypes := #[(.object "java/lang/String"), .int, .int]
  staticTypes := #[(.object "com/example/declared_endpoints/declaredendpoints/model/FieldType$Base"), (.object "com/example/declared_endpoints/declaredendpoints/model/FieldType$Base"), (.object "com/example/declared_endpoints/declaredendpoints/model/FieldType$Base"), (.object "com/example/declared_endpoints/declaredendpoints/model/FieldType$Base"), (.object "com/example/declared_endpoints/declaredendpoints/model/FieldType$Base"), (.object "com/example/declared_endpoints/declaredendpoints/model/FieldType$Base"), (.object "com/example/declared_endpoints/declaredendpoints/model/FieldType$Base"), (.array (.object "com/example/declared_endpoints/declaredendpoints/model/FieldType$Base"))]
  resolved := Array.replicate 175 none
  statics := some 1 }

def pool18 : Array CpInfo := pool [(2, .class_ 4), (1, u "java/lang/CharSequence"), (42, .class_ 48), (0, u "java/lang/CharSequence$1CodePointIterator"), (10, .class_ 60), (0, u "java/lang/CharSequence$1CharIterator"), (5, .class_ 67), (0, u "java/lang/Object")] 63

/-- java/lang/CharSequence -/
def k18 : Class := { plain "java/lang/CharSequence" (some 0) with
  accessFlags := 1537
  interfaces := #[]
  cf := some (fileOf pool18 2 #[.nestMembers #[47, 59]] #[] 1537 66 #[] #[])
  fields := #[]
  methods := #[]
  instanceTypes := #[]
  staticTypes := #[]
  resolved := Array.replicate 131 none
  statics := none }

def pool19 : Array CpInfo := pool [(1, .class_ 2), (0, u "java/lang/constant/ConstantDesc"), (0, .class_ 4), (0, u "java/lang/Object")] 32

/-- java/lang/constant/ConstantDesc -/
def k19 : Class := { plain "java/lang/constant/ConstantDesc" (some 0) with
  accessFlags := 1537
  interfaces := #[]
  cf := some (fileOf pool19 1 #[] #[] 1537 3 #[] #[])
  fields := #[]
  methods := #[]
  instanceTypes := #[]
  staticTypes := #[]
  resolved := Array.replicate 37 none
  statics := none }

def pool20 : Array CpInfo := pool [(2, .class_ 4), (1, u "java/lang/Object"), (0, u "<init>"), (0, u "()V"), (3, .class_ 12), (1, u "java/lang/String"), (0, u "value"), (0, u "[B"), (2, u "coder"), (0, u "B"), (2, u "hash"), (0, u "I"), (2, u "hashIsZero"), (0, u "Z"), (13, u "COMPACT_STRINGS"), (534, .class_ 576), (0, u "java/lang/CharSequence"), (22, u "CASE_INSENSITIVE_ORDER"), (0, u "Ljava/util/Comparator;"), (500, u "serialPersistentFields"), (0, u "[Ljava/io/ObjectStreamField;"), (0, .class_ 1104), (0, u "java/lang/String$CaseInsensitiveComparator"), (1, .class_ 1107), (0, u "java/io/Serializable"), (0, .class_ 1109), (0, u "java/lang/Comparable"), (0, .class_ 1111), (0, u "java/lang/constant/Constable"), (0, .class_ 1113), (0, u "java/lang/constant/ConstantDesc"), (2, u "serialVersionUID"), (0, u "J"), (3, u "REPL"), (0, u "C"), (2, u "LATIN1"), (1, u "UTF16")] 323

def k20m0 : Method := { name := "<init>", desc := "()V", sig := { parameters := [], returnType := none }, accessFlags := 1, code := none }
/-- java/lang/String -/
def k20 : Class := { plain "java/lang/String" (some 0) with
  accessFlags := 49
  interfaces := #[10, 15, 18, 14, 19]
  cf := some (fileOf pool20 10 #[.nestMembers #[1103]] #[{ accessFlags := 1, nameIndex := 5, descriptorIndex := 6, attributes := #[] }] 49 2 #[1106, 1108, 575, 1110, 1112] #[{ accessFlags := 18, nameIndex := 13, descriptorIndex := 14, attributes := #[] }, { accessFlags := 18, nameIndex := 17, descriptorIndex := 18, attributes := #[] }, { accessFlags := 2, nameIndex := 21, descriptorIndex := 22, attributes := #[] }, { accessFlags := 2, nameIndex := 25, descriptorIndex := 26, attributes := #[] }, { accessFlags := 26, nameIndex := 1116, descriptorIndex := 1117, attributes := #[] }, { accessFlags := 24, nameIndex := 40, descriptorIndex := 26, attributes := #[] }, { accessFlags := 26, nameIndex := 1101, descriptorIndex := 1102, attributes := #[] }, { accessFlags := 26, nameIndex := 1121, descriptorIndex := 1122, attributes := #[] }, { accessFlags := 25, nameIndex := 599, descriptorIndex := 600, attributes := #[] }, { accessFlags := 24, nameIndex := 1125, descriptorIndex := 18, attributes := #[] }, { accessFlags := 24, nameIndex := 1127, descriptorIndex := 18, attributes := #[] }])
  fields := #[{ name := "value", type := (.array .byte), accessFlags := 18, slot := 0, constantValue := 0 }, { name := "coder", type := .byte, accessFlags := 18, slot := 1, constantValue := 0 }, { name := "hash", type := .int, accessFlags := 2, slot := 2, constantValue := 0 }, { name := "hashIsZero", type := .boolean, accessFlags := 2, slot := 3, constantValue := 0 }, { name := "serialVersionUID", type := .long, accessFlags := 26, slot := 0, constantValue := 0 }, { name := "COMPACT_STRINGS", type := .boolean, accessFlags := 24, slot := 1, constantValue := 0 }, { name := "serialPersistentFields", type := (.array (.object "java/io/ObjectStreamField")), accessFlags := 26, slot := 2, constantValue := 0 }, { name := "REPL", type := .char, accessFlags := 26, slot := 3, constantValue := 0 }, { name := "CASE_INSENSITIVE_ORDER", type := (.object "java/util/Comparator"), accessFlags := 25, slot := 4, constantValue := 0 }, { name := "LATIN1", type := .byte, accessFlags := 24, slot := 5, constantValue := 0 }, { name := "UTF16", type := .byte, accessFlags := 24, slot := 6, constantValue := 0 }]
  methods := #[k20m0]
  instanceTypes := #[(.array .byte), .byte, .int, .boolean]
  staticTypes := #[.long, .boolean, (.array (.object "java/io/ObjectStreamField")), .char, (.object "java/util/Comparator"), .byte, .byte]
  resolved := Array.replicate 1451 none
  statics := none }

def pool21 : Array CpInfo := pool [(2, .class_ 4), (1, u "java/lang/Object"), (0, u "<init>"), (0, u "()V"), (35, .class_ 44), (1, u "java/util/Objects"), (0, u "requireNonNull"), (0, u "(Ljava/lang/Object;)Ljava/lang/Object;"), (47, u "(Ljava/lang/Object;Ljava/lang/String;)Ljava/lang/Object;")] 89

def k21m0 : Method := { name := "<init>", desc := "()V", sig := { parameters := [], returnType := none }, accessFlags := 2, code := none }
def k21c1 : Code := { maxStack := 2, maxLocals := 1, code := jdk_31_method_10_code, exceptionTable := #[], attributes := #[] }
def k21m1 : Method := { name := "requireNonNull", desc := "(Ljava/lang/Object;)Ljava/lang/Object;", sig := { parameters := [(.object "java/lang/Object")], returnType := some (.object "java/lang/Object") }, accessFlags := 9, code := some k21c1 }
def k21c2 : Code := { maxStack := 3, maxLocals := 2, code := jdk_31_method_11_code, exceptionTable := #[], attributes := #[] }
def k21m2 : Method := { name := "requireNonNull", desc := "(Ljava/lang/Object;Ljava/lang/String;)Ljava/lang/Object;", sig := { parameters := [(.object "java/lang/Object"), (.object "java/lang/String")], returnType := some (.object "java/lang/Object") }, accessFlags := 9, code := some k21c2 }
/-- java/util/Objects -/
def k21 : Class := { plain "java/util/Objects" (some 0) with
  accessFlags := 49
  interfaces := #[]
  cf := some (fileOf pool21 42 #[] #[{ accessFlags := 2, nameIndex := 5, descriptorIndex := 6, attributes := #[] }, { accessFlags := 9, nameIndex := 45, descriptorIndex := 46, attributes := #[] }, { accessFlags := 9, nameIndex := 45, descriptorIndex := 94, attributes := #[] }] 49 2 #[] #[])
  fields := #[]
  methods := #[k21m0, k21m1, k21m2]
  instanceTypes := #[]
  staticTypes := #[]
  resolved := Array.replicate 184 none
  statics := none }

def pool22 : Array CpInfo := pool [(2, .class_ 4), (1, u "java/lang/Object"), (0, u "<init>"), (0, u "()V"), (3, .class_ 11), (0, u "java/util/ImmutableCollections$List12"), (0, .class_ 13), (0, u "java/util/ImmutableCollections$ListN"), (3, u "Z"), (0, .class_ 19), (0, u "java/util/List"), (0, .interfaceMethodref 21 22), (0, .class_ 23), (0, .nameAndType 24 25), (0, u "java/util/Collection"), (0, u "isEmpty"), (0, u "()Z"), (0, .interfaceMethodref 18 27), (0, .nameAndType 28 29), (0, u "of"), (0, u "()Ljava/util/List;"), (0, .interfaceMethodref 21 31), (0, .nameAndType 32 33), (0, u "toArray"), (0, u "()[Ljava/lang/Object;"), (0, .interfaceMethodref 18 35), (0, .nameAndType 28 36), (0, u "([Ljava/lang/Object;)Ljava/util/List;"), (10, .class_ 49), (1, u "java/util/ImmutableCollections"), (0, u "$assertionsDisabled"), (5, u "[Ljava/lang/Object;"), (5, u "EMPTY_LIST"), (0, u "Ljava/util/ImmutableCollections$ListN;"), (8, u "EMPTY_LIST_NULLS"), (22, u "SALT32L"), (0, u "J"), (2, u "REVERSE"), (6, u "archivedObjects"), (2, u "EMPTY"), (0, u "Ljava/lang/Object;"), (0, .class_ 112), (0, u "java/util/ImmutableCollections$SetN"), (5, u "EMPTY_SET"), (0, u "Ljava/util/ImmutableCollections$SetN;"), (0, .class_ 121), (0, u "java/util/ImmutableCollections$MapN"), (3, u "EMPTY_MAP"), (0, u "Ljava/util/ImmutableCollections$MapN;"), (4, u "EXPAND_FACTOR"), (0, u "I"), (9, u "listCopy"), (0, u "(Ljava/util/Collection;)Ljava/util/List;"), (25, .class_ 170), (0, u "java/util/ImmutableCollections$MapN$MapNIterator"), (0, .class_ 172), (0, u "java/util/ImmutableCollections$MapN$1"), (0, .class_ 174), (0, u "java/util/ImmutableCollections$Map1"), (0, .class_ 176), (0, u "java/util/ImmutableCollections$AbstractImmutableMap"), (0, .class_ 178), (0, u "java/util/ImmutableCollections$SetN$SetNIterator"), (0, .class_ 180), (0, u "java/util/ImmutableCollections$Set12"), (0, .class_ 182), (0, u "java/util/ImmutableCollections$Set12$1"), (0, .class_ 184), (0, u "java/util/ImmutableCollections$AbstractImmutableSet"), (0, .class_ 186), (0, u "java/util/ImmutableCollections$SubList"), (0, .class_ 188), (0, u "java/util/ImmutableCollections$ListItr"), (0, .class_ 190), (0, u "java/util/ImmutableCollections$AbstractImmutableList"), (0, .class_ 192), (0, u "java/util/ImmutableCollections$AbstractImmutableCollection"), (0, .class_ 194), (0, u "java/util/ImmutableCollections$Access"), (0, .class_ 196), (0, u "java/util/ImmutableCollections$Access$1")] 16

def k22m0 : Method := { name := "<init>", desc := "()V", sig := { parameters := [], returnType := none }, accessFlags := 2, code := none }
def k22c1 : Code := { maxStack := 1, maxLocals := 2, code := jdk_56_method_3_code, exceptionTable := #[], attributes := #[] }
def k22m1 : Method := { name := "listCopy", desc := "(Ljava/util/Collection;)Ljava/util/List;", sig := { parameters := [(.object "java/util/Collection")], returnType := some (.object "java/util/List") }, accessFlags := 8, code := some k22c1 }
/-- java/util/ImmutableCollections -/
def k22 : Class := { plain "java/util/ImmutableCollections" (some 0) with
  accessFlags := 32
  interfaces := #[]
  cf := some (fileOf pool22 47 #[.nestMembers #[120, 169, 171, 173, 175, 111, 177, 179, 181, 183, 12, 10, 185, 187, 189, 191, 193, 195]] #[{ accessFlags := 2, nameIndex := 5, descriptorIndex := 6, attributes := #[] }, { accessFlags := 8, nameIndex := 142, descriptorIndex := 143, attributes := #[] }] 32 2 #[] #[{ accessFlags := 26, nameIndex := 95, descriptorIndex := 96, attributes := #[] }, { accessFlags := 26, nameIndex := 99, descriptorIndex := 17, attributes := #[] }, { accessFlags := 10, nameIndex := 106, descriptorIndex := 56, attributes := #[] }, { accessFlags := 26, nameIndex := 109, descriptorIndex := 110, attributes := #[] }, { accessFlags := 24, nameIndex := 62, descriptorIndex := 63, attributes := #[] }, { accessFlags := 24, nameIndex := 72, descriptorIndex := 63, attributes := #[] }, { accessFlags := 24, nameIndex := 118, descriptorIndex := 119, attributes := #[] }, { accessFlags := 24, nameIndex := 125, descriptorIndex := 126, attributes := #[] }, { accessFlags := 24, nameIndex := 131, descriptorIndex := 132, attributes := #[] }, { accessFlags := 4120, nameIndex := 50, descriptorIndex := 17, attributes := #[] }])
  fields := #[{ name := "SALT32L", type := .long, accessFlags := 26, slot := 0, constantValue := 0 }, { name := "REVERSE", type := .boolean, accessFlags := 26, slot := 1, constantValue := 0 }, { name := "archivedObjects", type := (.array (.object "java/lang/Object")), accessFlags := 10, slot := 2, constantValue := 0 }, { name := "EMPTY", type := (.object "java/lang/Object"), accessFlags := 26, slot := 3, constantValue := 0 }, { name := "EMPTY_LIST", type := (.object "java/util/ImmutableCollections$ListN"), accessFlags := 24, slot := 4, constantValue := 0 }, { name := "EMPTY_LIST_NULLS", type := (.object "java/util/ImmutableCollections$ListN"), accessFlags := 24, slot := 5, constantValue := 0 }, { name := "EMPTY_SET", type := (.object "java/util/ImmutableCollections$SetN"), accessFlags := 24, slot := 6, constantValue := 0 }, { name := "EMPTY_MAP", type := (.object "java/util/ImmutableCollections$MapN"), accessFlags := 24, slot := 7, constantValue := 0 }, { name := "EXPAND_FACTOR", type := .int, accessFlags := 24, slot := 8, constantValue := 0 }, { name := "$assertionsDisabled", type := .boolean, accessFlags := 4120, slot := 9, constantValue := 0 }]
  methods := #[k22m0, k22m1]
  instanceTypes := #[]
  staticTypes := #[.long, .boolean, (.array (.object "java/lang/Object")), (.object "java/lang/Object"), (.object "java/util/ImmutableCollections$ListN"), (.object "java/util/ImmutableCollections$ListN"), (.object "java/util/ImmutableCollections$SetN"), (.object "java/util/ImmutableCollections$MapN"), .int, .boolean]
  resolved := Array.replicate 213 none
  statics := some 2 }

def pool23 : Array CpInfo := pool [(1, .methodref 2 3), (0, .class_ 4), (0, .nameAndType 5 6), (0, u "java/util/AbstractCollection"), (0, u "<init>"), (0, u "()V"), (1, .class_ 10), (1, u "java/util/ImmutableCollections"), (2, .class_ 14), (0, u "java/util/ImmutableCollections$AbstractImmutableCollection")] 41

def k23c0 : Code := { maxStack := 1, maxLocals := 1, code := jdk_47_method_1_code, exceptionTable := #[], attributes := #[] }
def k23m0 : Method := { name := "<init>", desc := "()V", sig := { parameters := [], returnType := none }, accessFlags := 0, code := some k23c0 }
/-- java/util/ImmutableCollections$AbstractImmutableCollection -/
def k23 : Class := { plain "java/util/ImmutableCollections$AbstractImmutableCollection" (some 4) with
  accessFlags := 1056
  interfaces := #[]
  cf := some (fileOf pool23 13 #[.nestHost 8] #[{ accessFlags := 0, nameIndex := 5, descriptorIndex := 6, attributes := #[] }] 1056 2 #[] #[])
  fields := #[]
  methods := #[k23m0]
  instanceTypes := #[]
  staticTypes := #[]
  resolved := Array.replicate 56 none
  statics := none }

def pool24 : Array CpInfo := pool [(1, .methodref 2 3), (0, .class_ 4), (0, .nameAndType 5 6), (0, u "java/util/ImmutableCollections$AbstractImmutableCollection"), (0, u "<init>"), (0, u "()V"), (1, .class_ 10), (1, u "java/util/ImmutableCollections"), (3, .class_ 16), (1, u "java/util/ImmutableCollections$AbstractImmutableList"), (60, .class_ 78), (0, u "java/util/List"), (45, .class_ 125), (0, u "java/util/RandomAccess")] 70

def k24c0 : Code := { maxStack := 1, maxLocals := 1, code := jdk_46_method_1_code, exceptionTable := #[], attributes := #[] }
def k24m0 : Method := { name := "<init>", desc := "()V", sig := { parameters := [], returnType := none }, accessFlags := 0, code := some k24c0 }
/-- java/util/ImmutableCollections$AbstractImmutableList -/
def k24 : Class := { plain "java/util/ImmutableCollections$AbstractImmutableList" (some 23) with
  accessFlags := 1056
  interfaces := #[6, 8]
  cf := some (fileOf pool24 14 #[.nestHost 8] #[{ accessFlags := 0, nameIndex := 5, descriptorIndex := 6, attributes := #[] }] 1056 2 #[77, 124] #[])
  fields := #[]
  methods := #[k24m0]
  instanceTypes := #[]
  staticTypes := #[]
  resolved := Array.replicate 196 none
  statics := none }

def pool25 : Array CpInfo := pool [(1, .methodref 2 3), (0, .class_ 4), (0, .nameAndType 5 6), (0, u "java/util/ImmutableCollections$AbstractImmutableList"), (0, u "<init>"), (0, u "()V"), (0, .methodref 8 9), (0, .class_ 10), (0, .nameAndType 11 12), (0, u "java/util/Objects"), (0, u "requireNonNull"), (0, u "(Ljava/lang/Object;)Ljava/lang/Object;"), (0, .fieldref 14 15), (0, .class_ 16), (0, .nameAndType 17 18), (0, u "java/util/ImmutableCollections$List12"), (0, u "e0"), (0, u "Ljava/lang/Object;"), (0, .fieldref 20 21), (0, .class_ 22), (0, .nameAndType 23 18), (0, u "java/util/ImmutableCollections"), (0, u "EMPTY"), (0, .fieldref 14 25), (0, .nameAndType 26 18), (0, u "e1"), (43, .class_ 71), (0, u "java/io/Serializable"), (4, u "(Ljava/lang/Object;)V"), (8, u "(Ljava/lang/Object;Ljava/lang/Object;)V"), (2, u "isEmpty"), (0, u "()Z")] 35

def k25c0 : Code := { maxStack := 2, maxLocals := 2, code := jdk_44_method_1_code, exceptionTable := #[], attributes := #[] }
def k25m0 : Method := { name := "<init>", desc := "(Ljava/lang/Object;)V", sig := { parameters := [(.object "java/lang/Object")], returnType := none }, accessFlags := 0, code := some k25c0 }
def k25c1 : Code := { maxStack := 2, maxLocals := 3, code := jdk_44_method_2_code, exceptionTable := #[], attributes := #[] }
def k25m1 : Method := { name := "<init>", desc := "(Ljava/lang/Object;Ljava/lang/Object;)V", sig := { parameters := [(.object "java/lang/Object"), (.object "java/lang/Object")], returnType := none }, accessFlags := 0, code := some k25c1 }
def k25c2 : Code := { maxStack := 1, maxLocals := 1, code := jdk_44_method_4_code, exceptionTable := #[], attributes := #[] }
def k25m2 : Method := { name := "isEmpty", desc := "()Z", sig := { parameters := [], returnType := some .boolean }, accessFlags := 1, code := some k25c2 }
/-- java/util/ImmutableCollections$List12 -/
def k25 : Class := { plain "java/util/ImmutableCollections$List12" (some 24) with
  accessFlags := 48
  interfaces := #[10]
  cf := some (fileOf pool25 14 #[.nestHost 20] #[{ accessFlags := 0, nameIndex := 5, descriptorIndex := 76, attributes := #[] }, { accessFlags := 0, nameIndex := 5, descriptorIndex := 85, attributes := #[] }, { accessFlags := 1, nameIndex := 88, descriptorIndex := 89, attributes := #[] }] 48 2 #[70] #[{ accessFlags := 18, nameIndex := 17, descriptorIndex := 18, attributes := #[] }, { accessFlags := 18, nameIndex := 26, descriptorIndex := 18, attributes := #[] }])
  fields := #[{ name := "e0", type := (.object "java/lang/Object"), accessFlags := 18, slot := 0, constantValue := 0 }, { name := "e1", type := (.object "java/lang/Object"), accessFlags := 18, slot := 1, constantValue := 0 }]
  methods := #[k25m0, k25m1, k25m2]
  instanceTypes := #[(.object "java/lang/Object"), (.object "java/lang/Object")]
  staticTypes := #[]
  resolved := Array.replicate 125 none
  statics := none }

def pool26 : Array CpInfo := pool [(2, .class_ 4), (1, u "java/util/ImmutableCollections$AbstractImmutableList"), (2, .fieldref 8 9), (0, .class_ 10), (0, .nameAndType 11 12), (0, u "java/util/ImmutableCollections$ListN"), (0, u "elements"), (0, u "[Ljava/lang/Object;"), (2, u "allowNulls"), (0, u "Z"), (42, .class_ 60), (0, u "java/io/Serializable"), (13, u "isEmpty"), (0, u "()Z"), (38, .class_ 115), (0, u "java/util/ImmutableCollections")] 3

def k26c0 : Code := { maxStack := 1, maxLocals := 1, code := jdk_45_method_2_code, exceptionTable := #[], attributes := #[] }
def k26m0 : Method := { name := "isEmpty", desc := "()Z", sig := { parameters := [], returnType := some .boolean }, accessFlags := 1, code := some k26c0 }
/-- java/util/ImmutableCollections$ListN -/
def k26 : Class := { plain "java/util/ImmutableCollections$ListN" (some 24) with
  accessFlags := 48
  interfaces := #[10]
  cf := some (fileOf pool26 8 #[.nestHost 114] #[{ accessFlags := 1, nameIndex := 74, descriptorIndex := 75, attributes := #[] }] 48 2 #[59] #[{ accessFlags := 18, nameIndex := 11, descriptorIndex := 12, attributes := #[] }, { accessFlags := 18, nameIndex := 15, descriptorIndex := 16, attributes := #[] }])
  fields := #[{ name := "elements", type := (.array (.object "java/lang/Object")), accessFlags := 18, slot := 0, constantValue := 0 }, { name := "allowNulls", type := .boolean, accessFlags := 18, slot := 1, constantValue := 0 }]
  methods := #[k26m0]
  instanceTypes := #[(.array (.object "java/lang/Object")), .boolean]
  staticTypes := #[]
  resolved := Array.replicate 119 none
  statics := none }

def pool27 : Array CpInfo := pool [(1, .class_ 2), (0, u "com/example/declared_endpoints/declaredendpoints/model/FieldType"), (0, .class_ 4), (0, u "com/example/declared_endpoints/declaredendpoints/model/FieldType$Container"), (2, u "LIST"), (0, u "Lcom/example/declared_endpoints/declaredendpoints/model/FieldType$Container;"), (2, u "MAP"), (2, u "$VALUES"), (0, u "[Lcom/example/declared_endpoints/declaredendpoints/model/FieldType$Container;"), (6, .class_ 24), (1, u "java/lang/Enum")] 50

/-- com/example/declared_endpoints/declaredendpoints/model/FieldType$Container -/
def k27 : Class := { plain "com/example/declared_endpoints/declaredendpoints/model/FieldType$Container" (some 16) with
  accessFlags := 16433
  interfaces := #[]
  cf := some (fileOf pool27 3 #[.nestHost 1] #[] 16433 22 #[] #[{ accessFlags := 16409, nameIndex := 7, descriptorIndex := 8, attributes := #[] }, { accessFlags := 16409, nameIndex := 11, descriptorIndex := 8, attributes := #[] }, { accessFlags := 4122, nameIndex := 14, descriptorIndex := 15, attributes := #[] }])
  fields := #[{ name := "LIST", type := (.object "com/example/declared_endpoints/declaredendpoints/model/FieldType$Container"), accessFlags := 16409, slot := 0, constantValue := 0 }, { name := "MAP", type := (.object "com/example/declared_endpoints/declaredendpoints/model/FieldType$Container"), accessFlags := 16409, slot := 1, constantValue := 0 }, { name := "$VALUES", type := (.array (.object "com/example/declared_endpoints/declaredendpoints/model/FieldType$Container")), accessFlags := 4122, slot := 2, constantValue := 0 }]
  methods := #[]
  instanceTypes := #[(.object "java/lang/String"), .int, .int]
  staticTypes := #[(.object "com/example/declared_endpoints/declaredendpoints/model/FieldType$Container"), (.object "com/example/declared_endpoints/declaredendpoints/model/FieldType$Container"), (.array (.object "com/example/declared_endpoints/declaredendpoints/model/FieldType$Container"))]
  resolved := Array.replicate 75 none
  statics := some 3 }

def pool28 : Array CpInfo := pool [(1, .class_ 2), (0, u "java/lang/Math"), (1, .class_ 6), (1, u "java/lang/Object"), (0, u "<init>"), (0, u "()V"), (89, .class_ 100), (1, u "java/lang/Math$RandomNumberGeneratorHolder"), (71, u "negativeZeroFloatBits"), (0, u "J"), (2, u "negativeZeroDoubleBits"), (21, u "max"), (2, u "min"), (43, u "$assertionsDisabled"), (0, u "Z"), (88, u "(II)I"), (2, u "twoToTheDoubleScaleDown"), (0, u "D"), (4, u "twoToTheDoubleScaleUp"), (9, u "E"), (3, u "PI"), (2, u "TAU"), (2, u "DEGREES_TO_RADIANS"), (0, u "RADIANS_TO_DEGREES")] 94

def k28m0 : Method := { name := "<init>", desc := "()V", sig := { parameters := [], returnType := none }, accessFlags := 2, code := none }
def k28c1 : Code := { maxStack := 2, maxLocals := 2, code := jdk_29_method_65_code, exceptionTable := #[], attributes := #[] }
def k28m1 : Method := { name := "max", desc := "(II)I", sig := { parameters := [.int, .int], returnType := some .int }, accessFlags := 9, code := some k28c1 }
def k28c2 : Code := { maxStack := 2, maxLocals := 2, code := jdk_29_method_69_code, exceptionTable := #[], attributes := #[] }
def k28m2 : Method := { name := "min", desc := "(II)I", sig := { parameters := [.int, .int], returnType := some .int }, accessFlags := 9, code := some k28c2 }
/-- java/lang/Math -/
def k28 : Class := { plain "java/lang/Math" (some 0) with
  accessFlags := 49
  interfaces := #[]
  cf := some (fileOf pool28 1 #[.nestMembers #[98]] #[{ accessFlags := 2, nameIndex := 7, descriptorIndex := 8, attributes := #[] }, { accessFlags := 9, nameIndex := 198, descriptorIndex := 335, attributes := #[] }, { accessFlags := 9, nameIndex := 201, descriptorIndex := 335, attributes := #[] }] 49 4 #[] #[{ accessFlags := 25, nameIndex := 354, descriptorIndex := 339, attributes := #[] }, { accessFlags := 25, nameIndex := 358, descriptorIndex := 339, attributes := #[] }, { accessFlags := 25, nameIndex := 361, descriptorIndex := 339, attributes := #[] }, { accessFlags := 26, nameIndex := 364, descriptorIndex := 339, attributes := #[] }, { accessFlags := 26, nameIndex := 365, descriptorIndex := 339, attributes := #[] }, { accessFlags := 26, nameIndex := 172, descriptorIndex := 173, attributes := #[] }, { accessFlags := 26, nameIndex := 176, descriptorIndex := 173, attributes := #[] }, { accessFlags := 8, nameIndex := 344, descriptorIndex := 339, attributes := #[] }, { accessFlags := 8, nameIndex := 338, descriptorIndex := 339, attributes := #[] }, { accessFlags := 4120, nameIndex := 245, descriptorIndex := 246, attributes := #[] }])
  fields := #[{ name := "E", type := .double, accessFlags := 25, slot := 0, constantValue := 0 }, { name := "PI", type := .double, accessFlags := 25, slot := 1, constantValue := 0 }, { name := "TAU", type := .double, accessFlags := 25, slot := 2, constantValue := 0 }, { name := "DEGREES_TO_RADIANS", type := .double, accessFlags := 26, slot := 3, constantValue := 0 }, { name := "RADIANS_TO_DEGREES", type := .double, accessFlags := 26, slot := 4, constantValue := 0 }, { name := "negativeZeroFloatBits", type := .long, accessFlags := 26, slot := 5, constantValue := 0 }, { name := "negativeZeroDoubleBits", type := .long, accessFlags := 26, slot := 6, constantValue := 0 }, { name := "twoToTheDoubleScaleUp", type := .double, accessFlags := 8, slot := 7, constantValue := 0 }, { name := "twoToTheDoubleScaleDown", type := .double, accessFlags := 8, slot := 8, constantValue := 0 }, { name := "$assertionsDisabled", type := .boolean, accessFlags := 4120, slot := 9, constantValue := 0 }]
  methods := #[k28m0, k28m1, k28m2]
  instanceTypes := #[]
  staticTypes := #[.double, .double, .double, .double, .double, .long, .long, .double, .double, .boolean]
  resolved := Array.replicate 460 none
  statics := none }

def pool29 : Array CpInfo := pool [(2, .class_ 4), (1, u "java/lang/Object"), (0, u "<init>"), (0, u "()V"), (7, .class_ 16), (1, u "java/util/Arrays"), (57, .class_ 76), (1, u "java/util/Arrays$NaturalOrder"), (9, .methodref 2 87), (0, .nameAndType 88 89), (0, u "getClass"), (0, u "()Ljava/lang/Class;"), (20, .class_ 111), (0, u "[Ljava/lang/Object;"), (1, .class_ 115), (1, u "java/util/Arrays$LegacyMergeSort"), (1, u "Z"), (32, .methodref 151 152), (0, .class_ 153), (0, .nameAndType 154 155), (0, u "java/lang/System"), (0, u "arraycopy"), (0, u "(Ljava/lang/Object;ILjava/lang/Object;II)V"), (144, .methodref 14 301), (0, .nameAndType 302 303), (0, u "copyOf"), (0, u "([Ljava/lang/Object;ILjava/lang/Class;)[Ljava/lang/Object;"), (0, .methodref 305 306), (0, .class_ 307), (0, .nameAndType 308 309), (0, u "java/lang/Math"), (0, u "min"), (0, u "(II)I"), (65, .class_ 376), (0, u "java/util/Arrays$ArrayList"), (68, u "$assertionsDisabled"), (269, u "MIN_ARRAY_SORT_GRAN"), (0, u "I"), (2, u "INSERTIONSORT_THRESHOLD"), (140, u "([Ljava/lang/Object;I)[Ljava/lang/Object;"), (114, .class_ 976), (0, u "java/util/Arrays$ArrayItr")] 52

def k29m0 : Method := { name := "<init>", desc := "()V", sig := { parameters := [], returnType := none }, accessFlags := 2, code := none }
def k29c1 : Code := { maxStack := 3, maxLocals := 2, code := jdk_65_method_119_code, exceptionTable := #[], attributes := #[] }
def k29m1 : Method := { name := "copyOf", desc := "([Ljava/lang/Object;I)[Ljava/lang/Object;", sig := { parameters := [(.array (.object "java/lang/Object")), .int], returnType := some (.array (.object "java/lang/Object")) }, accessFlags := 9, code := some k29c1 }
def k29c2 : Code := { maxStack := 6, maxLocals := 4, code := jdk_65_method_120_code, exceptionTable := #[], attributes := #[] }
def k29m2 : Method := { name := "copyOf", desc := "([Ljava/lang/Object;ILjava/lang/Class;)[Ljava/lang/Object;", sig := { parameters := [(.array (.object "java/lang/Object")), .int, (.object "java/lang/Class")], returnType := some (.array (.object "java/lang/Object")) }, accessFlags := 9, code := some k29c2 }
/-- java/util/Arrays -/
def k29 : Class := { plain "java/util/Arrays" (some 0) with
  accessFlags := 49
  interfaces := #[]
  cf := some (fileOf pool29 14 #[.nestMembers #[975, 375, 113, 74]] #[{ accessFlags := 2, nameIndex := 5, descriptorIndex := 6, attributes := #[] }, { accessFlags := 9, nameIndex := 302, descriptorIndex := 860, attributes := #[] }, { accessFlags := 9, nameIndex := 302, descriptorIndex := 303, attributes := #[] }] 49 2 #[] #[{ accessFlags := 26, nameIndex := 715, descriptorIndex := 716, attributes := #[] }, { accessFlags := 26, nameIndex := 719, descriptorIndex := 716, attributes := #[] }, { accessFlags := 4120, nameIndex := 445, descriptorIndex := 117, attributes := #[] }])
  fields := #[{ name := "MIN_ARRAY_SORT_GRAN", type := .int, accessFlags := 26, slot := 0, constantValue := 0 }, { name := "INSERTIONSORT_THRESHOLD", type := .int, accessFlags := 26, slot := 1, constantValue := 0 }, { name := "$assertionsDisabled", type := .boolean, accessFlags := 4120, slot := 2, constantValue := 0 }]
  methods := #[k29m0, k29m1, k29m2]
  instanceTypes := #[]
  staticTypes := #[.int, .int, .boolean]
  resolved := Array.replicate 1029 none
  statics := none }

def pool30 : Array CpInfo := pool [(2, .class_ 4), (1, u "java/lang/Object"), (0, u "<init>"), (0, u "()V"), (1, .class_ 10), (1, u "java/lang/System"), (0, u "allowSecurityManager"), (0, u "I"), (16, u "cons"), (0, u "Ljava/io/Console;"), (77, .class_ 110), (1, u "java/lang/System$CallersHolder"), (43, u "initialErrStream"), (0, u "Ljava/io/PrintStream;"), (19, u "security"), (0, u "Ljava/lang/SecurityManager;"), (31, .class_ 209), (0, u "java/lang/System$1"), (7, u "props"), (0, u "Ljava/util/Properties;"), (2, u "lineSeparator"), (0, u "Ljava/lang/String;"), (96, .class_ 321), (1, u "java/lang/System$LoggerFinder"), (5, .class_ 328), (0, u "java/lang/System$Logger"), (67, u "err"), (2, u "out"), (91, u "notSupportedJnuEncoding"), (15, u "in"), (17, u "initialIn"), (0, u "Ljava/io/InputStream;"), (35, u "bootLayer"), (0, u "Ljava/lang/ModuleLayer;"), (99, .class_ 664), (0, u "java/lang/System$2"), (9, u "NEVER"), (2, u "MAYBE"), (49, u "arraycopy"), (0, u "(Ljava/lang/Object;ILjava/lang/Object;II)V"), (72, .class_ 802), (0, u "java/lang/System$Logger$Level")] 31

def k30m0 : Method := { name := "<init>", desc := "()V", sig := { parameters := [], returnType := none }, accessFlags := 2, code := none }
def k30m1 : Method := { name := "arraycopy", desc := "(Ljava/lang/Object;ILjava/lang/Object;II)V", sig := { parameters := [(.object "java/lang/Object"), .int, (.object "java/lang/Object"), .int, .int], returnType := none }, accessFlags := 265, code := none }
/-- java/lang/System -/
def k30 : Class := { plain "java/lang/System" (some 0) with
  accessFlags := 49
  interfaces := #[]
  cf := some (fileOf pool30 8 #[.nestMembers #[319, 327, 801, 108, 663, 208]] #[{ accessFlags := 2, nameIndex := 5, descriptorIndex := 6, attributes := #[] }, { accessFlags := 265, nameIndex := 727, descriptorIndex := 728, attributes := #[] }] 49 2 #[] #[{ accessFlags := 25, nameIndex := 507, descriptorIndex := 526, attributes := #[] }, { accessFlags := 25, nameIndex := 399, descriptorIndex := 155, attributes := #[] }, { accessFlags := 25, nameIndex := 396, descriptorIndex := 155, attributes := #[] }, { accessFlags := 10, nameIndex := 525, descriptorIndex := 526, attributes := #[] }, { accessFlags := 26, nameIndex := 674, descriptorIndex := 12, attributes := #[] }, { accessFlags := 26, nameIndex := 677, descriptorIndex := 12, attributes := #[] }, { accessFlags := 10, nameIndex := 11, descriptorIndex := 12, attributes := #[] }, { accessFlags := 74, nameIndex := 175, descriptorIndex := 176, attributes := #[] }, { accessFlags := 10, nameIndex := 491, descriptorIndex := 222, attributes := #[] }, { accessFlags := 74, nameIndex := 29, descriptorIndex := 30, attributes := #[] }, { accessFlags := 74, nameIndex := 154, descriptorIndex := 155, attributes := #[] }, { accessFlags := 10, nameIndex := 217, descriptorIndex := 218, attributes := #[] }, { accessFlags := 10, nameIndex := 221, descriptorIndex := 222, attributes := #[] }, { accessFlags := 8, nameIndex := 562, descriptorIndex := 563, attributes := #[] }])
  fields := #[{ name := "in", type := (.object "java/io/InputStream"), accessFlags := 25, slot := 0, constantValue := 0 }, { name := "out", type := (.object "java/io/PrintStream"), accessFlags := 25, slot := 1, constantValue := 0 }, { name := "err", type := (.object "java/io/PrintStream"), accessFlags := 25, slot := 2, constantValue := 0 }, { name := "initialIn", type := (.object "java/io/InputStream"), accessFlags := 10, slot := 3, constantValue := 0 }, { name := "NEVER", type := .int, accessFlags := 26, slot := 4, constantValue := 0 }, { name := "MAYBE", type := .int, accessFlags := 26, slot := 5, constantValue := 0 }, { name := "allowSecurityManager", type := .int, accessFlags := 10, slot := 6, constantValue := 0 }, { name := "security", type := (.object "java/lang/SecurityManager"), accessFlags := 74, slot := 7, constantValue := 0 }, { name := "notSupportedJnuEncoding", type := (.object "java/lang/String"), accessFlags := 10, slot := 8, constantValue := 0 }, { name := "cons", type := (.object "java/io/Console"), accessFlags := 74, slot := 9, constantValue := 0 }, { name := "initialErrStream", type := (.object "java/io/PrintStream"), accessFlags := 74, slot := 10, constantValue := 0 }, { name := "props", type := (.object "java/util/Properties"), accessFlags := 10, slot := 11, constantValue := 0 }, { name := "lineSeparator", type := (.object "java/lang/String"), accessFlags := 10, slot := 12, constantValue := 0 }, { name := "bootLayer", type := (.object "java/lang/ModuleLayer"), accessFlags := 8, slot := 13, constantValue := 0 }]
  methods := #[k30m0, k30m1]
  instanceTypes := #[]
  staticTypes := #[(.object "java/io/InputStream"), (.object "java/io/PrintStream"), (.object "java/io/PrintStream"), (.object "java/io/InputStream"), .int, .int, .int, (.object "java/lang/SecurityManager"), (.object "java/lang/String"), (.object "java/io/Console"), (.object "java/io/PrintStream"), (.object "java/util/Properties"), (.object "java/lang/String"), (.object "java/lang/ModuleLayer")]
  resolved := Array.replicate 834 none
  statics := none }

def pool31 : Array CpInfo := pool [(1, u "java/lang/Class"), (0, .class_ 1), (0, u "java/lang/Object"), (0, .class_ 3)] 0

/-- java/lang/Class -/
def k31 : Class := { plain "java/lang/Class" (some 0) with
  accessFlags := 49
  interfaces := #[]
  cf := some (fileOf pool31 2 #[] #[] 49 4 #[] #[])
  fields := #[]
  methods := #[]
  instanceTypes := #[]
  staticTypes := #[]
  resolved := Array.replicate 5 none
  statics := none }

/-- the primitive byte -/
def k32 : Class := { plain "byte" none with kind := .primitive 'B', accessFlags := 0x411 }
/-- [B -/
def k33 : Class := { plain "[B" (some 0) with kind := .array 32 .byte, interfaces := #[9, 10], accessFlags := 1041 }

/-- the primitive int -/
def k34 : Class := { plain "int" none with kind := .primitive 'I', accessFlags := 0x411 }
/-- [I -/
def k35 : Class := { plain "[I" (some 0) with kind := .array 34 .int, interfaces := #[9, 10], accessFlags := 1041 }

/-- [Ljava/lang/Object; -/
def k36 : Class := { plain "[Ljava/lang/Object;" (some 0) with kind := .array 0 (.object "java/lang/Object"), interfaces := #[9, 10], accessFlags := 1041, mirror := some 4 }

def heap : Heap := #[{ cls := 11, slots := #[.long 0, .int 0, .ref 16, .ref 17], vm := .statics 11 },
  { cls := 17, slots := #[.ref 7, .ref 9, .ref 13, .ref 11, .ref 15, .ref 12, .ref 8, .null], vm := .statics 17 },
  { cls := 22, slots := #[.long 0, .int 0, .null, .ref 18, .ref 6, .null, .null, .null, .int 0, .int 1], vm := .statics 22 },
  { cls := 27, slots := #[.ref 14, .ref 10, .null], vm := .statics 27 },
  { cls := 31, slots := #[], vm := .mirror 36 },
  { cls := 36, slots := #[], vm := .none },
  { cls := 26, slots := #[.ref 5, .int 0], vm := .none },
  { cls := 17, slots := #[.null, .int 0, .int 0], vm := .none },
  { cls := 17, slots := #[.null, .int 6, .int 0], vm := .none },
  { cls := 17, slots := #[.null, .int 1, .int 0], vm := .none },
  { cls := 27, slots := #[.null, .int 0, .int 0], vm := .none },
  { cls := 17, slots := #[.null, .int 3, .int 0], vm := .none },
  { cls := 17, slots := #[.null, .int 5, .int 0], vm := .none },
  { cls := 17, slots := #[.null, .int 2, .int 0], vm := .none },
  { cls := 27, slots := #[.null, .int 0, .int 0], vm := .none },
  { cls := 17, slots := #[.null, .int 4, .int 0], vm := .none },
  { cls := 36, slots := #[], vm := .none },
  { cls := 36, slots := #[], vm := .none },
  { cls := 0, slots := #[], vm := .none }]
def classes : Array Class := #[k0, k1, k2, k3, k4, k5, k6, k7, k8, k9, k10, k11, k12, k13, k14, k15, k16, k17, k18, k19, k20, k21, k22, k23, k24, k25, k26, k27, k28, k29, k30, k31, k32, k33, k34, k35, k36]
def interned : List (Array UInt16 × Addr) := []
def slotsUsed : Nat := 54
def theMethod : MethodId := ⟨1, 3⟩
def args0 : Array Value := #[.int 5, .int 6, .int 7]
def aboutOver (below : List Frame) : State where
  vm := { classes := classes, interned := interned.toArray }
  heap := heap
  slotsUsed := slotsUsed
  threads := #[{ frames := .invoking theMethod args0 :: below }]
def below0 : List Frame := [.native { method := ⟨0, 0⟩, args := #[] }]
def about1 : State := aboutOver below0
def p0 : Program := .bare "" "" ""
def e0 : Env := launch0.env 0 0 0
theorem w_frames : about1.frames = Frame.invoking theMethod args0 :: below0 := rfl
set_option maxRecDepth 65536 in
theorem w_args : argsFit about1.vm theMethod args0 = true := by decide +kernel
set_option maxRecDepth 65536 in
theorem w_heap : heapFits about1 = true := by decide +kernel
set_option maxRecDepth 65536 in
theorem w_runnable : about1.curStatus? = some .runnable := by decide +kernel
set_option maxRecDepth 65536 in
theorem w_alone : about1.alone = true := by decide +kernel
set_option maxRecDepth 65536 in
theorem w_named : about1.methodNamed? x = some theMethod := by decide +kernel
set_option maxRecDepth 65536 in
theorem w_hears : about1.hears theMethod below0 = true := by decide +kernel
set_option maxRecDepth 65536 in
theorem w_ripe : about1.ripe theMethod args0 below0 = true := by decide +kernel
theorem w_running : about1.status = .running := rfl
set_option maxRecDepth 65536 in
theorem w_room : about1.hasRoom e0.platform room_1 = true :=
  launch0.hasRoom_least _ room_1 (by decide +kernel) (by decide +kernel) (by decide +kernel) (by decide +kernel) (by decide +kernel) (by decide +kernel)
theorem allAtoms_all (ts : List Jvm.Cond) (a : Array Jvm.Value) (st : Jvm.State) : (allAtoms ts).before a st = ts.all (fun c => c.before a st) := by
  induction ts with
  | nil => rfl
  | cons c t ih =>
    show (Jvm.Cond.and c (allAtoms t)).before a st = _
    rw [Jvm.Cond.before_and, ih, List.all_cons]
def words1 : List Jvm.Cond := Jvm.Cond.code x code maxLocals ret :: tables_1
/-- a 'code' word, met by the world's own term for the bytes: nothing is compared byte by byte -/
theorem code_word {y : MethodName} {bytes : ByteArray} {mx : Nat} {rt : Option FieldType} {a : Array Value} {s : State} {m : MethodId} {meth : Method} {c : Code} (h1 : s.methodNamed? y = some m) (h2 : s.vm.method? m = some meth) (h3 : meth.code = some c) (h4 : c.code = bytes)
    (h5 : (c.maxLocals == mx && c.exceptionTable.isEmpty && decide (c.maxStack ≤ mostOperands) && decide (meth.sig.returnType = rt) && !meth.locks && decide (parseMethodDescriptor y.desc = some meth.sig)) = true) : (Jvm.Cond.code y bytes mx rt).before a s = true := by
  simp only [Bool.and_eq_true, beq_iff_eq, Bool.not_eq_true', decide_eq_true_eq] at h5
  obtain ⟨⟨⟨⟨⟨g1, g2⟩, g3⟩, g4⟩, g5⟩, g6⟩ := h5
  simp [Cond.before, Cond.holds, Cond.value, h1, h2, h3, h4, g1, g2, g3, g4, g5, g6]
def isCode : Jvm.Cond → Bool
  | .code _ _ _ _ => true
  | _ => false
theorem all_split {L : List Jvm.Cond} {P : Jvm.Cond → Bool} (h1 : L.all (fun c => isCode c || P c) = true) (h2 : ∀ c ∈ L.filter isCode, P c = true) : L.all P = true := by
  refine List.all_eq_true.mpr fun c hc => ?_
  have h := List.all_eq_true.mp h1 c hc
  rcases Bool.eq_false_or_eq_true (isCode c) with hi | hi
  · exact h2 c (List.mem_filter.mpr ⟨hc, hi⟩)
  · simpa [hi] using h
set_option maxRecDepth 65536 in
theorem w_c0 : (Jvm.Cond.code x code maxLocals ret).before args0 about1 = true := code_word (m := ⟨1, 3⟩) (meth := k1m3) (c := k1c3) (by decide +kernel) rfl rfl rfl (by decide +kernel)
set_option maxRecDepth 65536 in
theorem w_c1 : (Jvm.Cond.code ({ cls := "java/util/ArrayList", name := "<init>", desc := "()V" } : Jvm.MethodName) jdk_38_method_2_code (1 : Nat) (Option.none : Option Jvm.ClassFile.FieldType)).before args0 about1 = true := code_word (m := ⟨11, 0⟩) (meth := k11m0) (c := k11c0) (by decide +kernel) rfl rfl rfl (by decide +kernel)
set_option maxRecDepth 65536 in
theorem w_c2 : (Jvm.Cond.code ({ cls := "java/util/AbstractList", name := "<init>", desc := "()V" } : Jvm.MethodName) jdk_39_method_1_code (1 : Nat) (Option.none : Option Jvm.ClassFile.FieldType)).before args0 about1 = true := code_word (m := ⟨7, 0⟩) (meth := k7m0) (c := k7c0) (by decide +kernel) rfl rfl rfl (by decide +kernel)
set_option maxRecDepth 65536 in
theorem w_c3 : (Jvm.Cond.code ({ cls := "java/util/AbstractCollection", name := "<init>", desc := "()V" } : Jvm.MethodName) jdk_22_method_1_code (1 : Nat) (Option.none : Option Jvm.ClassFile.FieldType)).before args0 about1 = true := code_word (m := ⟨4, 0⟩) (meth := k4m0) (c := k4c0) (by decide +kernel) rfl rfl rfl (by decide +kernel)
set_option maxRecDepth 65536 in
theorem w_c4 : (Jvm.Cond.code ({ cls := "java/lang/Object", name := "<init>", desc := "()V" } : Jvm.MethodName) object_method_1_code (1 : Nat) (Option.none : Option Jvm.ClassFile.FieldType)).before args0 about1 = true := code_word (m := ⟨0, 0⟩) (meth := k0m0) (c := k0c0) (by decide +kernel) rfl rfl rfl (by decide +kernel)
set_option maxRecDepth 65536 in
theorem w_c5 : (Jvm.Cond.code ({ cls := "com/example/declared_endpoints/declaredendpoints/model/FieldTypeScalarPinLaw", name := "base", desc := "(I)Lcom/example/declared_endpoints/declaredendpoints/model/FieldType$Base;" } : Jvm.MethodName) method_2_code (1 : Nat) (Option.some (Jvm.ClassFile.FieldType.object "com/example/declared_endpoints/declaredendpoints/model/FieldType$Base"))).before args0 about1 = true := code_word (m := ⟨1, 1⟩) (meth := k1m1) (c := k1c1) (by decide +kernel) rfl rfl rfl (by decide +kernel)
set_option maxRecDepth 65536 in
theorem w_c6 : (Jvm.Cond.code ({ cls := "com/example/declared_endpoints/declaredendpoints/model/FieldType", name := "<init>", desc := "(Lcom/example/declared_endpoints/declaredendpoints/model/FieldType$Base;Ljava/util/List;)V" } : Jvm.MethodName) prog_22_method_1_code (3 : Nat) (Option.none : Option Jvm.ClassFile.FieldType)).before args0 about1 = true := code_word (m := ⟨13, 0⟩) (meth := k13m0) (c := k13c0) (by decide +kernel) rfl rfl rfl (by decide +kernel)
set_option maxRecDepth 65536 in
theorem w_c7 : (Jvm.Cond.code ({ cls := "java/lang/Record", name := "<init>", desc := "()V" } : Jvm.MethodName) jdk_30_method_1_code (1 : Nat) (Option.none : Option Jvm.ClassFile.FieldType)).before args0 about1 = true := code_word (m := ⟨12, 0⟩) (meth := k12m0) (c := k12c0) (by decide +kernel) rfl rfl rfl (by decide +kernel)
set_option maxRecDepth 65536 in
theorem w_c8 : (Jvm.Cond.code ({ cls := "java/util/Objects", name := "requireNonNull", desc := "(Ljava/lang/Object;Ljava/lang/String;)Ljava/lang/Object;" } : Jvm.MethodName) jdk_31_method_11_code (2 : Nat) (Option.some (Jvm.ClassFile.FieldType.object "java/lang/Object"))).before args0 about1 = true := code_word (m := ⟨21, 2⟩) (meth := k21m2) (c := k21c2) (by decide +kernel) rfl rfl rfl (by decide +kernel)
set_option maxRecDepth 65536 in
theorem w_c9 : (Jvm.Cond.code ({ cls := "java/util/List", name := "copyOf", desc := "(Ljava/util/Collection;)Ljava/util/List;" } : Jvm.MethodName) jdk_40_method_48_code (1 : Nat) (Option.some (Jvm.ClassFile.FieldType.object "java/util/List"))).before args0 about1 = true := code_word (m := ⟨6, 3⟩) (meth := k6m3) (c := k6c3) (by decide +kernel) rfl rfl rfl (by decide +kernel)
set_option maxRecDepth 65536 in
theorem w_c10 : (Jvm.Cond.code ({ cls := "java/util/ImmutableCollections", name := "listCopy", desc := "(Ljava/util/Collection;)Ljava/util/List;" } : Jvm.MethodName) jdk_56_method_3_code (2 : Nat) (Option.some (Jvm.ClassFile.FieldType.object "java/util/List"))).before args0 about1 = true := code_word (m := ⟨22, 1⟩) (meth := k22m1) (c := k22c1) (by decide +kernel) rfl rfl rfl (by decide +kernel)
set_option maxRecDepth 65536 in
theorem w_c11 : (Jvm.Cond.code ({ cls := "java/util/ArrayList", name := "isEmpty", desc := "()Z" } : Jvm.MethodName) jdk_38_method_9_code (1 : Nat) (Option.some Jvm.ClassFile.FieldType.boolean)).before args0 about1 = true := code_word (m := ⟨11, 3⟩) (meth := k11m3) (c := k11c3) (by decide +kernel) rfl rfl rfl (by decide +kernel)
set_option maxRecDepth 65536 in
theorem w_c12 : (Jvm.Cond.code ({ cls := "java/util/List", name := "of", desc := "()Ljava/util/List;" } : Jvm.MethodName) jdk_40_method_36_code (0 : Nat) (Option.some (Jvm.ClassFile.FieldType.object "java/util/List"))).before args0 about1 = true := code_word (m := ⟨6, 1⟩) (meth := k6m1) (c := k6c1) (by decide +kernel) rfl rfl rfl (by decide +kernel)
set_option maxRecDepth 65536 in
theorem w_c13 : (Jvm.Cond.code ({ cls := "com/example/declared_endpoints/declaredendpoints/model/FieldType", name := "scalar", desc := "()Z" } : Jvm.MethodName) prog_22_method_4_code (1 : Nat) (Option.some Jvm.ClassFile.FieldType.boolean)).before args0 about1 = true := code_word (m := ⟨13, 1⟩) (meth := k13m1) (c := k13c1) (by decide +kernel) rfl rfl rfl (by decide +kernel)
set_option maxRecDepth 65536 in
theorem w_c14 : (Jvm.Cond.code ({ cls := "java/util/ImmutableCollections$ListN", name := "isEmpty", desc := "()Z" } : Jvm.MethodName) jdk_45_method_2_code (1 : Nat) (Option.some Jvm.ClassFile.FieldType.boolean)).before args0 about1 = true := code_word (m := ⟨26, 0⟩) (meth := k26m0) (c := k26c0) (by decide +kernel) rfl rfl rfl (by decide +kernel)
set_option maxRecDepth 65536 in
theorem w_c15 : (Jvm.Cond.code ({ cls := "com/example/declared_endpoints/declaredendpoints/model/FieldTypeScalarPinLaw", name := "container", desc := "(I)Lcom/example/declared_endpoints/declaredendpoints/model/FieldType$Container;" } : Jvm.MethodName) method_3_code (1 : Nat) (Option.some (Jvm.ClassFile.FieldType.object "com/example/declared_endpoints/declaredendpoints/model/FieldType$Container"))).before args0 about1 = true := code_word (m := ⟨1, 2⟩) (meth := k1m2) (c := k1c2) (by decide +kernel) rfl rfl rfl (by decide +kernel)
set_option maxRecDepth 65536 in
theorem w_c16 : (Jvm.Cond.code ({ cls := "java/util/ArrayList", name := "add", desc := "(Ljava/lang/Object;)Z" } : Jvm.MethodName) jdk_38_method_25_code (2 : Nat) (Option.some Jvm.ClassFile.FieldType.boolean)).before args0 about1 = true := code_word (m := ⟨11, 6⟩) (meth := k11m6) (c := k11c6) (by decide +kernel) rfl rfl rfl (by decide +kernel)
set_option maxRecDepth 65536 in
theorem w_c17 : (Jvm.Cond.code ({ cls := "java/util/ArrayList", name := "add", desc := "(Ljava/lang/Object;[Ljava/lang/Object;I)V" } : Jvm.MethodName) jdk_38_method_24_code (4 : Nat) (Option.none : Option Jvm.ClassFile.FieldType)).before args0 about1 = true := code_word (m := ⟨11, 5⟩) (meth := k11m5) (c := k11c5) (by decide +kernel) rfl rfl rfl (by decide +kernel)
set_option maxRecDepth 65536 in
theorem w_c18 : (Jvm.Cond.code ({ cls := "java/util/ArrayList", name := "grow", desc := "()[Ljava/lang/Object;" } : Jvm.MethodName) jdk_38_method_7_code (1 : Nat) (Option.some (Jvm.ClassFile.FieldType.array (Jvm.ClassFile.FieldType.object "java/lang/Object")))).before args0 about1 = true := code_word (m := ⟨11, 2⟩) (meth := k11m2) (c := k11c2) (by decide +kernel) rfl rfl rfl (by decide +kernel)
set_option maxRecDepth 65536 in
theorem w_c19 : (Jvm.Cond.code ({ cls := "java/util/ArrayList", name := "grow", desc := "(I)[Ljava/lang/Object;" } : Jvm.MethodName) jdk_38_method_6_code (4 : Nat) (Option.some (Jvm.ClassFile.FieldType.array (Jvm.ClassFile.FieldType.object "java/lang/Object")))).before args0 about1 = true := code_word (m := ⟨11, 1⟩) (meth := k11m1) (c := k11c1) (by decide +kernel) rfl rfl rfl (by decide +kernel)
set_option maxRecDepth 65536 in
theorem w_c20 : (Jvm.Cond.code ({ cls := "java/lang/Math", name := "max", desc := "(II)I" } : Jvm.MethodName) jdk_29_method_65_code (2 : Nat) (Option.some Jvm.ClassFile.FieldType.int)).before args0 about1 = true := code_word (m := ⟨28, 1⟩) (meth := k28m1) (c := k28c1) (by decide +kernel) rfl rfl rfl (by decide +kernel)
set_option maxRecDepth 65536 in
theorem w_c21 : (Jvm.Cond.code ({ cls := "java/util/ArrayList", name := "toArray", desc := "()[Ljava/lang/Object;" } : Jvm.MethodName) jdk_38_method_16_code (1 : Nat) (Option.some (Jvm.ClassFile.FieldType.array (Jvm.ClassFile.FieldType.object "java/lang/Object")))).before args0 about1 = true := code_word (m := ⟨11, 4⟩) (meth := k11m4) (c := k11c4) (by decide +kernel) rfl rfl rfl (by decide +kernel)
set_option maxRecDepth 65536 in
theorem w_c22 : (Jvm.Cond.code ({ cls := "java/util/Arrays", name := "copyOf", desc := "([Ljava/lang/Object;I)[Ljava/lang/Object;" } : Jvm.MethodName) jdk_65_method_119_code (2 : Nat) (Option.some (Jvm.ClassFile.FieldType.array (Jvm.ClassFile.FieldType.object "java/lang/Object")))).before args0 about1 = true := code_word (m := ⟨29, 1⟩) (meth := k29m1) (c := k29c1) (by decide +kernel) rfl rfl rfl (by decide +kernel)
set_option maxRecDepth 65536 in
theorem w_c23 : (Jvm.Cond.code ({ cls := "java/util/Arrays", name := "copyOf", desc := "([Ljava/lang/Object;ILjava/lang/Class;)[Ljava/lang/Object;" } : Jvm.MethodName) jdk_65_method_120_code (4 : Nat) (Option.some (Jvm.ClassFile.FieldType.array (Jvm.ClassFile.FieldType.object "java/lang/Object")))).before args0 about1 = true := code_word (m := ⟨29, 2⟩) (meth := k29m2) (c := k29c2) (by decide +kernel) rfl rfl rfl (by decide +kernel)
set_option maxRecDepth 65536 in
theorem w_c24 : (Jvm.Cond.code ({ cls := "java/lang/Math", name := "min", desc := "(II)I" } : Jvm.MethodName) jdk_29_method_69_code (2 : Nat) (Option.some Jvm.ClassFile.FieldType.int)).before args0 about1 = true := code_word (m := ⟨28, 2⟩) (meth := k28m2) (c := k28c2) (by decide +kernel) rfl rfl rfl (by decide +kernel)
set_option maxRecDepth 65536 in
theorem w_c25 : (Jvm.Cond.code ({ cls := "java/util/List", name := "of", desc := "([Ljava/lang/Object;)Ljava/util/List;" } : Jvm.MethodName) jdk_40_method_47_code (2 : Nat) (Option.some (Jvm.ClassFile.FieldType.object "java/util/List"))).before args0 about1 = true := code_word (m := ⟨6, 2⟩) (meth := k6m2) (c := k6c2) (by decide +kernel) rfl rfl rfl (by decide +kernel)
set_option maxRecDepth 65536 in
theorem w_c26 : (Jvm.Cond.code ({ cls := "java/util/ImmutableCollections$List12", name := "<init>", desc := "(Ljava/lang/Object;Ljava/lang/Object;)V" } : Jvm.MethodName) jdk_44_method_2_code (3 : Nat) (Option.none : Option Jvm.ClassFile.FieldType)).before args0 about1 = true := code_word (m := ⟨25, 1⟩) (meth := k25m1) (c := k25c1) (by decide +kernel) rfl rfl rfl (by decide +kernel)
set_option maxRecDepth 65536 in
theorem w_c27 : (Jvm.Cond.code ({ cls := "java/util/ImmutableCollections$AbstractImmutableList", name := "<init>", desc := "()V" } : Jvm.MethodName) jdk_46_method_1_code (1 : Nat) (Option.none : Option Jvm.ClassFile.FieldType)).before args0 about1 = true := code_word (m := ⟨24, 0⟩) (meth := k24m0) (c := k24c0) (by decide +kernel) rfl rfl rfl (by decide +kernel)
set_option maxRecDepth 65536 in
theorem w_c28 : (Jvm.Cond.code ({ cls := "java/util/ImmutableCollections$AbstractImmutableCollection", name := "<init>", desc := "()V" } : Jvm.MethodName) jdk_47_method_1_code (1 : Nat) (Option.none : Option Jvm.ClassFile.FieldType)).before args0 about1 = true := code_word (m := ⟨23, 0⟩) (meth := k23m0) (c := k23c0) (by decide +kernel) rfl rfl rfl (by decide +kernel)
set_option maxRecDepth 65536 in
theorem w_c29 : (Jvm.Cond.code ({ cls := "java/util/Objects", name := "requireNonNull", desc := "(Ljava/lang/Object;)Ljava/lang/Object;" } : Jvm.MethodName) jdk_31_method_10_code (1 : Nat) (Option.some (Jvm.ClassFile.FieldType.object "java/lang/Object"))).before args0 about1 = true := code_word (m := ⟨21, 1⟩) (meth := k21m1) (c := k21c1) (by decide +kernel) rfl rfl rfl (by decide +kernel)
set_option maxRecDepth 65536 in
theorem w_c30 : (Jvm.Cond.code ({ cls := "java/util/ImmutableCollections$List12", name := "isEmpty", desc := "()Z" } : Jvm.MethodName) jdk_44_method_4_code (1 : Nat) (Option.some Jvm.ClassFile.FieldType.boolean)).before args0 about1 = true := code_word (m := ⟨25, 2⟩) (meth := k25m2) (c := k25c2) (by decide +kernel) rfl rfl rfl (by decide +kernel)
set_option maxRecDepth 65536 in
theorem w_c31 : (Jvm.Cond.code ({ cls := "java/util/ImmutableCollections$List12", name := "<init>", desc := "(Ljava/lang/Object;)V" } : Jvm.MethodName) jdk_44_method_1_code (2 : Nat) (Option.none : Option Jvm.ClassFile.FieldType)).before args0 about1 = true := code_word (m := ⟨25, 0⟩) (meth := k25m0) (c := k25c0) (by decide +kernel) rfl rfl rfl (by decide +kernel)
def codes1 : List Jvm.Cond := [Jvm.Cond.code x code maxLocals ret, Jvm.Cond.code ({ cls := "java/util/ArrayList", name := "<init>", desc := "()V" } : Jvm.MethodName) jdk_38_method_2_code (1 : Nat) (Option.none : Option Jvm.ClassFile.FieldType), Jvm.Cond.code ({ cls := "java/util/AbstractList", name := "<init>", desc := "()V" } : Jvm.MethodName) jdk_39_method_1_code (1 : Nat) (Option.none : Option Jvm.ClassFile.FieldType), Jvm.Cond.code ({ cls := "java/util/AbstractCollection", name := "<init>", desc := "()V" } : Jvm.MethodName) jdk_22_method_1_code (1 : Nat) (Option.none : Option Jvm.ClassFile.FieldType), Jvm.Cond.code ({ cls := "java/lang/Object", name := "<init>", desc := "()V" } : Jvm.MethodName) object_method_1_code (1 : Nat) (Option.none : Option Jvm.ClassFile.FieldType), Jvm.Cond.code ({ cls := "com/example/declared_endpoints/declaredendpoints/model/FieldTypeScalarPinLaw", name := "base", desc := "(I)Lcom/example/declared_endpoints/declaredendpoints/model/FieldType$Base;" } : Jvm.MethodName) method_2_code (1 : Nat) (Option.some (Jvm.ClassFile.FieldType.object "com/example/declared_endpoints/declaredendpoints/model/FieldType$Base")), Jvm.Cond.code ({ cls := "com/example/declared_endpoints/declaredendpoints/model/FieldType", name := "<init>", desc := "(Lcom/example/declared_endpoints/declaredendpoints/model/FieldType$Base;Ljava/util/List;)V" } : Jvm.MethodName) prog_22_method_1_code (3 : Nat) (Option.none : Option Jvm.ClassFile.FieldType), Jvm.Cond.code ({ cls := "java/lang/Record", name := "<init>", desc := "()V" } : Jvm.MethodName) jdk_30_method_1_code (1 : Nat) (Option.none : Option Jvm.ClassFile.FieldType), Jvm.Cond.code ({ cls := "java/util/Objects", name := "requireNonNull", desc := "(Ljava/lang/Object;Ljava/lang/String;)Ljava/lang/Object;" } : Jvm.MethodName) jdk_31_method_11_code (2 : Nat) (Option.some (Jvm.ClassFile.FieldType.object "java/lang/Object")), Jvm.Cond.code ({ cls := "java/util/List", name := "copyOf", desc := "(Ljava/util/Collection;)Ljava/util/List;" } : Jvm.MethodName) jdk_40_method_48_code (1 : Nat) (Option.some (Jvm.ClassFile.FieldType.object "java/util/List")), Jvm.Cond.code ({ cls := "java/util/ImmutableCollections", name := "listCopy", desc := "(Ljava/util/Collection;)Ljava/util/List;" } : Jvm.MethodName) jdk_56_method_3_code (2 : Nat) (Option.some (Jvm.ClassFile.FieldType.object "java/util/List")), Jvm.Cond.code ({ cls := "java/util/ArrayList", name := "isEmpty", desc := "()Z" } : Jvm.MethodName) jdk_38_method_9_code (1 : Nat) (Option.some Jvm.ClassFile.FieldType.boolean), Jvm.Cond.code ({ cls := "java/util/List", name := "of", desc := "()Ljava/util/List;" } : Jvm.MethodName) jdk_40_method_36_code (0 : Nat) (Option.some (Jvm.ClassFile.FieldType.object "java/util/List")), Jvm.Cond.code ({ cls := "com/example/declared_endpoints/declaredendpoints/model/FieldType", name := "scalar", desc := "()Z" } : Jvm.MethodName) prog_22_method_4_code (1 : Nat) (Option.some Jvm.ClassFile.FieldType.boolean), Jvm.Cond.code ({ cls := "java/util/ImmutableCollections$ListN", name := "isEmpty", desc := "()Z" } : Jvm.MethodName) jdk_45_method_2_code (1 : Nat) (Option.some Jvm.ClassFile.FieldType.boolean), Jvm.Cond.code ({ cls := "com/example/declared_endpoints/declaredendpoints/model/FieldTypeScalarPinLaw", name := "container", desc := "(I)Lcom/example/declared_endpoints/declaredendpoints/model/FieldType$Container;" } : Jvm.MethodName) method_3_code (1 : Nat) (Option.some (Jvm.ClassFile.FieldType.object "com/example/declared_endpoints/declaredendpoints/model/FieldType$Container")), Jvm.Cond.code ({ cls := "java/util/ArrayList", name := "add", desc := "(Ljava/lang/Object;)Z" } : Jvm.MethodName) jdk_38_method_25_code (2 : Nat) (Option.some Jvm.ClassFile.FieldType.boolean), Jvm.Cond.code ({ cls := "java/util/ArrayList", name := "add", desc := "(Ljava/lang/Object;[Ljava/lang/Object;I)V" } : Jvm.MethodName) jdk_38_method_24_code (4 : Nat) (Option.none : Option Jvm.ClassFile.FieldType), Jvm.Cond.code ({ cls := "java/util/ArrayList", name := "grow", desc := "()[Ljava/lang/Object;" } : Jvm.MethodName) jdk_38_method_7_code (1 : Nat) (Option.some (Jvm.ClassFile.FieldType.array (Jvm.ClassFile.FieldType.object "java/lang/Object"))), Jvm.Cond.code ({ cls := "java/util/ArrayList", name := "grow", desc := "(I)[Ljava/lang/Object;" } : Jvm.MethodName) jdk_38_method_6_code (4 : Nat) (Option.some (Jvm.ClassFile.FieldType.array (Jvm.ClassFile.FieldType.object "java/lang/Object"))), Jvm.Cond.code ({ cls := "java/lang/Math", name := "max", desc := "(II)I" } : Jvm.MethodName) jdk_29_method_65_code (2 : Nat) (Option.some Jvm.ClassFile.FieldType.int), Jvm.Cond.code ({ cls := "java/util/ArrayList", name := "toArray", desc := "()[Ljava/lang/Object;" } : Jvm.MethodName) jdk_38_method_16_code (1 : Nat) (Option.some (Jvm.ClassFile.FieldType.array (Jvm.ClassFile.FieldType.object "java/lang/Object"))), Jvm.Cond.code ({ cls := "java/util/Arrays", name := "copyOf", desc := "([Ljava/lang/Object;I)[Ljava/lang/Object;" } : Jvm.MethodName) jdk_65_method_119_code (2 : Nat) (Option.some (Jvm.ClassFile.FieldType.array (Jvm.ClassFile.FieldType.object "java/lang/Object"))), Jvm.Cond.code ({ cls := "java/util/Arrays", name := "copyOf", desc := "([Ljava/lang/Object;ILjava/lang/Class;)[Ljava/lang/Object;" } : Jvm.MethodName) jdk_65_method_120_code (4 : Nat) (Option.some (Jvm.ClassFile.FieldType.array (Jvm.ClassFile.FieldType.object "java/lang/Object"))), Jvm.Cond.code ({ cls := "java/lang/Math", name := "min", desc := "(II)I" } : Jvm.MethodName) jdk_29_method_69_code (2 : Nat) (Option.some Jvm.ClassFile.FieldType.int), Jvm.Cond.code ({ cls := "java/util/List", name := "of", desc := "([Ljava/lang/Object;)Ljava/util/List;" } : Jvm.MethodName) jdk_40_method_47_code (2 : Nat) (Option.some (Jvm.ClassFile.FieldType.object "java/util/List")), Jvm.Cond.code ({ cls := "java/util/ImmutableCollections$List12", name := "<init>", desc := "(Ljava/lang/Object;Ljava/lang/Object;)V" } : Jvm.MethodName) jdk_44_method_2_code (3 : Nat) (Option.none : Option Jvm.ClassFile.FieldType), Jvm.Cond.code ({ cls := "java/util/ImmutableCollections$AbstractImmutableList", name := "<init>", desc := "()V" } : Jvm.MethodName) jdk_46_method_1_code (1 : Nat) (Option.none : Option Jvm.ClassFile.FieldType), Jvm.Cond.code ({ cls := "java/util/ImmutableCollections$AbstractImmutableCollection", name := "<init>", desc := "()V" } : Jvm.MethodName) jdk_47_method_1_code (1 : Nat) (Option.none : Option Jvm.ClassFile.FieldType), Jvm.Cond.code ({ cls := "java/util/Objects", name := "requireNonNull", desc := "(Ljava/lang/Object;)Ljava/lang/Object;" } : Jvm.MethodName) jdk_31_method_10_code (1 : Nat) (Option.some (Jvm.ClassFile.FieldType.object "java/lang/Object")), Jvm.Cond.code ({ cls := "java/util/ImmutableCollections$List12", name := "isEmpty", desc := "()Z" } : Jvm.MethodName) jdk_44_method_4_code (1 : Nat) (Option.some Jvm.ClassFile.FieldType.boolean), Jvm.Cond.code ({ cls := "java/util/ImmutableCollections$List12", name := "<init>", desc := "(Ljava/lang/Object;)V" } : Jvm.MethodName) jdk_44_method_1_code (2 : Nat) (Option.none : Option Jvm.ClassFile.FieldType)]
set_option maxRecDepth 65536 in
theorem codes_eq : words1.filter isCode = codes1 := rfl
theorem w_codes : ∀ c ∈ words1.filter isCode, c.before args0 about1 = true := by
  rw [codes_eq]
  intro c hc
  simp only [codes1, List.mem_cons, List.not_mem_nil, or_false] at hc
  rcases hc with rfl | rfl | rfl | rfl | rfl | rfl | rfl | rfl | rfl | rfl | rfl | rfl | rfl | rfl | rfl | rfl | rfl | rfl | rfl | rfl | rfl | rfl | rfl | rfl | rfl | rfl | rfl | rfl | rfl | rfl | rfl | rfl
  · exact w_c0
  · exact w_c1
  · exact w_c2
  · exact w_c3
  · exact w_c4
  · exact w_c5
  · exact w_c6
  · exact w_c7
  · exact w_c8
  · exact w_c9
  · exact w_c10
  · exact w_c11
  · exact w_c12
  · exact w_c13
  · exact w_c14
  · exact w_c15
  · exact w_c16
  · exact w_c17
  · exact w_c18
  · exact w_c19
  · exact w_c20
  · exact w_c21
  · exact w_c22
  · exact w_c23
  · exact w_c24
  · exact w_c25
  · exact w_c26
  · exact w_c27
  · exact w_c28
  · exact w_c29
  · exact w_c30
  · exact w_c31
set_option maxRecDepth 65536 in
theorem w_t1 : (words1.take 24).all (fun c => isCode c || c.before args0 about1) = true := by decide +kernel
set_option maxRecDepth 65536 in
theorem w_t2 : ((words1.drop 24).take 24).all (fun c => isCode c || c.before args0 about1) = true := by decide +kernel
set_option maxRecDepth 65536 in
theorem w_t3 : (((words1.drop 24).drop 24).take 24).all (fun c => isCode c || c.before args0 about1) = true := by decide +kernel
set_option maxRecDepth 65536 in
theorem w_t4 : ((((words1.drop 24).drop 24).drop 24).take 24).all (fun c => isCode c || c.before args0 about1) = true := by decide +kernel
set_option maxRecDepth 65536 in
theorem w_t5 : (((((words1.drop 24).drop 24).drop 24).drop 24).take 24).all (fun c => isCode c || c.before args0 about1) = true := by decide +kernel
set_option maxRecDepth 65536 in
theorem w_t6 : ((((((words1.drop 24).drop 24).drop 24).drop 24).drop 24).take 24).all (fun c => isCode c || c.before args0 about1) = true := by decide +kernel
set_option maxRecDepth 65536 in
theorem w_t7 : (((((((words1.drop 24).drop 24).drop 24).drop 24).drop 24).drop 24).take 24).all (fun c => isCode c || c.before args0 about1) = true := by decide +kernel
set_option maxRecDepth 65536 in
theorem w_t8 : ((((((((words1.drop 24).drop 24).drop 24).drop 24).drop 24).drop 24).drop 24).take 24).all (fun c => isCode c || c.before args0 about1) = true := by decide +kernel
set_option maxRecDepth 65536 in
theorem w_t9 : (((((((((words1.drop 24).drop 24).drop 24).drop 24).drop 24).drop 24).drop 24).drop 24).take 24).all (fun c => isCode c || c.before args0 about1) = true := by decide +kernel
set_option maxRecDepth 65536 in
theorem w_t10 : (((((((((words1.drop 24).drop 24).drop 24).drop 24).drop 24).drop 24).drop 24).drop 24).drop 24).all (fun c => isCode c || c.before args0 about1) = true := by decide +kernel
theorem w_tables : (allAtoms (Jvm.Cond.code x code maxLocals ret :: tables_1)).before args0 about1 = true := by
  rw [allAtoms_all]
  show words1.all (fun c => c.before args0 about1) = true
  refine all_split ?_ w_codes
  rw [← List.take_append_drop 24 words1, List.all_append, w_t1, ← List.take_append_drop 24 (words1.drop 24), List.all_append, w_t2, ← List.take_append_drop 24 ((words1.drop 24).drop 24), List.all_append, w_t3, ← List.take_append_drop 24 (((words1.drop 24).drop 24).drop 24), List.all_append, w_t4, ← List.take_append_drop 24 ((((words1.drop 24).drop 24).drop 24).drop 24), List.all_append, w_t5, ← List.take_append_drop 24 (((((words1.drop 24).drop 24).drop 24).drop 24).drop 24), List.all_append, w_t6, ← List.take_append_drop 24 ((((((words1.drop 24).drop 24).drop 24).drop 24).drop 24).drop 24), List.all_append, w_t7, ← List.take_append_drop 24 (((((((words1.drop 24).drop 24).drop 24).drop 24).drop 24).drop 24).drop 24), List.all_append, w_t8, ← List.take_append_drop 24 ((((((((words1.drop 24).drop 24).drop 24).drop 24).drop 24).drop 24).drop 24).drop 24), List.all_append, w_t9, w_t10]
  rfl
set_option maxRecDepth 65536 in
theorem w_rest : rest_1_c.before args0 about1 = true := by decide +kernel
set_option maxRecDepth 65536 in
theorem w_case : (Jvm.Cond.and given_1 narrow_1).before args0 about1 = true := by decide +kernel
theorem w_applies : (headSpec (Jvm.Cond.code x code maxLocals ret :: tables_1) room_1).applies x e0.platform about1 = true :=
  (Spec.applies_iff w_frames).mpr ⟨w_running, w_runnable, w_alone, w_named, w_hears, w_ripe, w_room, w_tables⟩
theorem atStart : AtStart classFile x code maxLocals ret World_1 tables_1 room_1 Calls_1 rest_1 Pre_1 launch0 p0 e0 about1 theMethod args0 below0 :=
  ⟨lists_1, trivial, launch0.admits_env _ _ _, launch0.least_env, fairChoices_fair.cas, fairChoices_fair.clock, w_frames, w_args, w_heap, w_applies, ⟨⟨36, k36, 4, by decide +kernel, rfl, rfl, _, rfl, rfl⟩, trivial⟩, w_rest, w_case⟩
end start1
theorem witness_1 : WitnessClaimed_1 := ⟨start1.p0, start1.e0, start1.about1, start1.theMethod, start1.args0, start1.below0, start1.atStart⟩
end Jvm.Pilot.@@N@@
