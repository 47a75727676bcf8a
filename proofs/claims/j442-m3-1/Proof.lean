import JvmDerived
import JvmDerived.Pilot.@@N@@Statement
import JvmDerived.Pilot.@@N@@Code
set_option linter.unusedVariables false
set_option linter.unusedSimpArgs false
@@BLOCK:NumsL.lean.txt@@
namespace Jvm.RoadKit
open Sem ClassFile Op Lib Jvm.Stand Jvm.Free Jvm.LawKit
section New
variable {p : Program} {l : Launch} {e : Env} {R : Room} {s : State} {m : MethodId} {args : Array Value} {below : List Frame} {meth : Method} {c : Code} {T : State} {locs : List Loc} {cells slots : Nat}
theorem retI (X : Stand p l e R s m args below meth c T locs cells slots) (hx : p.tables.exec = Jvm.exec) {pc : Nat} {Ls : Array Slot} {z : Int32} {rest : List Value} (hret : meth.sig.returnType = some .int) (hd : decode c.code pc = .ok (.ireturn, 1)) {fs : List Frame}
    (hl : ∀ (f : JFrame) (acts : List Action), f.method = m → f.locked = none → f.entered = [] → (doReturn e (T.setTop f) acts (some (.int z))).1 = T.setFrames fs) : Steps p.tables e below (T.setTop (mkF m pc Ls (.int z :: rest))) (T.setFrames fs) := by
  have hm' : T.vm.method? m = some meth := X.method'
  have hn : narrow .int (.int z) = .int z := rfl
  show Steps p.tables e below (T.setTop { method := m, pc := pc, locals := Ls, stack := _ :: rest, locked := none }) _
  jvm_step X.here [X.here.top, hx, hd, hm', hret, hn]
  first | (intro acts; rw [hl _ acts rfl rfl rfl]) | rw [hl _ _ rfl rfl rfl]
  exact Steps.refl _
end New
end Jvm.RoadKit
namespace Jvm.Pilot.@@N@@
open Jvm Jvm.ClassFile Sem Op Lib Jvm.Free Jvm.Stand Jvm.LawKit Jvm.RoadKit Bundle Jvm.Pilot.@@N@@.Jvm.D
/-- what a body that writes nothing leaves -/
def Qp (r : Option Value) (h0 : Heap) (n0 : Nat) (v : Option Value) (h : Heap) (L : List Loc) : Prop := v = r ∧ Fr n0 L ∧ h = h0
theorem own_fld {args : Array Value} {s : State} {t : Term} {C n d : String} {x : Addr} {k : Int32} (ht : t.eval args s none [] s = some (.ref x)) (h : (Cond.eq (.field t C n d) (.int k)).value args s none s [] = some true) : Fld s s.heap x C n d (.int k) := by
  obtain ⟨u, v, a1, a2, k1, -⟩ := cmp_v (Or.inl h)
  have a3 : (Term.int k).eval args s none [] s = some (.int k) := rfl
  cases a3.symm.trans a2
  have a4 : u = .int k := by
    cases u <;> simp [Cond.value, a1, a3] at h ⊢
    exact h
  subst a4
  rw [fld_at ht] at a1
  exact Fld.start a1
theorem own_fld_inj {Z : State} {h : Heap} {a : Addr} {C n d : String} {v w : Value} (F : Fld Z h a C n d v) (G : Fld Z h a C n d w) : v = w := by
  obtain ⟨c1, cf1, k1, i1, f1, h1, h2, -, -, -, -, h7⟩ := F
  obtain ⟨c2, cf2, k2, i2, f2, g1, g2, -, -, -, -, g7⟩ := G
  cases h1.symm.trans g1
  cases h2.symm.trans g2
  exact Option.some.inj (h7.symm.trans g7)
theorem own_fld_ne {Z : State} {h : Heap} {a b : Addr} {C n d : String} {v w : Int32} (F : Fld Z h a C n d (.int v)) (G : Fld Z h b C n d (.int w)) (hn : ¬ v = w) : a ≠ b := fun q => by
  subst q
  exact hn (Value.int.inj (own_fld_inj F G))
theorem nar_ref (t : FieldType) (w : Value) (h : w.isRef = true) : narrow t w = w := by
  rcases ref_cases h with rfl | ⟨a, rfl⟩ <;> cases t <;> rfl
theorem own_cat {v : Value} (h : v.isRef = true) : v.category = 1 := by
  rcases ref_cases h with rfl | ⟨a, rfl⟩ <;> rfl
theorem own_ite_ref {c : Prop} [Decidable c] {a b : Value} (ha : a.isRef = true) (hb : b.isRef = true) : (if c then a else b).isRef = true := by
  split <;> assumption

def Fx (Z : State) (h : Heap) (w_BY_TAG : Addr) (c_BY_TAG : Cell) (w_INTEGER : Addr) (w_UTF8 : Addr) (w_DOUBLE : Addr) (w_STRING : Addr) (w_NAME_AND_TYPE : Addr) (w_LONG : Addr) (w_METHOD_HANDLE : Addr) (w_MODULE : Addr) (w_CLASS : Addr) (w_METHODREF : Addr) (w_PACKAGE : Addr) (w_FIELDREF : Addr) (w_FLOAT : Addr) (w_INTERFACE_METHODREF : Addr) (w_DYNAMIC : Addr) (w_INVOKE_DYNAMIC : Addr) (w_METHOD_TYPE : Addr) : Prop := (Sta Z h "com/example/cafelens/cafelens/ConstantKind" "BY_TAG" "[Lcom/example/cafelens/cafelens/ConstantKind;" (.ref w_BY_TAG)) ∧ (Arr Z h w_BY_TAG c_BY_TAG (.object "com/example/cafelens/cafelens/ConstantKind")) ∧ (c_BY_TAG.slots.size = 21) ∧ (c_BY_TAG.slots[(0 : Nat)]? = some .null) ∧ (Sta Z h "com/example/cafelens/cafelens/ConstantKind" "INTEGER" "Lcom/example/cafelens/cafelens/ConstantKind;" (.ref w_INTEGER)) ∧ (Exa Z h w_INTEGER "com/example/cafelens/cafelens/ConstantKind") ∧ (c_BY_TAG.slots[(3 : Nat)]? = some (.ref w_INTEGER)) ∧ (c_BY_TAG.slots[(14 : Nat)]? = some .null) ∧ (Sta Z h "com/example/cafelens/cafelens/ConstantKind" "UTF8" "Lcom/example/cafelens/cafelens/ConstantKind;" (.ref w_UTF8)) ∧ (Exa Z h w_UTF8 "com/example/cafelens/cafelens/ConstantKind") ∧ (c_BY_TAG.slots[(1 : Nat)]? = some (.ref w_UTF8)) ∧ (Sta Z h "com/example/cafelens/cafelens/ConstantKind" "DOUBLE" "Lcom/example/cafelens/cafelens/ConstantKind;" (.ref w_DOUBLE)) ∧ (Exa Z h w_DOUBLE "com/example/cafelens/cafelens/ConstantKind") ∧ (c_BY_TAG.slots[(6 : Nat)]? = some (.ref w_DOUBLE)) ∧ (c_BY_TAG.slots[(13 : Nat)]? = some .null) ∧ (Sta Z h "com/example/cafelens/cafelens/ConstantKind" "STRING" "Lcom/example/cafelens/cafelens/ConstantKind;" (.ref w_STRING)) ∧ (Exa Z h w_STRING "com/example/cafelens/cafelens/ConstantKind") ∧ (c_BY_TAG.slots[(8 : Nat)]? = some (.ref w_STRING)) ∧ (Sta Z h "com/example/cafelens/cafelens/ConstantKind" "NAME_AND_TYPE" "Lcom/example/cafelens/cafelens/ConstantKind;" (.ref w_NAME_AND_TYPE)) ∧ (Exa Z h w_NAME_AND_TYPE "com/example/cafelens/cafelens/ConstantKind") ∧ (c_BY_TAG.slots[(12 : Nat)]? = some (.ref w_NAME_AND_TYPE)) ∧ (Sta Z h "com/example/cafelens/cafelens/ConstantKind" "LONG" "Lcom/example/cafelens/cafelens/ConstantKind;" (.ref w_LONG)) ∧ (Exa Z h w_LONG "com/example/cafelens/cafelens/ConstantKind") ∧ (c_BY_TAG.slots[(5 : Nat)]? = some (.ref w_LONG)) ∧ (Sta Z h "com/example/cafelens/cafelens/ConstantKind" "METHOD_HANDLE" "Lcom/example/cafelens/cafelens/ConstantKind;" (.ref w_METHOD_HANDLE)) ∧ (Exa Z h w_METHOD_HANDLE "com/example/cafelens/cafelens/ConstantKind") ∧ (c_BY_TAG.slots[(15 : Nat)]? = some (.ref w_METHOD_HANDLE)) ∧ (Sta Z h "com/example/cafelens/cafelens/ConstantKind" "MODULE" "Lcom/example/cafelens/cafelens/ConstantKind;" (.ref w_MODULE)) ∧ (Exa Z h w_MODULE "com/example/cafelens/cafelens/ConstantKind") ∧ (c_BY_TAG.slots[(19 : Nat)]? = some (.ref w_MODULE)) ∧ (Sta Z h "com/example/cafelens/cafelens/ConstantKind" "CLASS" "Lcom/example/cafelens/cafelens/ConstantKind;" (.ref w_CLASS)) ∧ (Exa Z h w_CLASS "com/example/cafelens/cafelens/ConstantKind") ∧ (c_BY_TAG.slots[(7 : Nat)]? = some (.ref w_CLASS)) ∧ (Sta Z h "com/example/cafelens/cafelens/ConstantKind" "METHODREF" "Lcom/example/cafelens/cafelens/ConstantKind;" (.ref w_METHODREF)) ∧ (Exa Z h w_METHODREF "com/example/cafelens/cafelens/ConstantKind") ∧ (c_BY_TAG.slots[(10 : Nat)]? = some (.ref w_METHODREF)) ∧ (c_BY_TAG.slots[(2 : Nat)]? = some .null) ∧ (Sta Z h "com/example/cafelens/cafelens/ConstantKind" "PACKAGE" "Lcom/example/cafelens/cafelens/ConstantKind;" (.ref w_PACKAGE)) ∧ (Exa Z h w_PACKAGE "com/example/cafelens/cafelens/ConstantKind") ∧ (c_BY_TAG.slots[(20 : Nat)]? = some (.ref w_PACKAGE)) ∧ (Sta Z h "com/example/cafelens/cafelens/ConstantKind" "FIELDREF" "Lcom/example/cafelens/cafelens/ConstantKind;" (.ref w_FIELDREF)) ∧ (Exa Z h w_FIELDREF "com/example/cafelens/cafelens/ConstantKind") ∧ (c_BY_TAG.slots[(9 : Nat)]? = some (.ref w_FIELDREF)) ∧ (Sta Z h "com/example/cafelens/cafelens/ConstantKind" "FLOAT" "Lcom/example/cafelens/cafelens/ConstantKind;" (.ref w_FLOAT)) ∧ (Exa Z h w_FLOAT "com/example/cafelens/cafelens/ConstantKind") ∧ (c_BY_TAG.slots[(4 : Nat)]? = some (.ref w_FLOAT)) ∧ (Sta Z h "com/example/cafelens/cafelens/ConstantKind" "INTERFACE_METHODREF" "Lcom/example/cafelens/cafelens/ConstantKind;" (.ref w_INTERFACE_METHODREF)) ∧ (Exa Z h w_INTERFACE_METHODREF "com/example/cafelens/cafelens/ConstantKind") ∧ (c_BY_TAG.slots[(11 : Nat)]? = some (.ref w_INTERFACE_METHODREF)) ∧ (Sta Z h "com/example/cafelens/cafelens/ConstantKind" "DYNAMIC" "Lcom/example/cafelens/cafelens/ConstantKind;" (.ref w_DYNAMIC)) ∧ (Exa Z h w_DYNAMIC "com/example/cafelens/cafelens/ConstantKind") ∧ (c_BY_TAG.slots[(17 : Nat)]? = some (.ref w_DYNAMIC)) ∧ (Sta Z h "com/example/cafelens/cafelens/ConstantKind" "INVOKE_DYNAMIC" "Lcom/example/cafelens/cafelens/ConstantKind;" (.ref w_INVOKE_DYNAMIC)) ∧ (Exa Z h w_INVOKE_DYNAMIC "com/example/cafelens/cafelens/ConstantKind") ∧ (c_BY_TAG.slots[(18 : Nat)]? = some (.ref w_INVOKE_DYNAMIC)) ∧ (Sta Z h "com/example/cafelens/cafelens/ConstantKind" "METHOD_TYPE" "Lcom/example/cafelens/cafelens/ConstantKind;" (.ref w_METHOD_TYPE)) ∧ (Exa Z h w_METHOD_TYPE "com/example/cafelens/cafelens/ConstantKind") ∧ (c_BY_TAG.slots[(16 : Nat)]? = some (.ref w_METHOD_TYPE))

theorem own_len {args : Array Value} {s : State} {t : Term} {x : Addr} {c : Cell} {ty : FieldType} {k : Nat} (ht : t.eval args s none [] s = some (.ref x)) (A : Arr s s.heap x c ty) (hk : k < 2 ^ 31) (h : (Cond.eq (.length t) (.int (Int32.ofNat k))).value args s none s [] = some true) : c.slots.size = k := by
  obtain ⟨u, v, a1, a2, k1, -⟩ := cmp_v (Or.inl h)
  have a3 : (Term.int (Int32.ofNat k)).eval args s none [] s = some (.int (Int32.ofNat k)) := rfl
  have ha := A.fin (Vm.Alike.refl _)
  by_cases hl : c.slots.size < 2 ^ 31
  · rw [len_f ht ha hl] at a1
    cases a1
    have e : c.slots.size.toInt32 = Int32.ofNat k := by
      have b1 := len_f ht ha hl
      simpa [Cond.value, b1, a3] using h
    have e2 := congrArg Int32.toInt e
    rw [len_toInt hl] at e2
    have e3 : (Int32.ofNat k).toInt = k := Int32.toInt_ofNat_small hk
    rw [e3] at e2
    exact_mod_cast e2
  · simp [Term.eval, ht, ha, hl] at a1
theorem own_elem {args : Array Value} {s : State} {t t' : Term} {x : Addr} {c : Cell} {ty : FieldType} {k : Nat} {w : Value} (ht : t.eval args s none [] s = some (.ref x)) (A : Arr s s.heap x c ty) (hk : (Int32.ofNat k).toNatClampNeg = k) (h : (Cond.eq (.elem t (.int (Int32.ofNat k))) t').value args s none s [] = some true) (hw : t'.eval args s none [] s = some w) (hr : w.isRef = true) : c.slots[k]? = some w := by
  obtain ⟨u, v, a1, a2, k1, -⟩ := cmp_v (Or.inl h)
  cases hw.symm.trans a2
  have a3 : (Term.int (Int32.ofNat k)).eval args s none [] s = some (.int (Int32.ofNat k)) := rfl
  have e := (elem_in a1 ht a3 A.1).2
  rw [hk] at e
  have hu : u.isRef = true := by
    rcases ref_cases hr with rfl | ⟨b, rfl⟩ <;> cases u <;> simp_all [Kin, Value.isRef]
  have q := gotT (eq_R a1 hw hu hr) h
  rw [e, q]
def tab (j : Int32) (w_BY_TAG : Addr) (w_INTEGER : Addr) (w_UTF8 : Addr) (w_DOUBLE : Addr) (w_STRING : Addr) (w_NAME_AND_TYPE : Addr) (w_LONG : Addr) (w_METHOD_HANDLE : Addr) (w_MODULE : Addr) (w_CLASS : Addr) (w_METHODREF : Addr) (w_PACKAGE : Addr) (w_FIELDREF : Addr) (w_FLOAT : Addr) (w_INTERFACE_METHODREF : Addr) (w_DYNAMIC : Addr) (w_INVOKE_DYNAMIC : Addr) (w_METHOD_TYPE : Addr) : Value := if j = (0 : Int32) then .null else if j = (1 : Int32) then (.ref w_UTF8) else if j = (2 : Int32) then .null else if j = (3 : Int32) then (.ref w_INTEGER) else if j = (4 : Int32) then (.ref w_FLOAT) else if j = (5 : Int32) then (.ref w_LONG) else if j = (6 : Int32) then (.ref w_DOUBLE) else if j = (7 : Int32) then (.ref w_CLASS) else if j = (8 : Int32) then (.ref w_STRING) else if j = (9 : Int32) then (.ref w_FIELDREF) else if j = (10 : Int32) then (.ref w_METHODREF) else if j = (11 : Int32) then (.ref w_INTERFACE_METHODREF) else if j = (12 : Int32) then (.ref w_NAME_AND_TYPE) else if j = (13 : Int32) then .null else if j = (14 : Int32) then .null else if j = (15 : Int32) then (.ref w_METHOD_HANDLE) else if j = (16 : Int32) then (.ref w_METHOD_TYPE) else if j = (17 : Int32) then (.ref w_DYNAMIC) else if j = (18 : Int32) then (.ref w_INVOKE_DYNAMIC) else if j = (19 : Int32) then (.ref w_MODULE) else (.ref w_PACKAGE)
theorem tab_ref (j : Int32) (w_BY_TAG : Addr) (w_INTEGER : Addr) (w_UTF8 : Addr) (w_DOUBLE : Addr) (w_STRING : Addr) (w_NAME_AND_TYPE : Addr) (w_LONG : Addr) (w_METHOD_HANDLE : Addr) (w_MODULE : Addr) (w_CLASS : Addr) (w_METHODREF : Addr) (w_PACKAGE : Addr) (w_FIELDREF : Addr) (w_FLOAT : Addr) (w_INTERFACE_METHODREF : Addr) (w_DYNAMIC : Addr) (w_INVOKE_DYNAMIC : Addr) (w_METHOD_TYPE : Addr) : (tab j w_BY_TAG w_INTEGER w_UTF8 w_DOUBLE w_STRING w_NAME_AND_TYPE w_LONG w_METHOD_HANDLE w_MODULE w_CLASS w_METHODREF w_PACKAGE w_FIELDREF w_FLOAT w_INTERFACE_METHODREF w_DYNAMIC w_INVOKE_DYNAMIC w_METHOD_TYPE).isRef = true := own_ite_ref rfl (own_ite_ref rfl (own_ite_ref rfl (own_ite_ref rfl (own_ite_ref rfl (own_ite_ref rfl (own_ite_ref rfl (own_ite_ref rfl (own_ite_ref rfl (own_ite_ref rfl (own_ite_ref rfl (own_ite_ref rfl (own_ite_ref rfl (own_ite_ref rfl (own_ite_ref rfl (own_ite_ref rfl (own_ite_ref rfl (own_ite_ref rfl (own_ite_ref rfl (own_ite_ref rfl (rfl))))))))))))))))))))
theorem own_cases21 (k : Int32) (h0 : 0 ≤ k.toInt) (h1 : k.toInt < 21) : k = (0 : Int32) ∨ k = (1 : Int32) ∨ k = (2 : Int32) ∨ k = (3 : Int32) ∨ k = (4 : Int32) ∨ k = (5 : Int32) ∨ k = (6 : Int32) ∨ k = (7 : Int32) ∨ k = (8 : Int32) ∨ k = (9 : Int32) ∨ k = (10 : Int32) ∨ k = (11 : Int32) ∨ k = (12 : Int32) ∨ k = (13 : Int32) ∨ k = (14 : Int32) ∨ k = (15 : Int32) ∨ k = (16 : Int32) ∨ k = (17 : Int32) ∨ k = (18 : Int32) ∨ k = (19 : Int32) ∨ k = (20 : Int32) := by
  have h : k.toInt = 0 ∨ k.toInt = 1 ∨ k.toInt = 2 ∨ k.toInt = 3 ∨ k.toInt = 4 ∨ k.toInt = 5 ∨ k.toInt = 6 ∨ k.toInt = 7 ∨ k.toInt = 8 ∨ k.toInt = 9 ∨ k.toInt = 10 ∨ k.toInt = 11 ∨ k.toInt = 12 ∨ k.toInt = 13 ∨ k.toInt = 14 ∨ k.toInt = 15 ∨ k.toInt = 16 ∨ k.toInt = 17 ∨ k.toInt = 18 ∨ k.toInt = 19 ∨ k.toInt = 20 := by omega
  rcases h with h | h | h | h | h | h | h | h | h | h | h | h | h | h | h | h | h | h | h | h | h
  · exact (Or.inl (Int32.toInt_inj.mp (h.trans (by decide : (0 : Int) = (0 : Int32).toInt))))
  · exact (Or.inr (Or.inl (Int32.toInt_inj.mp (h.trans (by decide : (1 : Int) = (1 : Int32).toInt)))))
  · exact (Or.inr (Or.inr (Or.inl (Int32.toInt_inj.mp (h.trans (by decide : (2 : Int) = (2 : Int32).toInt))))))
  · exact (Or.inr (Or.inr (Or.inr (Or.inl (Int32.toInt_inj.mp (h.trans (by decide : (3 : Int) = (3 : Int32).toInt)))))))
  · exact (Or.inr (Or.inr (Or.inr (Or.inr (Or.inl (Int32.toInt_inj.mp (h.trans (by decide : (4 : Int) = (4 : Int32).toInt))))))))
  · exact (Or.inr (Or.inr (Or.inr (Or.inr (Or.inr (Or.inl (Int32.toInt_inj.mp (h.trans (by decide : (5 : Int) = (5 : Int32).toInt)))))))))
  · exact (Or.inr (Or.inr (Or.inr (Or.inr (Or.inr (Or.inr (Or.inl (Int32.toInt_inj.mp (h.trans (by decide : (6 : Int) = (6 : Int32).toInt))))))))))
  · exact (Or.inr (Or.inr (Or.inr (Or.inr (Or.inr (Or.inr (Or.inr (Or.inl (Int32.toInt_inj.mp (h.trans (by decide : (7 : Int) = (7 : Int32).toInt)))))))))))
  · exact (Or.inr (Or.inr (Or.inr (Or.inr (Or.inr (Or.inr (Or.inr (Or.inr (Or.inl (Int32.toInt_inj.mp (h.trans (by decide : (8 : Int) = (8 : Int32).toInt))))))))))))
  · exact (Or.inr (Or.inr (Or.inr (Or.inr (Or.inr (Or.inr (Or.inr (Or.inr (Or.inr (Or.inl (Int32.toInt_inj.mp (h.trans (by decide : (9 : Int) = (9 : Int32).toInt)))))))))))))
  · exact (Or.inr (Or.inr (Or.inr (Or.inr (Or.inr (Or.inr (Or.inr (Or.inr (Or.inr (Or.inr (Or.inl (Int32.toInt_inj.mp (h.trans (by decide : (10 : Int) = (10 : Int32).toInt))))))))))))))
  · exact (Or.inr (Or.inr (Or.inr (Or.inr (Or.inr (Or.inr (Or.inr (Or.inr (Or.inr (Or.inr (Or.inr (Or.inl (Int32.toInt_inj.mp (h.trans (by decide : (11 : Int) = (11 : Int32).toInt)))))))))))))))
  · exact (Or.inr (Or.inr (Or.inr (Or.inr (Or.inr (Or.inr (Or.inr (Or.inr (Or.inr (Or.inr (Or.inr (Or.inr (Or.inl (Int32.toInt_inj.mp (h.trans (by decide : (12 : Int) = (12 : Int32).toInt))))))))))))))))
  · exact (Or.inr (Or.inr (Or.inr (Or.inr (Or.inr (Or.inr (Or.inr (Or.inr (Or.inr (Or.inr (Or.inr (Or.inr (Or.inr (Or.inl (Int32.toInt_inj.mp (h.trans (by decide : (13 : Int) = (13 : Int32).toInt)))))))))))))))))
  · exact (Or.inr (Or.inr (Or.inr (Or.inr (Or.inr (Or.inr (Or.inr (Or.inr (Or.inr (Or.inr (Or.inr (Or.inr (Or.inr (Or.inr (Or.inl (Int32.toInt_inj.mp (h.trans (by decide : (14 : Int) = (14 : Int32).toInt))))))))))))))))))
  · exact (Or.inr (Or.inr (Or.inr (Or.inr (Or.inr (Or.inr (Or.inr (Or.inr (Or.inr (Or.inr (Or.inr (Or.inr (Or.inr (Or.inr (Or.inr (Or.inl (Int32.toInt_inj.mp (h.trans (by decide : (15 : Int) = (15 : Int32).toInt)))))))))))))))))))
  · exact (Or.inr (Or.inr (Or.inr (Or.inr (Or.inr (Or.inr (Or.inr (Or.inr (Or.inr (Or.inr (Or.inr (Or.inr (Or.inr (Or.inr (Or.inr (Or.inr (Or.inl (Int32.toInt_inj.mp (h.trans (by decide : (16 : Int) = (16 : Int32).toInt))))))))))))))))))))
  · exact (Or.inr (Or.inr (Or.inr (Or.inr (Or.inr (Or.inr (Or.inr (Or.inr (Or.inr (Or.inr (Or.inr (Or.inr (Or.inr (Or.inr (Or.inr (Or.inr (Or.inr (Or.inl (Int32.toInt_inj.mp (h.trans (by decide : (17 : Int) = (17 : Int32).toInt)))))))))))))))))))))
  · exact (Or.inr (Or.inr (Or.inr (Or.inr (Or.inr (Or.inr (Or.inr (Or.inr (Or.inr (Or.inr (Or.inr (Or.inr (Or.inr (Or.inr (Or.inr (Or.inr (Or.inr (Or.inr (Or.inl (Int32.toInt_inj.mp (h.trans (by decide : (18 : Int) = (18 : Int32).toInt))))))))))))))))))))))
  · exact (Or.inr (Or.inr (Or.inr (Or.inr (Or.inr (Or.inr (Or.inr (Or.inr (Or.inr (Or.inr (Or.inr (Or.inr (Or.inr (Or.inr (Or.inr (Or.inr (Or.inr (Or.inr (Or.inr (Or.inl (Int32.toInt_inj.mp (h.trans (by decide : (19 : Int) = (19 : Int32).toInt)))))))))))))))))))))))
  · exact (Or.inr (Or.inr (Or.inr (Or.inr (Or.inr (Or.inr (Or.inr (Or.inr (Or.inr (Or.inr (Or.inr (Or.inr (Or.inr (Or.inr (Or.inr (Or.inr (Or.inr (Or.inr (Or.inr (Or.inr (Int32.toInt_inj.mp (h.trans (by decide : (20 : Int) = (20 : Int32).toInt)))))))))))))))))))))))
theorem own_in {c : Cell} {j : Int32} (L : c.slots.size = 21) (h1 : ¬ j < (0 : Int32)) (h2 : j < (21 : Int32)) : ¬ (j < 0 ∨ c.slots.size ≤ j.toNatClampNeg) := by
  rw [Int32.lt_iff_toInt_lt] at h1 h2
  have a : (0 : Int32).toInt = 0 := by decide
  have b : (21 : Int32).toInt = 21 := by decide
  have e : j.toNatClampNeg = j.toInt.toNat := rfl
  rw [Int32.lt_iff_toInt_lt, L, e]
  omega
set_option maxHeartbeats 40000000 in
theorem own_tab {Z : State} {h : Heap} {w_BY_TAG : Addr} {c_BY_TAG : Cell} {w_INTEGER : Addr} {w_UTF8 : Addr} {w_DOUBLE : Addr} {w_STRING : Addr} {w_NAME_AND_TYPE : Addr} {w_LONG : Addr} {w_METHOD_HANDLE : Addr} {w_MODULE : Addr} {w_CLASS : Addr} {w_METHODREF : Addr} {w_PACKAGE : Addr} {w_FIELDREF : Addr} {w_FLOAT : Addr} {w_INTERFACE_METHODREF : Addr} {w_DYNAMIC : Addr} {w_INVOKE_DYNAMIC : Addr} {w_METHOD_TYPE : Addr} (F : Fx Z h w_BY_TAG c_BY_TAG w_INTEGER w_UTF8 w_DOUBLE w_STRING w_NAME_AND_TYPE w_LONG w_METHOD_HANDLE w_MODULE w_CLASS w_METHODREF w_PACKAGE w_FIELDREF w_FLOAT w_INTERFACE_METHODREF w_DYNAMIC w_INVOKE_DYNAMIC w_METHOD_TYPE) {j : Int32} (h1 : ¬ j < (0 : Int32)) (h2 : j < (21 : Int32)) : c_BY_TAG.slots[j.toNatClampNeg]? = some (tab j w_BY_TAG w_INTEGER w_UTF8 w_DOUBLE w_STRING w_NAME_AND_TYPE w_LONG w_METHOD_HANDLE w_MODULE w_CLASS w_METHODREF w_PACKAGE w_FIELDREF w_FLOAT w_INTERFACE_METHODREF w_DYNAMIC w_INVOKE_DYNAMIC w_METHOD_TYPE) := by
  obtain ⟨S_BY_TAG, A_BY_TAG, L_BY_TAG, T_BY_TAG_0, S_INTEGER, E_INTEGER, T_BY_TAG_3, T_BY_TAG_14, S_UTF8, E_UTF8, T_BY_TAG_1, S_DOUBLE, E_DOUBLE, T_BY_TAG_6, T_BY_TAG_13, S_STRING, E_STRING, T_BY_TAG_8, S_NAME_AND_TYPE, E_NAME_AND_TYPE, T_BY_TAG_12, S_LONG, E_LONG, T_BY_TAG_5, S_METHOD_HANDLE, E_METHOD_HANDLE, T_BY_TAG_15, S_MODULE, E_MODULE, T_BY_TAG_19, S_CLASS, E_CLASS, T_BY_TAG_7, S_METHODREF, E_METHODREF, T_BY_TAG_10, T_BY_TAG_2, S_PACKAGE, E_PACKAGE, T_BY_TAG_20, S_FIELDREF, E_FIELDREF, T_BY_TAG_9, S_FLOAT, E_FLOAT, T_BY_TAG_4, S_INTERFACE_METHODREF, E_INTERFACE_METHODREF, T_BY_TAG_11, S_DYNAMIC, E_DYNAMIC, T_BY_TAG_17, S_INVOKE_DYNAMIC, E_INVOKE_DYNAMIC, T_BY_TAG_18, S_METHOD_TYPE, E_METHOD_TYPE, T_BY_TAG_16⟩ := F
  rw [Int32.lt_iff_toInt_lt] at h1 h2
  have a : (0 : Int32).toInt = 0 := by decide
  have b : (21 : Int32).toInt = 21 := by decide
  rcases own_cases21 j (by omega) (by omega) with rfl | rfl | rfl | rfl | rfl | rfl | rfl | rfl | rfl | rfl | rfl | rfl | rfl | rfl | rfl | rfl | rfl | rfl | rfl | rfl | rfl
  · exact T_BY_TAG_0
  · exact T_BY_TAG_1
  · exact T_BY_TAG_2
  · exact T_BY_TAG_3
  · exact T_BY_TAG_4
  · exact T_BY_TAG_5
  · exact T_BY_TAG_6
  · exact T_BY_TAG_7
  · exact T_BY_TAG_8
  · exact T_BY_TAG_9
  · exact T_BY_TAG_10
  · exact T_BY_TAG_11
  · exact T_BY_TAG_12
  · exact T_BY_TAG_13
  · exact T_BY_TAG_14
  · exact T_BY_TAG_15
  · exact T_BY_TAG_16
  · exact T_BY_TAG_17
  · exact T_BY_TAG_18
  · exact T_BY_TAG_19
  · exact T_BY_TAG_20

theorem d1_0 : decode prog_26_method_13_code 0 = .ok (.iload_n 0, 1) := by decide +kernel
theorem d1_1 : decode prog_26_method_13_code 1 = .ok (.ifCond .lt 19, 3) := by decide +kernel
theorem d1_4 : decode prog_26_method_13_code 4 = .ok (.iload_n 0, 1) := by decide +kernel
theorem d1_5 : decode prog_26_method_13_code 5 = .ok (.getstatic 131, 3) := by decide +kernel
theorem d1_8 : decode prog_26_method_13_code 8 = .ok (.arraylength, 1) := by decide +kernel
theorem d1_9 : decode prog_26_method_13_code 9 = .ok (.if_icmp .ge 11, 3) := by decide +kernel
theorem d1_12 : decode prog_26_method_13_code 12 = .ok (.getstatic 131, 3) := by decide +kernel
theorem d1_15 : decode prog_26_method_13_code 15 = .ok (.iload_n 0, 1) := by decide +kernel
theorem d1_16 : decode prog_26_method_13_code 16 = .ok (.aaload, 1) := by decide +kernel
theorem d1_17 : decode prog_26_method_13_code 17 = .ok (.goto 4, 3) := by decide +kernel
theorem d1_20 : decode prog_26_method_13_code 20 = .ok (.aconst_null, 1) := by decide +kernel
theorem d1_21 : decode prog_26_method_13_code 21 = .ok (.areturn, 1) := by decide +kernel
theorem pn_1 : plainName "com/example/cafelens/cafelens/ConstantKind" = true := by first | (simp [plainName, overriddenIn]; done) | decide +kernel
theorem ef_1 (m : MethodId) (p0 : Int32) : entryFrame m #[(.int p0)] 1 = mkF m 0 #[.val (.int p0)] [] := by first | (simp [entryFrame, mkF, argsToLocals, Value.category]; done) | rfl
def v1 (p0 : Int32) (w_BY_TAG : Addr) (w_INTEGER : Addr) (w_UTF8 : Addr) (w_DOUBLE : Addr) (w_STRING : Addr) (w_NAME_AND_TYPE : Addr) (w_LONG : Addr) (w_METHOD_HANDLE : Addr) (w_MODULE : Addr) (w_CLASS : Addr) (w_METHODREF : Addr) (w_PACKAGE : Addr) (w_FIELDREF : Addr) (w_FLOAT : Addr) (w_INTERFACE_METHODREF : Addr) (w_DYNAMIC : Addr) (w_INVOKE_DYNAMIC : Addr) (w_METHOD_TYPE : Addr)  : Value := if p0 < (0 : Int32) then (.null : Value) else if p0 < (21 : Int32) then ((tab p0 w_BY_TAG w_INTEGER w_UTF8 w_DOUBLE w_STRING w_NAME_AND_TYPE w_LONG w_METHOD_HANDLE w_MODULE w_CLASS w_METHODREF w_PACKAGE w_FIELDREF w_FLOAT w_INTERFACE_METHODREF w_DYNAMIC w_INVOKE_DYNAMIC w_METHOD_TYPE) : Value) else (.null : Value)
theorem v1_ref (p0 : Int32) (w_BY_TAG : Addr) (w_INTEGER : Addr) (w_UTF8 : Addr) (w_DOUBLE : Addr) (w_STRING : Addr) (w_NAME_AND_TYPE : Addr) (w_LONG : Addr) (w_METHOD_HANDLE : Addr) (w_MODULE : Addr) (w_CLASS : Addr) (w_METHODREF : Addr) (w_PACKAGE : Addr) (w_FIELDREF : Addr) (w_FLOAT : Addr) (w_INTERFACE_METHODREF : Addr) (w_DYNAMIC : Addr) (w_INVOKE_DYNAMIC : Addr) (w_METHOD_TYPE : Addr) : (v1 p0 w_BY_TAG w_INTEGER w_UTF8 w_DOUBLE w_STRING w_NAME_AND_TYPE w_LONG w_METHOD_HANDLE w_MODULE w_CLASS w_METHODREF w_PACKAGE w_FIELDREF w_FLOAT w_INTERFACE_METHODREF w_DYNAMIC w_INVOKE_DYNAMIC w_METHOD_TYPE).isRef = true := own_ite_ref rfl (own_ite_ref ((tab_ref _ _ _ _ _ _ _ _ _ _ _ _ _ _ _ _ _ _ _)) (rfl))
set_option maxRecDepth 65536 in
set_option maxHeartbeats 40000000 in
theorem rm1 (l : Launch) (Z : State) (ar0 : Array Value) (hw : ∀ d ∈ tables_1, d.before ar0 Z = true) (ws : List Jvm.Cond) (p0 : Int32) (w_BY_TAG : Addr) (c_BY_TAG : Cell) (w_INTEGER : Addr) (w_UTF8 : Addr) (w_DOUBLE : Addr) (w_STRING : Addr) (w_NAME_AND_TYPE : Addr) (w_LONG : Addr) (w_METHOD_HANDLE : Addr) (w_MODULE : Addr) (w_CLASS : Addr) (w_METHODREF : Addr) (w_PACKAGE : Addr) (w_FIELDREF : Addr) (w_FLOAT : Addr) (w_INTERFACE_METHODREF : Addr) (w_DYNAMIC : Addr) (w_INVOKE_DYNAMIC : Addr) (w_METHOD_TYPE : Addr) (h0 : Heap) (n0 : Nat) (Z0 : n0 ≤ h0.size) (F : Fx Z h0 w_BY_TAG c_BY_TAG w_INTEGER w_UTF8 w_DOUBLE w_STRING w_NAME_AND_TYPE w_LONG w_METHOD_HANDLE w_MODULE w_CLASS w_METHODREF w_PACKAGE w_FIELDREF w_FLOAT w_INTERFACE_METHODREF w_DYNAMIC w_INVOKE_DYNAMIC w_METHOD_TYPE)  (r : Value) (hre : r = v1 p0 w_BY_TAG w_INTEGER w_UTF8 w_DOUBLE w_STRING w_NAME_AND_TYPE w_LONG w_METHOD_HANDLE w_MODULE w_CLASS w_METHODREF w_PACKAGE w_FIELDREF w_FLOAT w_INTERFACE_METHODREF w_DYNAMIC w_INVOKE_DYNAMIC w_METHOD_TYPE) :
    MetFree l (⟨"com/example/cafelens/cafelens/ConstantKind", "ofTag", "(I)Lcom/example/cafelens/cafelens/ConstantKind;"⟩ : MethodName) (head1 ((Jvm.Cond.code (⟨"com/example/cafelens/cafelens/ConstantKind", "ofTag", "(I)Lcom/example/cafelens/cafelens/ConstantKind;"⟩ : MethodName) prog_26_method_13_code 1 (some (.object "com/example/cafelens/cafelens/ConstantKind"))) :: ws) ({ frames := 0, cells := 0, slots := 0, locals := 0 } : Room)) (fun a U => a = #[(.int p0)] ∧ Z.Warmed39 U.vm ∧ U.heap = h0) (fun _ _ _ _ _ => True) (fun _ U o U' => ∃ v L, o = .returned v ∧ Qp (some r) h0 n0 v U'.heap L ∧ FrameEnd U o U' L ({ frames := 0, cells := 0, slots := 0, locals := 0 } : Room).cells ({ frames := 0, cells := 0, slots := 0, locals := 0 } : Room).slots) := by
  obtain ⟨S_BY_TAG, A_BY_TAG, L_BY_TAG, T_BY_TAG_0, S_INTEGER, E_INTEGER, T_BY_TAG_3, T_BY_TAG_14, S_UTF8, E_UTF8, T_BY_TAG_1, S_DOUBLE, E_DOUBLE, T_BY_TAG_6, T_BY_TAG_13, S_STRING, E_STRING, T_BY_TAG_8, S_NAME_AND_TYPE, E_NAME_AND_TYPE, T_BY_TAG_12, S_LONG, E_LONG, T_BY_TAG_5, S_METHOD_HANDLE, E_METHOD_HANDLE, T_BY_TAG_15, S_MODULE, E_MODULE, T_BY_TAG_19, S_CLASS, E_CLASS, T_BY_TAG_7, S_METHODREF, E_METHODREF, T_BY_TAG_10, T_BY_TAG_2, S_PACKAGE, E_PACKAGE, T_BY_TAG_20, S_FIELDREF, E_FIELDREF, T_BY_TAG_9, S_FLOAT, E_FLOAT, T_BY_TAG_4, S_INTERFACE_METHODREF, E_INTERFACE_METHODREF, T_BY_TAG_11, S_DYNAMIC, E_DYNAMIC, T_BY_TAG_17, S_INVOKE_DYNAMIC, E_INVOKE_DYNAMIC, T_BY_TAG_18, S_METHOD_TYPE, E_METHOD_TYPE, T_BY_TAG_16⟩ := id F
  refine MetFree.of_bodySF (plainFor_of_name pn_1) hisR ?_
  intro p e s m args below meth c s₁ Bd hml0 hP hK
  obtain ⟨rfl, hZ, hh⟩ := hP
  have hx := Bd.exec
  have hby := Bd.bytes
  have hml : c.maxLocals = 1 := hml0
  have hown : s.vm.findClass "com/example/cafelens/cafelens/ConstantKind" = some m.cls := findClass_of_methodNamed Bd.named
  have X0 : Stand p l e ({ frames := 0, cells := 0, slots := 0, locals := 0 } : Room) s m #[(.int p0)] below meth c s₁ [] 0 0 := Stand.of_body Bd
  have e0 : s₁.heap = h0 := by rw [← hh, Bd.state]; rfl
  have N0 := Fr.nil n0
  have pre0 : ∀ t, Steps p.tables e below (s₁.setTop (mkF m 0 #[.val (.int p0)] [])) t → Steps p.tables e below (s₁.setTop (entryFrame m #[(.int p0)] 1)) t := fun t k => castTop (ef_1 m p0) k
  have pre1 : ∀ t, Steps p.tables e below (s₁.setTop (mkF m 1 #[.val (.int p0)] [(.int p0)])) t → Steps p.tables e below (s₁.setTop (entryFrame m #[(.int p0)] 1)) t := by
    intro t k
    refine pre0 _ ?_
    show Steps p.tables e below (s₁.setTop (mkF m 0 #[.val (.int p0)] [])) _
    refine XS.iloadN X0.here hx rfl (hb hby d1_0) rfl ?_
    exact k
  by_cases hc2 : p0 < (0 : Int32)
  ·
    have hv : (some r : Option Value) = some .null := by rw [hre]; unfold v1; rw [if_pos hc2]
    rw [hv]
    obtain ⟨fs, hr, hrun, hended, hW, hsame⟩ := X0.leave (v := some .null) (fun h => by rw [Bd.returns] at h; cases h)
    refine ⟨_, _, pre1 _ ?_, hrun, hended, _, _, rfl, ?_, ⟨_, rfl⟩, hW, hsame.mono (by decide) (by decide)⟩
    · show Steps p.tables e below (s₁.setTop (mkF m 1 #[.val (.int p0)] [(.int p0)])) _
      refine XS.ifYes X0.here hx rfl (pc0 := 1) (pc' := 20) rfl (hb hby d1_1) rfl ((if0 _ _).trans (tlt hc2).1) (by decide) (by decide) ?_
      show Steps p.tables e below (s₁.setTop (mkF m 20 #[.val (.int p0)] [])) _
      refine XS.aconstNull X0.here hx rfl (hb hby d1_20) ?_
      show Steps p.tables e below (s₁.setTop (mkF m 21 #[.val (.int p0)] [.null])) _
      exact retOut X0 hx Bd.returns rfl (Or.inr (Or.inr (Or.inr (Or.inr ⟨rfl, rfl, rfl⟩)))) (hb hby d1_21) hr
    · show Qp (some .null) h0 n0 _ s₁.heap _
      rw [e0]
      exact ⟨rfl, N0, rfl⟩
  ·
    obtain ⟨T3, X3, e3, st3⟩ := getS2 X0 hx hZ hown (host := "") (Or.inl (hw _ (List.mem_of_getElem? (i := 4) rfl))) Via.refl e0 S_BY_TAG (g := (mkF m 5 #[.val (.int p0)] [(.int p0)])) rfl (hb hby d1_5)
    have pre4 : ∀ t, Steps p.tables e below (T3.setTop (mkF m 9 #[.val (.int p0)] [(.int (21 : Int32)), (.int p0)])) t → Steps p.tables e below (s₁.setTop (entryFrame m #[(.int p0)] 1)) t := by
      intro t k
      refine pre1 _ ?_
      show Steps p.tables e below (s₁.setTop (mkF m 1 #[.val (.int p0)] [(.int p0)])) _
      refine XS.ifNo X0.here hx rfl (hb hby d1_1) rfl ((if0 _ _).trans (flt hc2).1) ?_
      show Steps p.tables e below (s₁.setTop (mkF m 4 #[.val (.int p0)] [])) _
      refine XS.iloadN X0.here hx rfl (hb hby d1_4) rfl ?_
      show Steps p.tables e below (s₁.setTop (mkF m 5 #[.val (.int p0)] [(.int p0)])) _
      refine st3 _ ?_
      show Steps p.tables e below (T3.setTop (mkF m 8 #[.val (.int p0)] [(.ref w_BY_TAG), (.int p0)])) _
      refine X3.arraylength hx (by rw [e3]; exact A_BY_TAG.1) (State.isArrayOf_alike hZ.alike A_BY_TAG.2.1) (g := (mkF m 8 #[.val (.int p0)] [(.ref w_BY_TAG), (.int p0)])) rfl rfl (hb hby d1_8) _ ?_
      rw [show c_BY_TAG.slots.size.toInt32 = (21 : Int32) from by rw [L_BY_TAG]; rfl]
      exact k
    by_cases hc5 : p0 < (21 : Int32)
    ·
      obtain ⟨T6, X6, e6, st6⟩ := getS2 X3 hx hZ hown (host := "") (Or.inl (hw _ (List.mem_of_getElem? (i := 4) rfl))) Via.refl e3 S_BY_TAG (g := (mkF m 12 #[.val (.int p0)] [])) rfl (hb hby d1_12)
      have hin16 : ¬ (p0 < 0 ∨ c_BY_TAG.slots.size ≤ (p0).toNatClampNeg) := own_in L_BY_TAG hc2 hc5
      have hat16 : c_BY_TAG.slots[(p0).toNatClampNeg]? = some (tab p0 w_BY_TAG w_INTEGER w_UTF8 w_DOUBLE w_STRING w_NAME_AND_TYPE w_LONG w_METHOD_HANDLE w_MODULE w_CLASS w_METHODREF w_PACKAGE w_FIELDREF w_FLOAT w_INTERFACE_METHODREF w_DYNAMIC w_INVOKE_DYNAMIC w_METHOD_TYPE) := own_tab F hc2 hc5
      have hv : (some r : Option Value) = some (tab p0 w_BY_TAG w_INTEGER w_UTF8 w_DOUBLE w_STRING w_NAME_AND_TYPE w_LONG w_METHOD_HANDLE w_MODULE w_CLASS w_METHODREF w_PACKAGE w_FIELDREF w_FLOAT w_INTERFACE_METHODREF w_DYNAMIC w_INVOKE_DYNAMIC w_METHOD_TYPE) := by rw [hre]; unfold v1; rw [if_neg hc2, if_pos hc5]
      rw [hv]
      obtain ⟨fs, hr, hrun, hended, hW, hsame⟩ := X6.leave (v := some (tab p0 w_BY_TAG w_INTEGER w_UTF8 w_DOUBLE w_STRING w_NAME_AND_TYPE w_LONG w_METHOD_HANDLE w_MODULE w_CLASS w_METHODREF w_PACKAGE w_FIELDREF w_FLOAT w_INTERFACE_METHODREF w_DYNAMIC w_INVOKE_DYNAMIC w_METHOD_TYPE)) (fun h => by rw [Bd.returns] at h; cases h)
      refine ⟨_, _, pre4 _ ?_, hrun, hended, _, _, rfl, ?_, ⟨_, rfl⟩, hW, hsame.mono (by decide) (by decide)⟩
      · show Steps p.tables e below (T3.setTop (mkF m 9 #[.val (.int p0)] [(.int (21 : Int32)), (.int p0)])) _
        refine XS.icmpNo X3.here hx rfl (hb hby d1_9) rfl (tlt hc5).2.1 ?_
        show Steps p.tables e below (T3.setTop (mkF m 12 #[.val (.int p0)] [])) _
        refine st6 _ ?_
        show Steps p.tables e below (T6.setTop (mkF m 15 #[.val (.int p0)] [(.ref w_BY_TAG)])) _
        refine XS.iloadN X6.here hx rfl (hb hby d1_15) rfl ?_
        show Steps p.tables e below (T6.setTop (mkF m 16 #[.val (.int p0)] [(.int p0), (.ref w_BY_TAG)])) _
        refine X6.aaload hx (j := p0) (v := (tab p0 w_BY_TAG w_INTEGER w_UTF8 w_DOUBLE w_STRING w_NAME_AND_TYPE w_LONG w_METHOD_HANDLE w_MODULE w_CLASS w_METHODREF w_PACKAGE w_FIELDREF w_FLOAT w_INTERFACE_METHODREF w_DYNAMIC w_INVOKE_DYNAMIC w_METHOD_TYPE)) (by rw [e6]; exact A_BY_TAG.1) (State.isArrayOf_alike hZ.alike A_BY_TAG.2.1) rfl A_BY_TAG.2.2 hin16 hat16 (g := (mkF m 16 #[.val (.int p0)] [(.int p0), (.ref w_BY_TAG)])) rfl rfl (hb hby d1_16) _ ?_
        show Steps p.tables e below (T6.setTop (mkF m 17 #[.val (.int p0)] [(tab p0 w_BY_TAG w_INTEGER w_UTF8 w_DOUBLE w_STRING w_NAME_AND_TYPE w_LONG w_METHOD_HANDLE w_MODULE w_CLASS w_METHODREF w_PACKAGE w_FIELDREF w_FLOAT w_INTERFACE_METHODREF w_DYNAMIC w_INVOKE_DYNAMIC w_METHOD_TYPE)])) _
        refine XS.goto X6.here hx rfl (pc0 := 17) (pc' := 21) rfl (hb hby d1_17) (by decide) (by decide) ?_
        show Steps p.tables e below (T6.setTop (mkF m 21 #[.val (.int p0)] [(tab p0 w_BY_TAG w_INTEGER w_UTF8 w_DOUBLE w_STRING w_NAME_AND_TYPE w_LONG w_METHOD_HANDLE w_MODULE w_CLASS w_METHODREF w_PACKAGE w_FIELDREF w_FLOAT w_INTERFACE_METHODREF w_DYNAMIC w_INVOKE_DYNAMIC w_METHOD_TYPE)])) _
        exact retOut X6 hx Bd.returns (nar_ref _ _ (tab_ref _ _ _ _ _ _ _ _ _ _ _ _ _ _ _ _ _ _ _)) (Or.inr (Or.inr (Or.inr (Or.inr ⟨rfl, rfl, (tab_ref _ _ _ _ _ _ _ _ _ _ _ _ _ _ _ _ _ _ _)⟩)))) (hb hby d1_21) hr
      · show Qp (some (tab p0 w_BY_TAG w_INTEGER w_UTF8 w_DOUBLE w_STRING w_NAME_AND_TYPE w_LONG w_METHOD_HANDLE w_MODULE w_CLASS w_METHODREF w_PACKAGE w_FIELDREF w_FLOAT w_INTERFACE_METHODREF w_DYNAMIC w_INVOKE_DYNAMIC w_METHOD_TYPE)) h0 n0 _ T6.heap _
        rw [e6]
        exact ⟨rfl, N0, rfl⟩
    ·
      have hv : (some r : Option Value) = some .null := by rw [hre]; unfold v1; rw [if_neg hc2, if_neg hc5]
      rw [hv]
      obtain ⟨fs, hr, hrun, hended, hW, hsame⟩ := X3.leave (v := some .null) (fun h => by rw [Bd.returns] at h; cases h)
      refine ⟨_, _, pre4 _ ?_, hrun, hended, _, _, rfl, ?_, ⟨_, rfl⟩, hW, hsame.mono (by decide) (by decide)⟩
      · show Steps p.tables e below (T3.setTop (mkF m 9 #[.val (.int p0)] [(.int (21 : Int32)), (.int p0)])) _
        refine XS.icmpYes X3.here hx rfl (pc0 := 9) (pc' := 20) rfl (hb hby d1_9) rfl (flt hc5).2.1 (by decide) (by decide) ?_
        show Steps p.tables e below (T3.setTop (mkF m 20 #[.val (.int p0)] [])) _
        refine XS.aconstNull X3.here hx rfl (hb hby d1_20) ?_
        show Steps p.tables e below (T3.setTop (mkF m 21 #[.val (.int p0)] [.null])) _
        exact retOut X3 hx Bd.returns rfl (Or.inr (Or.inr (Or.inr (Or.inr ⟨rfl, rfl, rfl⟩)))) (hb hby d1_21) hr
      · show Qp (some .null) h0 n0 _ T3.heap _
        rw [e3]
        exact ⟨rfl, N0, rfl⟩

theorem d2_0 : decode method_2_code 0 = .ok (.iload_n 0, 1) := by decide +kernel
theorem d2_1 : decode method_2_code 1 = .ok (.iconst 1, 1) := by decide +kernel
theorem d2_2 : decode method_2_code 2 = .ok (.if_icmp .ne 7, 3) := by decide +kernel
theorem d2_5 : decode method_2_code 5 = .ok (.getstatic 7, 3) := by decide +kernel
theorem d2_8 : decode method_2_code 8 = .ok (.areturn, 1) := by decide +kernel
theorem d2_9 : decode method_2_code 9 = .ok (.iload_n 0, 1) := by decide +kernel
theorem d2_10 : decode method_2_code 10 = .ok (.iconst 3, 1) := by decide +kernel
theorem d2_11 : decode method_2_code 11 = .ok (.if_icmp .ne 7, 3) := by decide +kernel
theorem d2_14 : decode method_2_code 14 = .ok (.getstatic 13, 3) := by decide +kernel
theorem d2_17 : decode method_2_code 17 = .ok (.areturn, 1) := by decide +kernel
theorem d2_18 : decode method_2_code 18 = .ok (.iload_n 0, 1) := by decide +kernel
theorem d2_19 : decode method_2_code 19 = .ok (.iconst 4, 1) := by decide +kernel
theorem d2_20 : decode method_2_code 20 = .ok (.if_icmp .ne 7, 3) := by decide +kernel
theorem d2_23 : decode method_2_code 23 = .ok (.getstatic 16, 3) := by decide +kernel
theorem d2_26 : decode method_2_code 26 = .ok (.areturn, 1) := by decide +kernel
theorem d2_27 : decode method_2_code 27 = .ok (.iload_n 0, 1) := by decide +kernel
theorem d2_28 : decode method_2_code 28 = .ok (.iconst 5, 1) := by decide +kernel
theorem d2_29 : decode method_2_code 29 = .ok (.if_icmp .ne 7, 3) := by decide +kernel
theorem d2_32 : decode method_2_code 32 = .ok (.getstatic 19, 3) := by decide +kernel
theorem d2_35 : decode method_2_code 35 = .ok (.areturn, 1) := by decide +kernel
theorem d2_36 : decode method_2_code 36 = .ok (.iload_n 0, 1) := by decide +kernel
theorem d2_37 : decode method_2_code 37 = .ok (.bipush 6, 2) := by decide +kernel
theorem d2_39 : decode method_2_code 39 = .ok (.if_icmp .ne 7, 3) := by decide +kernel
theorem d2_42 : decode method_2_code 42 = .ok (.getstatic 22, 3) := by decide +kernel
theorem d2_45 : decode method_2_code 45 = .ok (.areturn, 1) := by decide +kernel
theorem d2_46 : decode method_2_code 46 = .ok (.iload_n 0, 1) := by decide +kernel
theorem d2_47 : decode method_2_code 47 = .ok (.bipush 7, 2) := by decide +kernel
theorem d2_49 : decode method_2_code 49 = .ok (.if_icmp .ne 7, 3) := by decide +kernel
theorem d2_52 : decode method_2_code 52 = .ok (.getstatic 25, 3) := by decide +kernel
theorem d2_55 : decode method_2_code 55 = .ok (.areturn, 1) := by decide +kernel
theorem d2_56 : decode method_2_code 56 = .ok (.iload_n 0, 1) := by decide +kernel
theorem d2_57 : decode method_2_code 57 = .ok (.bipush 8, 2) := by decide +kernel
theorem d2_59 : decode method_2_code 59 = .ok (.if_icmp .ne 7, 3) := by decide +kernel
theorem d2_62 : decode method_2_code 62 = .ok (.getstatic 28, 3) := by decide +kernel
theorem d2_65 : decode method_2_code 65 = .ok (.areturn, 1) := by decide +kernel
theorem d2_66 : decode method_2_code 66 = .ok (.iload_n 0, 1) := by decide +kernel
theorem d2_67 : decode method_2_code 67 = .ok (.bipush 9, 2) := by decide +kernel
theorem d2_69 : decode method_2_code 69 = .ok (.if_icmp .ne 7, 3) := by decide +kernel
theorem d2_72 : decode method_2_code 72 = .ok (.getstatic 31, 3) := by decide +kernel
theorem d2_75 : decode method_2_code 75 = .ok (.areturn, 1) := by decide +kernel
theorem d2_76 : decode method_2_code 76 = .ok (.iload_n 0, 1) := by decide +kernel
theorem d2_77 : decode method_2_code 77 = .ok (.bipush 10, 2) := by decide +kernel
theorem d2_79 : decode method_2_code 79 = .ok (.if_icmp .ne 7, 3) := by decide +kernel
theorem d2_82 : decode method_2_code 82 = .ok (.getstatic 34, 3) := by decide +kernel
theorem d2_85 : decode method_2_code 85 = .ok (.areturn, 1) := by decide +kernel
theorem d2_86 : decode method_2_code 86 = .ok (.iload_n 0, 1) := by decide +kernel
theorem d2_87 : decode method_2_code 87 = .ok (.bipush 11, 2) := by decide +kernel
theorem d2_89 : decode method_2_code 89 = .ok (.if_icmp .ne 7, 3) := by decide +kernel
theorem d2_92 : decode method_2_code 92 = .ok (.getstatic 37, 3) := by decide +kernel
theorem d2_95 : decode method_2_code 95 = .ok (.areturn, 1) := by decide +kernel
theorem d2_96 : decode method_2_code 96 = .ok (.iload_n 0, 1) := by decide +kernel
theorem d2_97 : decode method_2_code 97 = .ok (.bipush 12, 2) := by decide +kernel
theorem d2_99 : decode method_2_code 99 = .ok (.if_icmp .ne 7, 3) := by decide +kernel
theorem d2_102 : decode method_2_code 102 = .ok (.getstatic 40, 3) := by decide +kernel
theorem d2_105 : decode method_2_code 105 = .ok (.areturn, 1) := by decide +kernel
theorem d2_106 : decode method_2_code 106 = .ok (.iload_n 0, 1) := by decide +kernel
theorem d2_107 : decode method_2_code 107 = .ok (.bipush 15, 2) := by decide +kernel
theorem d2_109 : decode method_2_code 109 = .ok (.if_icmp .ne 7, 3) := by decide +kernel
theorem d2_112 : decode method_2_code 112 = .ok (.getstatic 43, 3) := by decide +kernel
theorem d2_115 : decode method_2_code 115 = .ok (.areturn, 1) := by decide +kernel
theorem d2_116 : decode method_2_code 116 = .ok (.iload_n 0, 1) := by decide +kernel
theorem d2_117 : decode method_2_code 117 = .ok (.bipush 16, 2) := by decide +kernel
theorem d2_119 : decode method_2_code 119 = .ok (.if_icmp .ne 7, 3) := by decide +kernel
theorem d2_122 : decode method_2_code 122 = .ok (.getstatic 46, 3) := by decide +kernel
theorem d2_125 : decode method_2_code 125 = .ok (.areturn, 1) := by decide +kernel
theorem d2_126 : decode method_2_code 126 = .ok (.iload_n 0, 1) := by decide +kernel
theorem d2_127 : decode method_2_code 127 = .ok (.bipush 17, 2) := by decide +kernel
theorem d2_129 : decode method_2_code 129 = .ok (.if_icmp .ne 7, 3) := by decide +kernel
theorem d2_132 : decode method_2_code 132 = .ok (.getstatic 49, 3) := by decide +kernel
theorem d2_135 : decode method_2_code 135 = .ok (.areturn, 1) := by decide +kernel
theorem d2_136 : decode method_2_code 136 = .ok (.iload_n 0, 1) := by decide +kernel
theorem d2_137 : decode method_2_code 137 = .ok (.bipush 18, 2) := by decide +kernel
theorem d2_139 : decode method_2_code 139 = .ok (.if_icmp .ne 7, 3) := by decide +kernel
theorem d2_142 : decode method_2_code 142 = .ok (.getstatic 52, 3) := by decide +kernel
theorem d2_145 : decode method_2_code 145 = .ok (.areturn, 1) := by decide +kernel
theorem d2_146 : decode method_2_code 146 = .ok (.iload_n 0, 1) := by decide +kernel
theorem d2_147 : decode method_2_code 147 = .ok (.bipush 19, 2) := by decide +kernel
theorem d2_149 : decode method_2_code 149 = .ok (.if_icmp .ne 7, 3) := by decide +kernel
theorem d2_152 : decode method_2_code 152 = .ok (.getstatic 55, 3) := by decide +kernel
theorem d2_155 : decode method_2_code 155 = .ok (.areturn, 1) := by decide +kernel
theorem d2_156 : decode method_2_code 156 = .ok (.iload_n 0, 1) := by decide +kernel
theorem d2_157 : decode method_2_code 157 = .ok (.bipush 20, 2) := by decide +kernel
theorem d2_159 : decode method_2_code 159 = .ok (.if_icmp .ne 7, 3) := by decide +kernel
theorem d2_162 : decode method_2_code 162 = .ok (.getstatic 58, 3) := by decide +kernel
theorem d2_165 : decode method_2_code 165 = .ok (.areturn, 1) := by decide +kernel
theorem d2_166 : decode method_2_code 166 = .ok (.aconst_null, 1) := by decide +kernel
theorem d2_167 : decode method_2_code 167 = .ok (.areturn, 1) := by decide +kernel
theorem pn_2 : plainName "com/example/cafelens/cafelens/ConstantKindOfTagPinLaw" = true := by first | (simp [plainName, overriddenIn]; done) | decide +kernel
theorem ef_2 (m : MethodId) (p0 : Int32) : entryFrame m #[(.int p0)] 1 = mkF m 0 #[.val (.int p0)] [] := by first | (simp [entryFrame, mkF, argsToLocals, Value.category]; done) | rfl
def v2 (p0 : Int32) (w_BY_TAG : Addr) (w_INTEGER : Addr) (w_UTF8 : Addr) (w_DOUBLE : Addr) (w_STRING : Addr) (w_NAME_AND_TYPE : Addr) (w_LONG : Addr) (w_METHOD_HANDLE : Addr) (w_MODULE : Addr) (w_CLASS : Addr) (w_METHODREF : Addr) (w_PACKAGE : Addr) (w_FIELDREF : Addr) (w_FLOAT : Addr) (w_INTERFACE_METHODREF : Addr) (w_DYNAMIC : Addr) (w_INVOKE_DYNAMIC : Addr) (w_METHOD_TYPE : Addr)  : Value := if p0 = (1 : Int32) then ((.ref w_UTF8) : Value) else if p0 = (3 : Int32) then ((.ref w_INTEGER) : Value) else if p0 = (4 : Int32) then ((.ref w_FLOAT) : Value) else if p0 = (5 : Int32) then ((.ref w_LONG) : Value) else if p0 = (6 : Int32) then ((.ref w_DOUBLE) : Value) else if p0 = (7 : Int32) then ((.ref w_CLASS) : Value) else if p0 = (8 : Int32) then ((.ref w_STRING) : Value) else if p0 = (9 : Int32) then ((.ref w_FIELDREF) : Value) else if p0 = (10 : Int32) then ((.ref w_METHODREF) : Value) else if p0 = (11 : Int32) then ((.ref w_INTERFACE_METHODREF) : Value) else if p0 = (12 : Int32) then ((.ref w_NAME_AND_TYPE) : Value) else if p0 = (15 : Int32) then ((.ref w_METHOD_HANDLE) : Value) else if p0 = (16 : Int32) then ((.ref w_METHOD_TYPE) : Value) else if p0 = (17 : Int32) then ((.ref w_DYNAMIC) : Value) else if p0 = (18 : Int32) then ((.ref w_INVOKE_DYNAMIC) : Value) else if p0 = (19 : Int32) then ((.ref w_MODULE) : Value) else if p0 = (20 : Int32) then ((.ref w_PACKAGE) : Value) else (.null : Value)
theorem v2_ref (p0 : Int32) (w_BY_TAG : Addr) (w_INTEGER : Addr) (w_UTF8 : Addr) (w_DOUBLE : Addr) (w_STRING : Addr) (w_NAME_AND_TYPE : Addr) (w_LONG : Addr) (w_METHOD_HANDLE : Addr) (w_MODULE : Addr) (w_CLASS : Addr) (w_METHODREF : Addr) (w_PACKAGE : Addr) (w_FIELDREF : Addr) (w_FLOAT : Addr) (w_INTERFACE_METHODREF : Addr) (w_DYNAMIC : Addr) (w_INVOKE_DYNAMIC : Addr) (w_METHOD_TYPE : Addr) : (v2 p0 w_BY_TAG w_INTEGER w_UTF8 w_DOUBLE w_STRING w_NAME_AND_TYPE w_LONG w_METHOD_HANDLE w_MODULE w_CLASS w_METHODREF w_PACKAGE w_FIELDREF w_FLOAT w_INTERFACE_METHODREF w_DYNAMIC w_INVOKE_DYNAMIC w_METHOD_TYPE).isRef = true := own_ite_ref rfl (own_ite_ref rfl (own_ite_ref rfl (own_ite_ref rfl (own_ite_ref rfl (own_ite_ref rfl (own_ite_ref rfl (own_ite_ref rfl (own_ite_ref rfl (own_ite_ref rfl (own_ite_ref rfl (own_ite_ref rfl (own_ite_ref rfl (own_ite_ref rfl (own_ite_ref rfl (own_ite_ref rfl (own_ite_ref rfl (rfl)))))))))))))))))
set_option maxRecDepth 65536 in
set_option maxHeartbeats 40000000 in
theorem rm2 (l : Launch) (Z : State) (ar0 : Array Value) (hw : ∀ d ∈ tables_1, d.before ar0 Z = true) (ws : List Jvm.Cond) (p0 : Int32) (w_BY_TAG : Addr) (c_BY_TAG : Cell) (w_INTEGER : Addr) (w_UTF8 : Addr) (w_DOUBLE : Addr) (w_STRING : Addr) (w_NAME_AND_TYPE : Addr) (w_LONG : Addr) (w_METHOD_HANDLE : Addr) (w_MODULE : Addr) (w_CLASS : Addr) (w_METHODREF : Addr) (w_PACKAGE : Addr) (w_FIELDREF : Addr) (w_FLOAT : Addr) (w_INTERFACE_METHODREF : Addr) (w_DYNAMIC : Addr) (w_INVOKE_DYNAMIC : Addr) (w_METHOD_TYPE : Addr) (h0 : Heap) (n0 : Nat) (Z0 : n0 ≤ h0.size) (F : Fx Z h0 w_BY_TAG c_BY_TAG w_INTEGER w_UTF8 w_DOUBLE w_STRING w_NAME_AND_TYPE w_LONG w_METHOD_HANDLE w_MODULE w_CLASS w_METHODREF w_PACKAGE w_FIELDREF w_FLOAT w_INTERFACE_METHODREF w_DYNAMIC w_INVOKE_DYNAMIC w_METHOD_TYPE)  (r : Value) (hre : r = v2 p0 w_BY_TAG w_INTEGER w_UTF8 w_DOUBLE w_STRING w_NAME_AND_TYPE w_LONG w_METHOD_HANDLE w_MODULE w_CLASS w_METHODREF w_PACKAGE w_FIELDREF w_FLOAT w_INTERFACE_METHODREF w_DYNAMIC w_INVOKE_DYNAMIC w_METHOD_TYPE) :
    MetFree l (⟨"com/example/cafelens/cafelens/ConstantKindOfTagPinLaw", "expected", "(I)Lcom/example/cafelens/cafelens/ConstantKind;"⟩ : MethodName) (head1 ((Jvm.Cond.code (⟨"com/example/cafelens/cafelens/ConstantKindOfTagPinLaw", "expected", "(I)Lcom/example/cafelens/cafelens/ConstantKind;"⟩ : MethodName) method_2_code 1 (some (.object "com/example/cafelens/cafelens/ConstantKind"))) :: ws) ({ frames := 0, cells := 0, slots := 0, locals := 0 } : Room)) (fun a U => a = #[(.int p0)] ∧ Z.Warmed39 U.vm ∧ U.heap = h0) (fun _ _ _ _ _ => True) (fun _ U o U' => ∃ v L, o = .returned v ∧ Qp (some r) h0 n0 v U'.heap L ∧ FrameEnd U o U' L ({ frames := 0, cells := 0, slots := 0, locals := 0 } : Room).cells ({ frames := 0, cells := 0, slots := 0, locals := 0 } : Room).slots) := by
  obtain ⟨S_BY_TAG, A_BY_TAG, L_BY_TAG, T_BY_TAG_0, S_INTEGER, E_INTEGER, T_BY_TAG_3, T_BY_TAG_14, S_UTF8, E_UTF8, T_BY_TAG_1, S_DOUBLE, E_DOUBLE, T_BY_TAG_6, T_BY_TAG_13, S_STRING, E_STRING, T_BY_TAG_8, S_NAME_AND_TYPE, E_NAME_AND_TYPE, T_BY_TAG_12, S_LONG, E_LONG, T_BY_TAG_5, S_METHOD_HANDLE, E_METHOD_HANDLE, T_BY_TAG_15, S_MODULE, E_MODULE, T_BY_TAG_19, S_CLASS, E_CLASS, T_BY_TAG_7, S_METHODREF, E_METHODREF, T_BY_TAG_10, T_BY_TAG_2, S_PACKAGE, E_PACKAGE, T_BY_TAG_20, S_FIELDREF, E_FIELDREF, T_BY_TAG_9, S_FLOAT, E_FLOAT, T_BY_TAG_4, S_INTERFACE_METHODREF, E_INTERFACE_METHODREF, T_BY_TAG_11, S_DYNAMIC, E_DYNAMIC, T_BY_TAG_17, S_INVOKE_DYNAMIC, E_INVOKE_DYNAMIC, T_BY_TAG_18, S_METHOD_TYPE, E_METHOD_TYPE, T_BY_TAG_16⟩ := id F
  refine MetFree.of_bodySF (plainFor_of_name pn_2) hisR ?_
  intro p e s m args below meth c s₁ Bd hml0 hP hK
  obtain ⟨rfl, hZ, hh⟩ := hP
  have hx := Bd.exec
  have hby := Bd.bytes
  have hml : c.maxLocals = 1 := hml0
  have hown : s.vm.findClass "com/example/cafelens/cafelens/ConstantKindOfTagPinLaw" = some m.cls := findClass_of_methodNamed Bd.named
  have X0 : Stand p l e ({ frames := 0, cells := 0, slots := 0, locals := 0 } : Room) s m #[(.int p0)] below meth c s₁ [] 0 0 := Stand.of_body Bd
  have e0 : s₁.heap = h0 := by rw [← hh, Bd.state]; rfl
  have N0 := Fr.nil n0
  have pre0 : ∀ t, Steps p.tables e below (s₁.setTop (mkF m 0 #[.val (.int p0)] [])) t → Steps p.tables e below (s₁.setTop (entryFrame m #[(.int p0)] 1)) t := fun t k => castTop (ef_2 m p0) k
  have pre1 : ∀ t, Steps p.tables e below (s₁.setTop (mkF m 2 #[.val (.int p0)] [(.int (1 : Int32)), (.int p0)])) t → Steps p.tables e below (s₁.setTop (entryFrame m #[(.int p0)] 1)) t := by
    intro t k
    refine pre0 _ ?_
    show Steps p.tables e below (s₁.setTop (mkF m 0 #[.val (.int p0)] [])) _
    refine XS.iloadN X0.here hx rfl (hb hby d2_0) rfl ?_
    show Steps p.tables e below (s₁.setTop (mkF m 1 #[.val (.int p0)] [(.int p0)])) _
    refine XS.iconst X0.here hx rfl (hb hby d2_1) ?_
    exact k
  by_cases hc2 : p0 = (1 : Int32)
  ·
    obtain ⟨T3, X3, e3, st3⟩ := getS2 X0 hx hZ hown (host := "") (Or.inl (hw _ (List.mem_of_getElem? (i := 13) rfl))) Via.refl e0 S_UTF8 (g := (mkF m 5 #[.val (.int p0)] [])) rfl (hb hby d2_5)
    have hv : (some r : Option Value) = some (.ref w_UTF8) := by rw [hre]; unfold v2; rw [if_pos hc2]
    rw [hv]
    obtain ⟨fs, hr, hrun, hended, hW, hsame⟩ := X3.leave (v := some (.ref w_UTF8)) (fun h => by rw [Bd.returns] at h; cases h)
    refine ⟨_, _, pre1 _ ?_, hrun, hended, _, _, rfl, ?_, ⟨_, rfl⟩, hW, hsame.mono (by decide) (by decide)⟩
    · show Steps p.tables e below (s₁.setTop (mkF m 2 #[.val (.int p0)] [(.int (1 : Int32)), (.int p0)])) _
      refine XS.icmpNo X0.here hx rfl (hb hby d2_2) rfl (teq hc2).2 ?_
      show Steps p.tables e below (s₁.setTop (mkF m 5 #[.val (.int p0)] [])) _
      refine st3 _ ?_
      show Steps p.tables e below (T3.setTop (mkF m 8 #[.val (.int p0)] [(.ref w_UTF8)])) _
      exact retOut X3 hx Bd.returns rfl (Or.inr (Or.inr (Or.inr (Or.inr ⟨rfl, rfl, rfl⟩)))) (hb hby d2_8) hr
    · show Qp (some (.ref w_UTF8)) h0 n0 _ T3.heap _
      rw [e3]
      exact ⟨rfl, N0, rfl⟩
  ·
    have pre4 : ∀ t, Steps p.tables e below (s₁.setTop (mkF m 11 #[.val (.int p0)] [(.int (3 : Int32)), (.int p0)])) t → Steps p.tables e below (s₁.setTop (entryFrame m #[(.int p0)] 1)) t := by
      intro t k
      refine pre1 _ ?_
      show Steps p.tables e below (s₁.setTop (mkF m 2 #[.val (.int p0)] [(.int (1 : Int32)), (.int p0)])) _
      refine XS.icmpYes X0.here hx rfl (pc0 := 2) (pc' := 9) rfl (hb hby d2_2) rfl (feq hc2).2 (by decide) (by decide) ?_
      show Steps p.tables e below (s₁.setTop (mkF m 9 #[.val (.int p0)] [])) _
      refine XS.iloadN X0.here hx rfl (hb hby d2_9) rfl ?_
      show Steps p.tables e below (s₁.setTop (mkF m 10 #[.val (.int p0)] [(.int p0)])) _
      refine XS.iconst X0.here hx rfl (hb hby d2_10) ?_
      exact k
    by_cases hc5 : p0 = (3 : Int32)
    ·
      obtain ⟨T6, X6, e6, st6⟩ := getS2 X0 hx hZ hown (host := "") (Or.inl (hw _ (List.mem_of_getElem? (i := 11) rfl))) Via.refl e0 S_INTEGER (g := (mkF m 14 #[.val (.int p0)] [])) rfl (hb hby d2_14)
      have hv : (some r : Option Value) = some (.ref w_INTEGER) := by rw [hre]; unfold v2; rw [if_neg hc2, if_pos hc5]
      rw [hv]
      obtain ⟨fs, hr, hrun, hended, hW, hsame⟩ := X6.leave (v := some (.ref w_INTEGER)) (fun h => by rw [Bd.returns] at h; cases h)
      refine ⟨_, _, pre4 _ ?_, hrun, hended, _, _, rfl, ?_, ⟨_, rfl⟩, hW, hsame.mono (by decide) (by decide)⟩
      · show Steps p.tables e below (s₁.setTop (mkF m 11 #[.val (.int p0)] [(.int (3 : Int32)), (.int p0)])) _
        refine XS.icmpNo X0.here hx rfl (hb hby d2_11) rfl (teq hc5).2 ?_
        show Steps p.tables e below (s₁.setTop (mkF m 14 #[.val (.int p0)] [])) _
        refine st6 _ ?_
        show Steps p.tables e below (T6.setTop (mkF m 17 #[.val (.int p0)] [(.ref w_INTEGER)])) _
        exact retOut X6 hx Bd.returns rfl (Or.inr (Or.inr (Or.inr (Or.inr ⟨rfl, rfl, rfl⟩)))) (hb hby d2_17) hr
      · show Qp (some (.ref w_INTEGER)) h0 n0 _ T6.heap _
        rw [e6]
        exact ⟨rfl, N0, rfl⟩
    ·
      have pre7 : ∀ t, Steps p.tables e below (s₁.setTop (mkF m 20 #[.val (.int p0)] [(.int (4 : Int32)), (.int p0)])) t → Steps p.tables e below (s₁.setTop (entryFrame m #[(.int p0)] 1)) t := by
        intro t k
        refine pre4 _ ?_
        show Steps p.tables e below (s₁.setTop (mkF m 11 #[.val (.int p0)] [(.int (3 : Int32)), (.int p0)])) _
        refine XS.icmpYes X0.here hx rfl (pc0 := 11) (pc' := 18) rfl (hb hby d2_11) rfl (feq hc5).2 (by decide) (by decide) ?_
        show Steps p.tables e below (s₁.setTop (mkF m 18 #[.val (.int p0)] [])) _
        refine XS.iloadN X0.here hx rfl (hb hby d2_18) rfl ?_
        show Steps p.tables e below (s₁.setTop (mkF m 19 #[.val (.int p0)] [(.int p0)])) _
        refine XS.iconst X0.here hx rfl (hb hby d2_19) ?_
        exact k
      by_cases hc8 : p0 = (4 : Int32)
      ·
        obtain ⟨T9, X9, e9, st9⟩ := getS2 X0 hx hZ hown (host := "") (Or.inl (hw _ (List.mem_of_getElem? (i := 35) rfl))) Via.refl e0 S_FLOAT (g := (mkF m 23 #[.val (.int p0)] [])) rfl (hb hby d2_23)
        have hv : (some r : Option Value) = some (.ref w_FLOAT) := by rw [hre]; unfold v2; rw [if_neg hc2, if_neg hc5, if_pos hc8]
        rw [hv]
        obtain ⟨fs, hr, hrun, hended, hW, hsame⟩ := X9.leave (v := some (.ref w_FLOAT)) (fun h => by rw [Bd.returns] at h; cases h)
        refine ⟨_, _, pre7 _ ?_, hrun, hended, _, _, rfl, ?_, ⟨_, rfl⟩, hW, hsame.mono (by decide) (by decide)⟩
        · show Steps p.tables e below (s₁.setTop (mkF m 20 #[.val (.int p0)] [(.int (4 : Int32)), (.int p0)])) _
          refine XS.icmpNo X0.here hx rfl (hb hby d2_20) rfl (teq hc8).2 ?_
          show Steps p.tables e below (s₁.setTop (mkF m 23 #[.val (.int p0)] [])) _
          refine st9 _ ?_
          show Steps p.tables e below (T9.setTop (mkF m 26 #[.val (.int p0)] [(.ref w_FLOAT)])) _
          exact retOut X9 hx Bd.returns rfl (Or.inr (Or.inr (Or.inr (Or.inr ⟨rfl, rfl, rfl⟩)))) (hb hby d2_26) hr
        · show Qp (some (.ref w_FLOAT)) h0 n0 _ T9.heap _
          rw [e9]
          exact ⟨rfl, N0, rfl⟩
      ·
        have pre10 : ∀ t, Steps p.tables e below (s₁.setTop (mkF m 29 #[.val (.int p0)] [(.int (5 : Int32)), (.int p0)])) t → Steps p.tables e below (s₁.setTop (entryFrame m #[(.int p0)] 1)) t := by
          intro t k
          refine pre7 _ ?_
          show Steps p.tables e below (s₁.setTop (mkF m 20 #[.val (.int p0)] [(.int (4 : Int32)), (.int p0)])) _
          refine XS.icmpYes X0.here hx rfl (pc0 := 20) (pc' := 27) rfl (hb hby d2_20) rfl (feq hc8).2 (by decide) (by decide) ?_
          show Steps p.tables e below (s₁.setTop (mkF m 27 #[.val (.int p0)] [])) _
          refine XS.iloadN X0.here hx rfl (hb hby d2_27) rfl ?_
          show Steps p.tables e below (s₁.setTop (mkF m 28 #[.val (.int p0)] [(.int p0)])) _
          refine XS.iconst X0.here hx rfl (hb hby d2_28) ?_
          exact k
        by_cases hc11 : p0 = (5 : Int32)
        ·
          obtain ⟨T12, X12, e12, st12⟩ := getS2 X0 hx hZ hown (host := "") (Or.inl (hw _ (List.mem_of_getElem? (i := 21) rfl))) Via.refl e0 S_LONG (g := (mkF m 32 #[.val (.int p0)] [])) rfl (hb hby d2_32)
          have hv : (some r : Option Value) = some (.ref w_LONG) := by rw [hre]; unfold v2; rw [if_neg hc2, if_neg hc5, if_neg hc8, if_pos hc11]
          rw [hv]
          obtain ⟨fs, hr, hrun, hended, hW, hsame⟩ := X12.leave (v := some (.ref w_LONG)) (fun h => by rw [Bd.returns] at h; cases h)
          refine ⟨_, _, pre10 _ ?_, hrun, hended, _, _, rfl, ?_, ⟨_, rfl⟩, hW, hsame.mono (by decide) (by decide)⟩
          · show Steps p.tables e below (s₁.setTop (mkF m 29 #[.val (.int p0)] [(.int (5 : Int32)), (.int p0)])) _
            refine XS.icmpNo X0.here hx rfl (hb hby d2_29) rfl (teq hc11).2 ?_
            show Steps p.tables e below (s₁.setTop (mkF m 32 #[.val (.int p0)] [])) _
            refine st12 _ ?_
            show Steps p.tables e below (T12.setTop (mkF m 35 #[.val (.int p0)] [(.ref w_LONG)])) _
            exact retOut X12 hx Bd.returns rfl (Or.inr (Or.inr (Or.inr (Or.inr ⟨rfl, rfl, rfl⟩)))) (hb hby d2_35) hr
          · show Qp (some (.ref w_LONG)) h0 n0 _ T12.heap _
            rw [e12]
            exact ⟨rfl, N0, rfl⟩
        ·
          have pre13 : ∀ t, Steps p.tables e below (s₁.setTop (mkF m 39 #[.val (.int p0)] [(.int (6 : Int32)), (.int p0)])) t → Steps p.tables e below (s₁.setTop (entryFrame m #[(.int p0)] 1)) t := by
            intro t k
            refine pre10 _ ?_
            show Steps p.tables e below (s₁.setTop (mkF m 29 #[.val (.int p0)] [(.int (5 : Int32)), (.int p0)])) _
            refine XS.icmpYes X0.here hx rfl (pc0 := 29) (pc' := 36) rfl (hb hby d2_29) rfl (feq hc11).2 (by decide) (by decide) ?_
            show Steps p.tables e below (s₁.setTop (mkF m 36 #[.val (.int p0)] [])) _
            refine XS.iloadN X0.here hx rfl (hb hby d2_36) rfl ?_
            show Steps p.tables e below (s₁.setTop (mkF m 37 #[.val (.int p0)] [(.int p0)])) _
            refine XS.bipush X0.here hx rfl (hb hby d2_37) ?_
            exact k
          by_cases hc14 : p0 = (6 : Int32)
          ·
            obtain ⟨T15, X15, e15, st15⟩ := getS2 X0 hx hZ hown (host := "") (Or.inl (hw _ (List.mem_of_getElem? (i := 15) rfl))) Via.refl e0 S_DOUBLE (g := (mkF m 42 #[.val (.int p0)] [])) rfl (hb hby d2_42)
            have hv : (some r : Option Value) = some (.ref w_DOUBLE) := by rw [hre]; unfold v2; rw [if_neg hc2, if_neg hc5, if_neg hc8, if_neg hc11, if_pos hc14]
            rw [hv]
            obtain ⟨fs, hr, hrun, hended, hW, hsame⟩ := X15.leave (v := some (.ref w_DOUBLE)) (fun h => by rw [Bd.returns] at h; cases h)
            refine ⟨_, _, pre13 _ ?_, hrun, hended, _, _, rfl, ?_, ⟨_, rfl⟩, hW, hsame.mono (by decide) (by decide)⟩
            · show Steps p.tables e below (s₁.setTop (mkF m 39 #[.val (.int p0)] [(.int (6 : Int32)), (.int p0)])) _
              refine XS.icmpNo X0.here hx rfl (hb hby d2_39) rfl (teq hc14).2 ?_
              show Steps p.tables e below (s₁.setTop (mkF m 42 #[.val (.int p0)] [])) _
              refine st15 _ ?_
              show Steps p.tables e below (T15.setTop (mkF m 45 #[.val (.int p0)] [(.ref w_DOUBLE)])) _
              exact retOut X15 hx Bd.returns rfl (Or.inr (Or.inr (Or.inr (Or.inr ⟨rfl, rfl, rfl⟩)))) (hb hby d2_45) hr
            · show Qp (some (.ref w_DOUBLE)) h0 n0 _ T15.heap _
              rw [e15]
              exact ⟨rfl, N0, rfl⟩
          ·
            have pre16 : ∀ t, Steps p.tables e below (s₁.setTop (mkF m 49 #[.val (.int p0)] [(.int (7 : Int32)), (.int p0)])) t → Steps p.tables e below (s₁.setTop (entryFrame m #[(.int p0)] 1)) t := by
              intro t k
              refine pre13 _ ?_
              show Steps p.tables e below (s₁.setTop (mkF m 39 #[.val (.int p0)] [(.int (6 : Int32)), (.int p0)])) _
              refine XS.icmpYes X0.here hx rfl (pc0 := 39) (pc' := 46) rfl (hb hby d2_39) rfl (feq hc14).2 (by decide) (by decide) ?_
              show Steps p.tables e below (s₁.setTop (mkF m 46 #[.val (.int p0)] [])) _
              refine XS.iloadN X0.here hx rfl (hb hby d2_46) rfl ?_
              show Steps p.tables e below (s₁.setTop (mkF m 47 #[.val (.int p0)] [(.int p0)])) _
              refine XS.bipush X0.here hx rfl (hb hby d2_47) ?_
              exact k
            by_cases hc17 : p0 = (7 : Int32)
            ·
              obtain ⟨T18, X18, e18, st18⟩ := getS2 X0 hx hZ hown (host := "") (Or.inl (hw _ (List.mem_of_getElem? (i := 27) rfl))) Via.refl e0 S_CLASS (g := (mkF m 52 #[.val (.int p0)] [])) rfl (hb hby d2_52)
              have hv : (some r : Option Value) = some (.ref w_CLASS) := by rw [hre]; unfold v2; rw [if_neg hc2, if_neg hc5, if_neg hc8, if_neg hc11, if_neg hc14, if_pos hc17]
              rw [hv]
              obtain ⟨fs, hr, hrun, hended, hW, hsame⟩ := X18.leave (v := some (.ref w_CLASS)) (fun h => by rw [Bd.returns] at h; cases h)
              refine ⟨_, _, pre16 _ ?_, hrun, hended, _, _, rfl, ?_, ⟨_, rfl⟩, hW, hsame.mono (by decide) (by decide)⟩
              · show Steps p.tables e below (s₁.setTop (mkF m 49 #[.val (.int p0)] [(.int (7 : Int32)), (.int p0)])) _
                refine XS.icmpNo X0.here hx rfl (hb hby d2_49) rfl (teq hc17).2 ?_
                show Steps p.tables e below (s₁.setTop (mkF m 52 #[.val (.int p0)] [])) _
                refine st18 _ ?_
                show Steps p.tables e below (T18.setTop (mkF m 55 #[.val (.int p0)] [(.ref w_CLASS)])) _
                exact retOut X18 hx Bd.returns rfl (Or.inr (Or.inr (Or.inr (Or.inr ⟨rfl, rfl, rfl⟩)))) (hb hby d2_55) hr
              · show Qp (some (.ref w_CLASS)) h0 n0 _ T18.heap _
                rw [e18]
                exact ⟨rfl, N0, rfl⟩
            ·
              have pre19 : ∀ t, Steps p.tables e below (s₁.setTop (mkF m 59 #[.val (.int p0)] [(.int (8 : Int32)), (.int p0)])) t → Steps p.tables e below (s₁.setTop (entryFrame m #[(.int p0)] 1)) t := by
                intro t k
                refine pre16 _ ?_
                show Steps p.tables e below (s₁.setTop (mkF m 49 #[.val (.int p0)] [(.int (7 : Int32)), (.int p0)])) _
                refine XS.icmpYes X0.here hx rfl (pc0 := 49) (pc' := 56) rfl (hb hby d2_49) rfl (feq hc17).2 (by decide) (by decide) ?_
                show Steps p.tables e below (s₁.setTop (mkF m 56 #[.val (.int p0)] [])) _
                refine XS.iloadN X0.here hx rfl (hb hby d2_56) rfl ?_
                show Steps p.tables e below (s₁.setTop (mkF m 57 #[.val (.int p0)] [(.int p0)])) _
                refine XS.bipush X0.here hx rfl (hb hby d2_57) ?_
                exact k
              by_cases hc20 : p0 = (8 : Int32)
              ·
                obtain ⟨T21, X21, e21, st21⟩ := getS2 X0 hx hZ hown (host := "") (Or.inl (hw _ (List.mem_of_getElem? (i := 17) rfl))) Via.refl e0 S_STRING (g := (mkF m 62 #[.val (.int p0)] [])) rfl (hb hby d2_62)
                have hv : (some r : Option Value) = some (.ref w_STRING) := by rw [hre]; unfold v2; rw [if_neg hc2, if_neg hc5, if_neg hc8, if_neg hc11, if_neg hc14, if_neg hc17, if_pos hc20]
                rw [hv]
                obtain ⟨fs, hr, hrun, hended, hW, hsame⟩ := X21.leave (v := some (.ref w_STRING)) (fun h => by rw [Bd.returns] at h; cases h)
                refine ⟨_, _, pre19 _ ?_, hrun, hended, _, _, rfl, ?_, ⟨_, rfl⟩, hW, hsame.mono (by decide) (by decide)⟩
                · show Steps p.tables e below (s₁.setTop (mkF m 59 #[.val (.int p0)] [(.int (8 : Int32)), (.int p0)])) _
                  refine XS.icmpNo X0.here hx rfl (hb hby d2_59) rfl (teq hc20).2 ?_
                  show Steps p.tables e below (s₁.setTop (mkF m 62 #[.val (.int p0)] [])) _
                  refine st21 _ ?_
                  show Steps p.tables e below (T21.setTop (mkF m 65 #[.val (.int p0)] [(.ref w_STRING)])) _
                  exact retOut X21 hx Bd.returns rfl (Or.inr (Or.inr (Or.inr (Or.inr ⟨rfl, rfl, rfl⟩)))) (hb hby d2_65) hr
                · show Qp (some (.ref w_STRING)) h0 n0 _ T21.heap _
                  rw [e21]
                  exact ⟨rfl, N0, rfl⟩
              ·
                have pre22 : ∀ t, Steps p.tables e below (s₁.setTop (mkF m 69 #[.val (.int p0)] [(.int (9 : Int32)), (.int p0)])) t → Steps p.tables e below (s₁.setTop (entryFrame m #[(.int p0)] 1)) t := by
                  intro t k
                  refine pre19 _ ?_
                  show Steps p.tables e below (s₁.setTop (mkF m 59 #[.val (.int p0)] [(.int (8 : Int32)), (.int p0)])) _
                  refine XS.icmpYes X0.here hx rfl (pc0 := 59) (pc' := 66) rfl (hb hby d2_59) rfl (feq hc20).2 (by decide) (by decide) ?_
                  show Steps p.tables e below (s₁.setTop (mkF m 66 #[.val (.int p0)] [])) _
                  refine XS.iloadN X0.here hx rfl (hb hby d2_66) rfl ?_
                  show Steps p.tables e below (s₁.setTop (mkF m 67 #[.val (.int p0)] [(.int p0)])) _
                  refine XS.bipush X0.here hx rfl (hb hby d2_67) ?_
                  exact k
                by_cases hc23 : p0 = (9 : Int32)
                ·
                  obtain ⟨T24, X24, e24, st24⟩ := getS2 X0 hx hZ hown (host := "") (Or.inl (hw _ (List.mem_of_getElem? (i := 33) rfl))) Via.refl e0 S_FIELDREF (g := (mkF m 72 #[.val (.int p0)] [])) rfl (hb hby d2_72)
                  have hv : (some r : Option Value) = some (.ref w_FIELDREF) := by rw [hre]; unfold v2; rw [if_neg hc2, if_neg hc5, if_neg hc8, if_neg hc11, if_neg hc14, if_neg hc17, if_neg hc20, if_pos hc23]
                  rw [hv]
                  obtain ⟨fs, hr, hrun, hended, hW, hsame⟩ := X24.leave (v := some (.ref w_FIELDREF)) (fun h => by rw [Bd.returns] at h; cases h)
                  refine ⟨_, _, pre22 _ ?_, hrun, hended, _, _, rfl, ?_, ⟨_, rfl⟩, hW, hsame.mono (by decide) (by decide)⟩
                  · show Steps p.tables e below (s₁.setTop (mkF m 69 #[.val (.int p0)] [(.int (9 : Int32)), (.int p0)])) _
                    refine XS.icmpNo X0.here hx rfl (hb hby d2_69) rfl (teq hc23).2 ?_
                    show Steps p.tables e below (s₁.setTop (mkF m 72 #[.val (.int p0)] [])) _
                    refine st24 _ ?_
                    show Steps p.tables e below (T24.setTop (mkF m 75 #[.val (.int p0)] [(.ref w_FIELDREF)])) _
                    exact retOut X24 hx Bd.returns rfl (Or.inr (Or.inr (Or.inr (Or.inr ⟨rfl, rfl, rfl⟩)))) (hb hby d2_75) hr
                  · show Qp (some (.ref w_FIELDREF)) h0 n0 _ T24.heap _
                    rw [e24]
                    exact ⟨rfl, N0, rfl⟩
                ·
                  have pre25 : ∀ t, Steps p.tables e below (s₁.setTop (mkF m 79 #[.val (.int p0)] [(.int (10 : Int32)), (.int p0)])) t → Steps p.tables e below (s₁.setTop (entryFrame m #[(.int p0)] 1)) t := by
                    intro t k
                    refine pre22 _ ?_
                    show Steps p.tables e below (s₁.setTop (mkF m 69 #[.val (.int p0)] [(.int (9 : Int32)), (.int p0)])) _
                    refine XS.icmpYes X0.here hx rfl (pc0 := 69) (pc' := 76) rfl (hb hby d2_69) rfl (feq hc23).2 (by decide) (by decide) ?_
                    show Steps p.tables e below (s₁.setTop (mkF m 76 #[.val (.int p0)] [])) _
                    refine XS.iloadN X0.here hx rfl (hb hby d2_76) rfl ?_
                    show Steps p.tables e below (s₁.setTop (mkF m 77 #[.val (.int p0)] [(.int p0)])) _
                    refine XS.bipush X0.here hx rfl (hb hby d2_77) ?_
                    exact k
                  by_cases hc26 : p0 = (10 : Int32)
                  ·
                    obtain ⟨T27, X27, e27, st27⟩ := getS2 X0 hx hZ hown (host := "") (Or.inl (hw _ (List.mem_of_getElem? (i := 29) rfl))) Via.refl e0 S_METHODREF (g := (mkF m 82 #[.val (.int p0)] [])) rfl (hb hby d2_82)
                    have hv : (some r : Option Value) = some (.ref w_METHODREF) := by rw [hre]; unfold v2; rw [if_neg hc2, if_neg hc5, if_neg hc8, if_neg hc11, if_neg hc14, if_neg hc17, if_neg hc20, if_neg hc23, if_pos hc26]
                    rw [hv]
                    obtain ⟨fs, hr, hrun, hended, hW, hsame⟩ := X27.leave (v := some (.ref w_METHODREF)) (fun h => by rw [Bd.returns] at h; cases h)
                    refine ⟨_, _, pre25 _ ?_, hrun, hended, _, _, rfl, ?_, ⟨_, rfl⟩, hW, hsame.mono (by decide) (by decide)⟩
                    · show Steps p.tables e below (s₁.setTop (mkF m 79 #[.val (.int p0)] [(.int (10 : Int32)), (.int p0)])) _
                      refine XS.icmpNo X0.here hx rfl (hb hby d2_79) rfl (teq hc26).2 ?_
                      show Steps p.tables e below (s₁.setTop (mkF m 82 #[.val (.int p0)] [])) _
                      refine st27 _ ?_
                      show Steps p.tables e below (T27.setTop (mkF m 85 #[.val (.int p0)] [(.ref w_METHODREF)])) _
                      exact retOut X27 hx Bd.returns rfl (Or.inr (Or.inr (Or.inr (Or.inr ⟨rfl, rfl, rfl⟩)))) (hb hby d2_85) hr
                    · show Qp (some (.ref w_METHODREF)) h0 n0 _ T27.heap _
                      rw [e27]
                      exact ⟨rfl, N0, rfl⟩
                  ·
                    have pre28 : ∀ t, Steps p.tables e below (s₁.setTop (mkF m 89 #[.val (.int p0)] [(.int (11 : Int32)), (.int p0)])) t → Steps p.tables e below (s₁.setTop (entryFrame m #[(.int p0)] 1)) t := by
                      intro t k
                      refine pre25 _ ?_
                      show Steps p.tables e below (s₁.setTop (mkF m 79 #[.val (.int p0)] [(.int (10 : Int32)), (.int p0)])) _
                      refine XS.icmpYes X0.here hx rfl (pc0 := 79) (pc' := 86) rfl (hb hby d2_79) rfl (feq hc26).2 (by decide) (by decide) ?_
                      show Steps p.tables e below (s₁.setTop (mkF m 86 #[.val (.int p0)] [])) _
                      refine XS.iloadN X0.here hx rfl (hb hby d2_86) rfl ?_
                      show Steps p.tables e below (s₁.setTop (mkF m 87 #[.val (.int p0)] [(.int p0)])) _
                      refine XS.bipush X0.here hx rfl (hb hby d2_87) ?_
                      exact k
                    by_cases hc29 : p0 = (11 : Int32)
                    ·
                      obtain ⟨T30, X30, e30, st30⟩ := getS2 X0 hx hZ hown (host := "") (Or.inl (hw _ (List.mem_of_getElem? (i := 37) rfl))) Via.refl e0 S_INTERFACE_METHODREF (g := (mkF m 92 #[.val (.int p0)] [])) rfl (hb hby d2_92)
                      have hv : (some r : Option Value) = some (.ref w_INTERFACE_METHODREF) := by rw [hre]; unfold v2; rw [if_neg hc2, if_neg hc5, if_neg hc8, if_neg hc11, if_neg hc14, if_neg hc17, if_neg hc20, if_neg hc23, if_neg hc26, if_pos hc29]
                      rw [hv]
                      obtain ⟨fs, hr, hrun, hended, hW, hsame⟩ := X30.leave (v := some (.ref w_INTERFACE_METHODREF)) (fun h => by rw [Bd.returns] at h; cases h)
                      refine ⟨_, _, pre28 _ ?_, hrun, hended, _, _, rfl, ?_, ⟨_, rfl⟩, hW, hsame.mono (by decide) (by decide)⟩
                      · show Steps p.tables e below (s₁.setTop (mkF m 89 #[.val (.int p0)] [(.int (11 : Int32)), (.int p0)])) _
                        refine XS.icmpNo X0.here hx rfl (hb hby d2_89) rfl (teq hc29).2 ?_
                        show Steps p.tables e below (s₁.setTop (mkF m 92 #[.val (.int p0)] [])) _
                        refine st30 _ ?_
                        show Steps p.tables e below (T30.setTop (mkF m 95 #[.val (.int p0)] [(.ref w_INTERFACE_METHODREF)])) _
                        exact retOut X30 hx Bd.returns rfl (Or.inr (Or.inr (Or.inr (Or.inr ⟨rfl, rfl, rfl⟩)))) (hb hby d2_95) hr
                      · show Qp (some (.ref w_INTERFACE_METHODREF)) h0 n0 _ T30.heap _
                        rw [e30]
                        exact ⟨rfl, N0, rfl⟩
                    ·
                      have pre31 : ∀ t, Steps p.tables e below (s₁.setTop (mkF m 99 #[.val (.int p0)] [(.int (12 : Int32)), (.int p0)])) t → Steps p.tables e below (s₁.setTop (entryFrame m #[(.int p0)] 1)) t := by
                        intro t k
                        refine pre28 _ ?_
                        show Steps p.tables e below (s₁.setTop (mkF m 89 #[.val (.int p0)] [(.int (11 : Int32)), (.int p0)])) _
                        refine XS.icmpYes X0.here hx rfl (pc0 := 89) (pc' := 96) rfl (hb hby d2_89) rfl (feq hc29).2 (by decide) (by decide) ?_
                        show Steps p.tables e below (s₁.setTop (mkF m 96 #[.val (.int p0)] [])) _
                        refine XS.iloadN X0.here hx rfl (hb hby d2_96) rfl ?_
                        show Steps p.tables e below (s₁.setTop (mkF m 97 #[.val (.int p0)] [(.int p0)])) _
                        refine XS.bipush X0.here hx rfl (hb hby d2_97) ?_
                        exact k
                      by_cases hc32 : p0 = (12 : Int32)
                      ·
                        obtain ⟨T33, X33, e33, st33⟩ := getS2 X0 hx hZ hown (host := "") (Or.inl (hw _ (List.mem_of_getElem? (i := 20) rfl))) Via.refl e0 S_NAME_AND_TYPE (g := (mkF m 102 #[.val (.int p0)] [])) rfl (hb hby d2_102)
                        have hv : (some r : Option Value) = some (.ref w_NAME_AND_TYPE) := by rw [hre]; unfold v2; rw [if_neg hc2, if_neg hc5, if_neg hc8, if_neg hc11, if_neg hc14, if_neg hc17, if_neg hc20, if_neg hc23, if_neg hc26, if_neg hc29, if_pos hc32]
                        rw [hv]
                        obtain ⟨fs, hr, hrun, hended, hW, hsame⟩ := X33.leave (v := some (.ref w_NAME_AND_TYPE)) (fun h => by rw [Bd.returns] at h; cases h)
                        refine ⟨_, _, pre31 _ ?_, hrun, hended, _, _, rfl, ?_, ⟨_, rfl⟩, hW, hsame.mono (by decide) (by decide)⟩
                        · show Steps p.tables e below (s₁.setTop (mkF m 99 #[.val (.int p0)] [(.int (12 : Int32)), (.int p0)])) _
                          refine XS.icmpNo X0.here hx rfl (hb hby d2_99) rfl (teq hc32).2 ?_
                          show Steps p.tables e below (s₁.setTop (mkF m 102 #[.val (.int p0)] [])) _
                          refine st33 _ ?_
                          show Steps p.tables e below (T33.setTop (mkF m 105 #[.val (.int p0)] [(.ref w_NAME_AND_TYPE)])) _
                          exact retOut X33 hx Bd.returns rfl (Or.inr (Or.inr (Or.inr (Or.inr ⟨rfl, rfl, rfl⟩)))) (hb hby d2_105) hr
                        · show Qp (some (.ref w_NAME_AND_TYPE)) h0 n0 _ T33.heap _
                          rw [e33]
                          exact ⟨rfl, N0, rfl⟩
                      ·
                        have pre34 : ∀ t, Steps p.tables e below (s₁.setTop (mkF m 109 #[.val (.int p0)] [(.int (15 : Int32)), (.int p0)])) t → Steps p.tables e below (s₁.setTop (entryFrame m #[(.int p0)] 1)) t := by
                          intro t k
                          refine pre31 _ ?_
                          show Steps p.tables e below (s₁.setTop (mkF m 99 #[.val (.int p0)] [(.int (12 : Int32)), (.int p0)])) _
                          refine XS.icmpYes X0.here hx rfl (pc0 := 99) (pc' := 106) rfl (hb hby d2_99) rfl (feq hc32).2 (by decide) (by decide) ?_
                          show Steps p.tables e below (s₁.setTop (mkF m 106 #[.val (.int p0)] [])) _
                          refine XS.iloadN X0.here hx rfl (hb hby d2_106) rfl ?_
                          show Steps p.tables e below (s₁.setTop (mkF m 107 #[.val (.int p0)] [(.int p0)])) _
                          refine XS.bipush X0.here hx rfl (hb hby d2_107) ?_
                          exact k
                        by_cases hc35 : p0 = (15 : Int32)
                        ·
                          obtain ⟨T36, X36, e36, st36⟩ := getS2 X0 hx hZ hown (host := "") (Or.inl (hw _ (List.mem_of_getElem? (i := 23) rfl))) Via.refl e0 S_METHOD_HANDLE (g := (mkF m 112 #[.val (.int p0)] [])) rfl (hb hby d2_112)
                          have hv : (some r : Option Value) = some (.ref w_METHOD_HANDLE) := by rw [hre]; unfold v2; rw [if_neg hc2, if_neg hc5, if_neg hc8, if_neg hc11, if_neg hc14, if_neg hc17, if_neg hc20, if_neg hc23, if_neg hc26, if_neg hc29, if_neg hc32, if_pos hc35]
                          rw [hv]
                          obtain ⟨fs, hr, hrun, hended, hW, hsame⟩ := X36.leave (v := some (.ref w_METHOD_HANDLE)) (fun h => by rw [Bd.returns] at h; cases h)
                          refine ⟨_, _, pre34 _ ?_, hrun, hended, _, _, rfl, ?_, ⟨_, rfl⟩, hW, hsame.mono (by decide) (by decide)⟩
                          · show Steps p.tables e below (s₁.setTop (mkF m 109 #[.val (.int p0)] [(.int (15 : Int32)), (.int p0)])) _
                            refine XS.icmpNo X0.here hx rfl (hb hby d2_109) rfl (teq hc35).2 ?_
                            show Steps p.tables e below (s₁.setTop (mkF m 112 #[.val (.int p0)] [])) _
                            refine st36 _ ?_
                            show Steps p.tables e below (T36.setTop (mkF m 115 #[.val (.int p0)] [(.ref w_METHOD_HANDLE)])) _
                            exact retOut X36 hx Bd.returns rfl (Or.inr (Or.inr (Or.inr (Or.inr ⟨rfl, rfl, rfl⟩)))) (hb hby d2_115) hr
                          · show Qp (some (.ref w_METHOD_HANDLE)) h0 n0 _ T36.heap _
                            rw [e36]
                            exact ⟨rfl, N0, rfl⟩
                        ·
                          have pre37 : ∀ t, Steps p.tables e below (s₁.setTop (mkF m 119 #[.val (.int p0)] [(.int (16 : Int32)), (.int p0)])) t → Steps p.tables e below (s₁.setTop (entryFrame m #[(.int p0)] 1)) t := by
                            intro t k
                            refine pre34 _ ?_
                            show Steps p.tables e below (s₁.setTop (mkF m 109 #[.val (.int p0)] [(.int (15 : Int32)), (.int p0)])) _
                            refine XS.icmpYes X0.here hx rfl (pc0 := 109) (pc' := 116) rfl (hb hby d2_109) rfl (feq hc35).2 (by decide) (by decide) ?_
                            show Steps p.tables e below (s₁.setTop (mkF m 116 #[.val (.int p0)] [])) _
                            refine XS.iloadN X0.here hx rfl (hb hby d2_116) rfl ?_
                            show Steps p.tables e below (s₁.setTop (mkF m 117 #[.val (.int p0)] [(.int p0)])) _
                            refine XS.bipush X0.here hx rfl (hb hby d2_117) ?_
                            exact k
                          by_cases hc38 : p0 = (16 : Int32)
                          ·
                            obtain ⟨T39, X39, e39, st39⟩ := getS2 X0 hx hZ hown (host := "") (Or.inl (hw _ (List.mem_of_getElem? (i := 43) rfl))) Via.refl e0 S_METHOD_TYPE (g := (mkF m 122 #[.val (.int p0)] [])) rfl (hb hby d2_122)
                            have hv : (some r : Option Value) = some (.ref w_METHOD_TYPE) := by rw [hre]; unfold v2; rw [if_neg hc2, if_neg hc5, if_neg hc8, if_neg hc11, if_neg hc14, if_neg hc17, if_neg hc20, if_neg hc23, if_neg hc26, if_neg hc29, if_neg hc32, if_neg hc35, if_pos hc38]
                            rw [hv]
                            obtain ⟨fs, hr, hrun, hended, hW, hsame⟩ := X39.leave (v := some (.ref w_METHOD_TYPE)) (fun h => by rw [Bd.returns] at h; cases h)
                            refine ⟨_, _, pre37 _ ?_, hrun, hended, _, _, rfl, ?_, ⟨_, rfl⟩, hW, hsame.mono (by decide) (by decide)⟩
                            · show Steps p.tables e below (s₁.setTop (mkF m 119 #[.val (.int p0)] [(.int (16 : Int32)), (.int p0)])) _
                              refine XS.icmpNo X0.here hx rfl (hb hby d2_119) rfl (teq hc38).2 ?_
                              show Steps p.tables e below (s₁.setTop (mkF m 122 #[.val (.int p0)] [])) _
                              refine st39 _ ?_
                              show Steps p.tables e below (T39.setTop (mkF m 125 #[.val (.int p0)] [(.ref w_METHOD_TYPE)])) _
                              exact retOut X39 hx Bd.returns rfl (Or.inr (Or.inr (Or.inr (Or.inr ⟨rfl, rfl, rfl⟩)))) (hb hby d2_125) hr
                            · show Qp (some (.ref w_METHOD_TYPE)) h0 n0 _ T39.heap _
                              rw [e39]
                              exact ⟨rfl, N0, rfl⟩
                          ·
                            have pre40 : ∀ t, Steps p.tables e below (s₁.setTop (mkF m 129 #[.val (.int p0)] [(.int (17 : Int32)), (.int p0)])) t → Steps p.tables e below (s₁.setTop (entryFrame m #[(.int p0)] 1)) t := by
                              intro t k
                              refine pre37 _ ?_
                              show Steps p.tables e below (s₁.setTop (mkF m 119 #[.val (.int p0)] [(.int (16 : Int32)), (.int p0)])) _
                              refine XS.icmpYes X0.here hx rfl (pc0 := 119) (pc' := 126) rfl (hb hby d2_119) rfl (feq hc38).2 (by decide) (by decide) ?_
                              show Steps p.tables e below (s₁.setTop (mkF m 126 #[.val (.int p0)] [])) _
                              refine XS.iloadN X0.here hx rfl (hb hby d2_126) rfl ?_
                              show Steps p.tables e below (s₁.setTop (mkF m 127 #[.val (.int p0)] [(.int p0)])) _
                              refine XS.bipush X0.here hx rfl (hb hby d2_127) ?_
                              exact k
                            by_cases hc41 : p0 = (17 : Int32)
                            ·
                              obtain ⟨T42, X42, e42, st42⟩ := getS2 X0 hx hZ hown (host := "") (Or.inl (hw _ (List.mem_of_getElem? (i := 39) rfl))) Via.refl e0 S_DYNAMIC (g := (mkF m 132 #[.val (.int p0)] [])) rfl (hb hby d2_132)
                              have hv : (some r : Option Value) = some (.ref w_DYNAMIC) := by rw [hre]; unfold v2; rw [if_neg hc2, if_neg hc5, if_neg hc8, if_neg hc11, if_neg hc14, if_neg hc17, if_neg hc20, if_neg hc23, if_neg hc26, if_neg hc29, if_neg hc32, if_neg hc35, if_neg hc38, if_pos hc41]
                              rw [hv]
                              obtain ⟨fs, hr, hrun, hended, hW, hsame⟩ := X42.leave (v := some (.ref w_DYNAMIC)) (fun h => by rw [Bd.returns] at h; cases h)
                              refine ⟨_, _, pre40 _ ?_, hrun, hended, _, _, rfl, ?_, ⟨_, rfl⟩, hW, hsame.mono (by decide) (by decide)⟩
                              · show Steps p.tables e below (s₁.setTop (mkF m 129 #[.val (.int p0)] [(.int (17 : Int32)), (.int p0)])) _
                                refine XS.icmpNo X0.here hx rfl (hb hby d2_129) rfl (teq hc41).2 ?_
                                show Steps p.tables e below (s₁.setTop (mkF m 132 #[.val (.int p0)] [])) _
                                refine st42 _ ?_
                                show Steps p.tables e below (T42.setTop (mkF m 135 #[.val (.int p0)] [(.ref w_DYNAMIC)])) _
                                exact retOut X42 hx Bd.returns rfl (Or.inr (Or.inr (Or.inr (Or.inr ⟨rfl, rfl, rfl⟩)))) (hb hby d2_135) hr
                              · show Qp (some (.ref w_DYNAMIC)) h0 n0 _ T42.heap _
                                rw [e42]
                                exact ⟨rfl, N0, rfl⟩
                            ·
                              have pre43 : ∀ t, Steps p.tables e below (s₁.setTop (mkF m 139 #[.val (.int p0)] [(.int (18 : Int32)), (.int p0)])) t → Steps p.tables e below (s₁.setTop (entryFrame m #[(.int p0)] 1)) t := by
                                intro t k
                                refine pre40 _ ?_
                                show Steps p.tables e below (s₁.setTop (mkF m 129 #[.val (.int p0)] [(.int (17 : Int32)), (.int p0)])) _
                                refine XS.icmpYes X0.here hx rfl (pc0 := 129) (pc' := 136) rfl (hb hby d2_129) rfl (feq hc41).2 (by decide) (by decide) ?_
                                show Steps p.tables e below (s₁.setTop (mkF m 136 #[.val (.int p0)] [])) _
                                refine XS.iloadN X0.here hx rfl (hb hby d2_136) rfl ?_
                                show Steps p.tables e below (s₁.setTop (mkF m 137 #[.val (.int p0)] [(.int p0)])) _
                                refine XS.bipush X0.here hx rfl (hb hby d2_137) ?_
                                exact k
                              by_cases hc44 : p0 = (18 : Int32)
                              ·
                                obtain ⟨T45, X45, e45, st45⟩ := getS2 X0 hx hZ hown (host := "") (Or.inl (hw _ (List.mem_of_getElem? (i := 41) rfl))) Via.refl e0 S_INVOKE_DYNAMIC (g := (mkF m 142 #[.val (.int p0)] [])) rfl (hb hby d2_142)
                                have hv : (some r : Option Value) = some (.ref w_INVOKE_DYNAMIC) := by rw [hre]; unfold v2; rw [if_neg hc2, if_neg hc5, if_neg hc8, if_neg hc11, if_neg hc14, if_neg hc17, if_neg hc20, if_neg hc23, if_neg hc26, if_neg hc29, if_neg hc32, if_neg hc35, if_neg hc38, if_neg hc41, if_pos hc44]
                                rw [hv]
                                obtain ⟨fs, hr, hrun, hended, hW, hsame⟩ := X45.leave (v := some (.ref w_INVOKE_DYNAMIC)) (fun h => by rw [Bd.returns] at h; cases h)
                                refine ⟨_, _, pre43 _ ?_, hrun, hended, _, _, rfl, ?_, ⟨_, rfl⟩, hW, hsame.mono (by decide) (by decide)⟩
                                · show Steps p.tables e below (s₁.setTop (mkF m 139 #[.val (.int p0)] [(.int (18 : Int32)), (.int p0)])) _
                                  refine XS.icmpNo X0.here hx rfl (hb hby d2_139) rfl (teq hc44).2 ?_
                                  show Steps p.tables e below (s₁.setTop (mkF m 142 #[.val (.int p0)] [])) _
                                  refine st45 _ ?_
                                  show Steps p.tables e below (T45.setTop (mkF m 145 #[.val (.int p0)] [(.ref w_INVOKE_DYNAMIC)])) _
                                  exact retOut X45 hx Bd.returns rfl (Or.inr (Or.inr (Or.inr (Or.inr ⟨rfl, rfl, rfl⟩)))) (hb hby d2_145) hr
                                · show Qp (some (.ref w_INVOKE_DYNAMIC)) h0 n0 _ T45.heap _
                                  rw [e45]
                                  exact ⟨rfl, N0, rfl⟩
                              ·
                                have pre46 : ∀ t, Steps p.tables e below (s₁.setTop (mkF m 149 #[.val (.int p0)] [(.int (19 : Int32)), (.int p0)])) t → Steps p.tables e below (s₁.setTop (entryFrame m #[(.int p0)] 1)) t := by
                                  intro t k
                                  refine pre43 _ ?_
                                  show Steps p.tables e below (s₁.setTop (mkF m 139 #[.val (.int p0)] [(.int (18 : Int32)), (.int p0)])) _
                                  refine XS.icmpYes X0.here hx rfl (pc0 := 139) (pc' := 146) rfl (hb hby d2_139) rfl (feq hc44).2 (by decide) (by decide) ?_
                                  show Steps p.tables e below (s₁.setTop (mkF m 146 #[.val (.int p0)] [])) _
                                  refine XS.iloadN X0.here hx rfl (hb hby d2_146) rfl ?_
                                  show Steps p.tables e below (s₁.setTop (mkF m 147 #[.val (.int p0)] [(.int p0)])) _
                                  refine XS.bipush X0.here hx rfl (hb hby d2_147) ?_
                                  exact k
                                by_cases hc47 : p0 = (19 : Int32)
                                ·
                                  obtain ⟨T48, X48, e48, st48⟩ := getS2 X0 hx hZ hown (host := "") (Or.inl (hw _ (List.mem_of_getElem? (i := 25) rfl))) Via.refl e0 S_MODULE (g := (mkF m 152 #[.val (.int p0)] [])) rfl (hb hby d2_152)
                                  have hv : (some r : Option Value) = some (.ref w_MODULE) := by rw [hre]; unfold v2; rw [if_neg hc2, if_neg hc5, if_neg hc8, if_neg hc11, if_neg hc14, if_neg hc17, if_neg hc20, if_neg hc23, if_neg hc26, if_neg hc29, if_neg hc32, if_neg hc35, if_neg hc38, if_neg hc41, if_neg hc44, if_pos hc47]
                                  rw [hv]
                                  obtain ⟨fs, hr, hrun, hended, hW, hsame⟩ := X48.leave (v := some (.ref w_MODULE)) (fun h => by rw [Bd.returns] at h; cases h)
                                  refine ⟨_, _, pre46 _ ?_, hrun, hended, _, _, rfl, ?_, ⟨_, rfl⟩, hW, hsame.mono (by decide) (by decide)⟩
                                  · show Steps p.tables e below (s₁.setTop (mkF m 149 #[.val (.int p0)] [(.int (19 : Int32)), (.int p0)])) _
                                    refine XS.icmpNo X0.here hx rfl (hb hby d2_149) rfl (teq hc47).2 ?_
                                    show Steps p.tables e below (s₁.setTop (mkF m 152 #[.val (.int p0)] [])) _
                                    refine st48 _ ?_
                                    show Steps p.tables e below (T48.setTop (mkF m 155 #[.val (.int p0)] [(.ref w_MODULE)])) _
                                    exact retOut X48 hx Bd.returns rfl (Or.inr (Or.inr (Or.inr (Or.inr ⟨rfl, rfl, rfl⟩)))) (hb hby d2_155) hr
                                  · show Qp (some (.ref w_MODULE)) h0 n0 _ T48.heap _
                                    rw [e48]
                                    exact ⟨rfl, N0, rfl⟩
                                ·
                                  have pre49 : ∀ t, Steps p.tables e below (s₁.setTop (mkF m 159 #[.val (.int p0)] [(.int (20 : Int32)), (.int p0)])) t → Steps p.tables e below (s₁.setTop (entryFrame m #[(.int p0)] 1)) t := by
                                    intro t k
                                    refine pre46 _ ?_
                                    show Steps p.tables e below (s₁.setTop (mkF m 149 #[.val (.int p0)] [(.int (19 : Int32)), (.int p0)])) _
                                    refine XS.icmpYes X0.here hx rfl (pc0 := 149) (pc' := 156) rfl (hb hby d2_149) rfl (feq hc47).2 (by decide) (by decide) ?_
                                    show Steps p.tables e below (s₁.setTop (mkF m 156 #[.val (.int p0)] [])) _
                                    refine XS.iloadN X0.here hx rfl (hb hby d2_156) rfl ?_
                                    show Steps p.tables e below (s₁.setTop (mkF m 157 #[.val (.int p0)] [(.int p0)])) _
                                    refine XS.bipush X0.here hx rfl (hb hby d2_157) ?_
                                    exact k
                                  by_cases hc50 : p0 = (20 : Int32)
                                  ·
                                    obtain ⟨T51, X51, e51, st51⟩ := getS2 X0 hx hZ hown (host := "") (Or.inl (hw _ (List.mem_of_getElem? (i := 31) rfl))) Via.refl e0 S_PACKAGE (g := (mkF m 162 #[.val (.int p0)] [])) rfl (hb hby d2_162)
                                    have hv : (some r : Option Value) = some (.ref w_PACKAGE) := by rw [hre]; unfold v2; rw [if_neg hc2, if_neg hc5, if_neg hc8, if_neg hc11, if_neg hc14, if_neg hc17, if_neg hc20, if_neg hc23, if_neg hc26, if_neg hc29, if_neg hc32, if_neg hc35, if_neg hc38, if_neg hc41, if_neg hc44, if_neg hc47, if_pos hc50]
                                    rw [hv]
                                    obtain ⟨fs, hr, hrun, hended, hW, hsame⟩ := X51.leave (v := some (.ref w_PACKAGE)) (fun h => by rw [Bd.returns] at h; cases h)
                                    refine ⟨_, _, pre49 _ ?_, hrun, hended, _, _, rfl, ?_, ⟨_, rfl⟩, hW, hsame.mono (by decide) (by decide)⟩
                                    · show Steps p.tables e below (s₁.setTop (mkF m 159 #[.val (.int p0)] [(.int (20 : Int32)), (.int p0)])) _
                                      refine XS.icmpNo X0.here hx rfl (hb hby d2_159) rfl (teq hc50).2 ?_
                                      show Steps p.tables e below (s₁.setTop (mkF m 162 #[.val (.int p0)] [])) _
                                      refine st51 _ ?_
                                      show Steps p.tables e below (T51.setTop (mkF m 165 #[.val (.int p0)] [(.ref w_PACKAGE)])) _
                                      exact retOut X51 hx Bd.returns rfl (Or.inr (Or.inr (Or.inr (Or.inr ⟨rfl, rfl, rfl⟩)))) (hb hby d2_165) hr
                                    · show Qp (some (.ref w_PACKAGE)) h0 n0 _ T51.heap _
                                      rw [e51]
                                      exact ⟨rfl, N0, rfl⟩
                                  ·
                                    have hv : (some r : Option Value) = some .null := by rw [hre]; unfold v2; rw [if_neg hc2, if_neg hc5, if_neg hc8, if_neg hc11, if_neg hc14, if_neg hc17, if_neg hc20, if_neg hc23, if_neg hc26, if_neg hc29, if_neg hc32, if_neg hc35, if_neg hc38, if_neg hc41, if_neg hc44, if_neg hc47, if_neg hc50]
                                    rw [hv]
                                    obtain ⟨fs, hr, hrun, hended, hW, hsame⟩ := X0.leave (v := some .null) (fun h => by rw [Bd.returns] at h; cases h)
                                    refine ⟨_, _, pre49 _ ?_, hrun, hended, _, _, rfl, ?_, ⟨_, rfl⟩, hW, hsame.mono (by decide) (by decide)⟩
                                    · show Steps p.tables e below (s₁.setTop (mkF m 159 #[.val (.int p0)] [(.int (20 : Int32)), (.int p0)])) _
                                      refine XS.icmpYes X0.here hx rfl (pc0 := 159) (pc' := 166) rfl (hb hby d2_159) rfl (feq hc50).2 (by decide) (by decide) ?_
                                      show Steps p.tables e below (s₁.setTop (mkF m 166 #[.val (.int p0)] [])) _
                                      refine XS.aconstNull X0.here hx rfl (hb hby d2_166) ?_
                                      show Steps p.tables e below (s₁.setTop (mkF m 167 #[.val (.int p0)] [.null])) _
                                      exact retOut X0 hx Bd.returns rfl (Or.inr (Or.inr (Or.inr (Or.inr ⟨rfl, rfl, rfl⟩)))) (hb hby d2_167) hr
                                    · show Qp (some .null) h0 n0 _ s₁.heap _
                                      rw [e0]
                                      exact ⟨rfl, N0, rfl⟩

theorem own_key (p0 : Int32) (w_BY_TAG : Addr) (w_INTEGER : Addr) (w_UTF8 : Addr) (w_DOUBLE : Addr) (w_STRING : Addr) (w_NAME_AND_TYPE : Addr) (w_LONG : Addr) (w_METHOD_HANDLE : Addr) (w_MODULE : Addr) (w_CLASS : Addr) (w_METHODREF : Addr) (w_PACKAGE : Addr) (w_FIELDREF : Addr) (w_FLOAT : Addr) (w_INTERFACE_METHODREF : Addr) (w_DYNAMIC : Addr) (w_INVOKE_DYNAMIC : Addr) (w_METHOD_TYPE : Addr) : v1 p0 w_BY_TAG w_INTEGER w_UTF8 w_DOUBLE w_STRING w_NAME_AND_TYPE w_LONG w_METHOD_HANDLE w_MODULE w_CLASS w_METHODREF w_PACKAGE w_FIELDREF w_FLOAT w_INTERFACE_METHODREF w_DYNAMIC w_INVOKE_DYNAMIC w_METHOD_TYPE = v2 p0 w_BY_TAG w_INTEGER w_UTF8 w_DOUBLE w_STRING w_NAME_AND_TYPE w_LONG w_METHOD_HANDLE w_MODULE w_CLASS w_METHODREF w_PACKAGE w_FIELDREF w_FLOAT w_INTERFACE_METHODREF w_DYNAMIC w_INVOKE_DYNAMIC w_METHOD_TYPE := by
  by_cases h1 : p0 < (0 : Int32)
  · have ne : ∀ k : Int32, ¬ k < 0 → ¬ p0 = k := fun k hk q => hk (q ▸ h1)
    unfold v1 v2
    rw [if_pos h1, if_neg (ne 1 (by decide)), if_neg (ne 3 (by decide)), if_neg (ne 4 (by decide)), if_neg (ne 5 (by decide)), if_neg (ne 6 (by decide)), if_neg (ne 7 (by decide)), if_neg (ne 8 (by decide)), if_neg (ne 9 (by decide)), if_neg (ne 10 (by decide)), if_neg (ne 11 (by decide)), if_neg (ne 12 (by decide)), if_neg (ne 15 (by decide)), if_neg (ne 16 (by decide)), if_neg (ne 17 (by decide)), if_neg (ne 18 (by decide)), if_neg (ne 19 (by decide)), if_neg (ne 20 (by decide))]
  · by_cases h2 : p0 < (21 : Int32)
    · have : v1 p0 w_BY_TAG w_INTEGER w_UTF8 w_DOUBLE w_STRING w_NAME_AND_TYPE w_LONG w_METHOD_HANDLE w_MODULE w_CLASS w_METHODREF w_PACKAGE w_FIELDREF w_FLOAT w_INTERFACE_METHODREF w_DYNAMIC w_INVOKE_DYNAMIC w_METHOD_TYPE = tab p0 w_BY_TAG w_INTEGER w_UTF8 w_DOUBLE w_STRING w_NAME_AND_TYPE w_LONG w_METHOD_HANDLE w_MODULE w_CLASS w_METHODREF w_PACKAGE w_FIELDREF w_FLOAT w_INTERFACE_METHODREF w_DYNAMIC w_INVOKE_DYNAMIC w_METHOD_TYPE := by unfold v1; rw [if_neg h1, if_pos h2]
      rw [this]
      rw [Int32.lt_iff_toInt_lt] at h1 h2
      have a : (0 : Int32).toInt = 0 := by decide
      have b : (21 : Int32).toInt = 21 := by decide
      rcases own_cases21 p0 (by omega) (by omega) with rfl | rfl | rfl | rfl | rfl | rfl | rfl | rfl | rfl | rfl | rfl | rfl | rfl | rfl | rfl | rfl | rfl | rfl | rfl | rfl | rfl
      all_goals rfl
    · have ne : ∀ k : Int32, k < 21 → ¬ p0 = k := fun k hk q => h2 (q ▸ hk)
      unfold v1 v2
      rw [if_neg h1, if_neg h2, if_neg (ne 1 (by decide)), if_neg (ne 3 (by decide)), if_neg (ne 4 (by decide)), if_neg (ne 5 (by decide)), if_neg (ne 6 (by decide)), if_neg (ne 7 (by decide)), if_neg (ne 8 (by decide)), if_neg (ne 9 (by decide)), if_neg (ne 10 (by decide)), if_neg (ne 11 (by decide)), if_neg (ne 12 (by decide)), if_neg (ne 15 (by decide)), if_neg (ne 16 (by decide)), if_neg (ne 17 (by decide)), if_neg (ne 18 (by decide)), if_neg (ne 19 (by decide)), if_neg (ne 20 (by decide))]

theorem pn_0 : plainName "com/example/cafelens/cafelens/ConstantKindOfTagPinLaw" = true := by first | (simp [plainName, overriddenIn]; done) | decide +kernel
theorem pd_0_11 : parseMethodDescriptor "(I)Lcom/example/cafelens/cafelens/ConstantKind;" = some ⟨[.int], some (.object "com/example/cafelens/cafelens/ConstantKind")⟩ := by decide +kernel
theorem pd_0_18 : parseMethodDescriptor "(I)Lcom/example/cafelens/cafelens/ConstantKind;" = some ⟨[.int], some (.object "com/example/cafelens/cafelens/ConstantKind")⟩ := by decide +kernel
theorem pd_0_27 : parseMethodDescriptor "(I)Lcom/example/cafelens/cafelens/ConstantKind;" = some ⟨[.int], some (.object "com/example/cafelens/cafelens/ConstantKind")⟩ := by decide +kernel
theorem pd_0_6 : parseMethodDescriptor "(I)Lcom/example/cafelens/cafelens/ConstantKind;" = some ⟨[.int], some (.object "com/example/cafelens/cafelens/ConstantKind")⟩ := by decide +kernel
theorem ef_0 (m : MethodId) (p0 : Int32) (p1 : Int32) : entryFrame m #[(.int p0), (.int p1)] maxLocals = mkF m 0 #[.val (.int p0), .val (.int p1), .unset, .unset, .unset] [] := by first | (simp [entryFrame, mkF, argsToLocals, Value.category, maxLocals]; done) | rfl
set_option maxRecDepth 65536 in
set_option maxHeartbeats 40000000 in
theorem rm0 (l : Launch) (Z : State) (ar0 : Array Value) (hw : ∀ d ∈ tables_1, d.before ar0 Z = true) (ws : List Jvm.Cond) (p0 : Int32) (p1 : Int32) (w_BY_TAG : Addr) (c_BY_TAG : Cell) (w_INTEGER : Addr) (w_UTF8 : Addr) (w_DOUBLE : Addr) (w_STRING : Addr) (w_NAME_AND_TYPE : Addr) (w_LONG : Addr) (w_METHOD_HANDLE : Addr) (w_MODULE : Addr) (w_CLASS : Addr) (w_METHODREF : Addr) (w_PACKAGE : Addr) (w_FIELDREF : Addr) (w_FLOAT : Addr) (w_INTERFACE_METHODREF : Addr) (w_DYNAMIC : Addr) (w_INVOKE_DYNAMIC : Addr) (w_METHOD_TYPE : Addr) (h0 : Heap) (n0 : Nat) (Z0 : n0 ≤ h0.size) (F : Fx Z h0 w_BY_TAG c_BY_TAG w_INTEGER w_UTF8 w_DOUBLE w_STRING w_NAME_AND_TYPE w_LONG w_METHOD_HANDLE w_MODULE w_CLASS w_METHODREF w_PACKAGE w_FIELDREF w_FLOAT w_INTERFACE_METHODREF w_DYNAMIC w_INVOKE_DYNAMIC w_METHOD_TYPE)   :
    MetFree l x (head1 ((Jvm.Cond.code x code maxLocals ret) :: ws) room_1) (fun a U => a = #[(.int p0), (.int p1)] ∧ Z.Warmed39 U.vm ∧ U.heap = h0) (fun _ _ _ _ _ => True) (fun _ U o U' => ∃ v L, o = .returned v ∧ Qp (some (.int (1 : Int32))) h0 n0 v U'.heap L ∧ FrameEnd U o U' L room_1.cells room_1.slots) := by
  obtain ⟨S_BY_TAG, A_BY_TAG, L_BY_TAG, T_BY_TAG_0, S_INTEGER, E_INTEGER, T_BY_TAG_3, T_BY_TAG_14, S_UTF8, E_UTF8, T_BY_TAG_1, S_DOUBLE, E_DOUBLE, T_BY_TAG_6, T_BY_TAG_13, S_STRING, E_STRING, T_BY_TAG_8, S_NAME_AND_TYPE, E_NAME_AND_TYPE, T_BY_TAG_12, S_LONG, E_LONG, T_BY_TAG_5, S_METHOD_HANDLE, E_METHOD_HANDLE, T_BY_TAG_15, S_MODULE, E_MODULE, T_BY_TAG_19, S_CLASS, E_CLASS, T_BY_TAG_7, S_METHODREF, E_METHODREF, T_BY_TAG_10, T_BY_TAG_2, S_PACKAGE, E_PACKAGE, T_BY_TAG_20, S_FIELDREF, E_FIELDREF, T_BY_TAG_9, S_FLOAT, E_FLOAT, T_BY_TAG_4, S_INTERFACE_METHODREF, E_INTERFACE_METHODREF, T_BY_TAG_11, S_DYNAMIC, E_DYNAMIC, T_BY_TAG_17, S_INVOKE_DYNAMIC, E_INVOKE_DYNAMIC, T_BY_TAG_18, S_METHOD_TYPE, E_METHOD_TYPE, T_BY_TAG_16⟩ := id F
  refine MetFree.of_bodySF (plainFor_of_name pn_0) hisR ?_
  intro p e s m args below meth c s₁ Bd hml0 hP hK
  obtain ⟨rfl, hZ, hh⟩ := hP
  have hx := Bd.exec
  have hby := Bd.bytes
  have hml : c.maxLocals = 5 := hml0
  have hown : s.vm.findClass "com/example/cafelens/cafelens/ConstantKindOfTagPinLaw" = some m.cls := findClass_of_methodNamed Bd.named
  have X0 : Stand p l e room_1 s m #[(.int p0), (.int p1)] below meth c s₁ [] 0 0 := Stand.of_body Bd
  have e0 : s₁.heap = h0 := by rw [← hh, Bd.state]; rfl
  have N0 := Fr.nil n0
  have pre0 : ∀ t, Steps p.tables e below (s₁.setTop (mkF m 0 #[.val (.int p0), .val (.int p1), .unset, .unset, .unset] [])) t → Steps p.tables e below (s₁.setTop (entryFrame m #[(.int p0), (.int p1)] maxLocals)) t := fun t k => castTop (ef_0 m p0 p1) k
  obtain ⟨r1, hr1⟩ : ∃ z, z = v1 p0 w_BY_TAG w_INTEGER w_UTF8 w_DOUBLE w_STRING w_NAME_AND_TYPE w_LONG w_METHOD_HANDLE w_MODULE w_CLASS w_METHODREF w_PACKAGE w_FIELDREF w_FLOAT w_INTERFACE_METHODREF w_DYNAMIC w_INVOKE_DYNAMIC w_METHOD_TYPE := ⟨_, rfl⟩
  obtain ⟨_, _, ⟨T1, L1, k1, n1⟩, -, X1, ⟨Lc1, hQ1, l1, y1, z1⟩, st1⟩ := Jvm.LawKit.callS X0 hx (y := (⟨"com/example/cafelens/cafelens/ConstantKind", "ofTag", "(I)Lcom/example/cafelens/cafelens/ConstantKind;"⟩ : MethodName)) hown (mvT hZ (hw _ (List.mem_of_getElem? (i := 0) rfl))) (mvT hZ (hw _ (List.mem_of_getElem? (i := 1) rfl))) (mvT hZ (hw _ (List.mem_of_getElem? (i := 2) rfl))) (mvT hZ (hw _ (List.mem_of_getElem? (i := 3) rfl))) (by decide) (backOf (W := 0) (rm1 l Z ar0 hw [] p0 w_BY_TAG c_BY_TAG w_INTEGER w_UTF8 w_DOUBLE w_STRING w_NAME_AND_TYPE w_LONG w_METHOD_HANDLE w_MODULE w_CLASS w_METHODREF w_PACKAGE w_FIELDREF w_FLOAT w_INTERFACE_METHODREF w_DYNAMIC w_INVOKE_DYNAMIC w_METHOD_TYPE h0 n0 Z0 F  r1 hr1) hZ (hw _ (List.mem_of_getElem? (i := 3) rfl)) (hw _ (List.mem_of_getElem? (i := 2) rfl)) (by decide) (by decide)) (g := (mkF m 6 #[.val (.int p0), .val (.int p1), .val (.int (p1 % (25 : Int32))), .unset, .unset] [(.int p0)])) rfl (by rw [hml]; rfl) (argsL := [(.int p0)]) (rest := []) (lenOf pd_0_6 rfl) rfl (by show 2 * 0 + _ ≤ _; exact Nat.le_of_eq rfl) (hb hby at_6) (fun _ _ => ⟨rfl, e0, (by decide : 0 + 0 ≤ _), (by decide : 0 + 0 ≤ _)⟩)
  dsimp only [Pt.U, Pt.locs, Pt.cells, Pt.slots] at X1 l1 y1 z1 st1 hQ1
  subst l1 y1 z1
  obtain ⟨rfl, N1q, e1⟩ := hQ1
  have N1 := Fr.app N0 N1q
  have ir1 : r1.isRef = true := by rw [hr1]; exact v1_ref _ _ _ _ _ _ _ _ _ _ _ _ _ _ _ _ _ _ _
  obtain ⟨r2, hr2⟩ : ∃ z, z = v1 (p1 % (25 : Int32)) w_BY_TAG w_INTEGER w_UTF8 w_DOUBLE w_STRING w_NAME_AND_TYPE w_LONG w_METHOD_HANDLE w_MODULE w_CLASS w_METHODREF w_PACKAGE w_FIELDREF w_FLOAT w_INTERFACE_METHODREF w_DYNAMIC w_INVOKE_DYNAMIC w_METHOD_TYPE := ⟨_, rfl⟩
  obtain ⟨_, _, ⟨T2, L2, k2, n2⟩, -, X2, ⟨Lc2, hQ2, l2, y2, z2⟩, st2⟩ := Jvm.LawKit.callS X1 hx (y := (⟨"com/example/cafelens/cafelens/ConstantKind", "ofTag", "(I)Lcom/example/cafelens/cafelens/ConstantKind;"⟩ : MethodName)) hown (mvT hZ (hw _ (List.mem_of_getElem? (i := 0) rfl))) (mvT hZ (hw _ (List.mem_of_getElem? (i := 1) rfl))) (mvT hZ (hw _ (List.mem_of_getElem? (i := 2) rfl))) (mvT hZ (hw _ (List.mem_of_getElem? (i := 3) rfl))) (by decide) (backOf (W := 0) (rm1 l Z ar0 hw [] (p1 % (25 : Int32)) w_BY_TAG c_BY_TAG w_INTEGER w_UTF8 w_DOUBLE w_STRING w_NAME_AND_TYPE w_LONG w_METHOD_HANDLE w_MODULE w_CLASS w_METHODREF w_PACKAGE w_FIELDREF w_FLOAT w_INTERFACE_METHODREF w_DYNAMIC w_INVOKE_DYNAMIC w_METHOD_TYPE h0 n0 Z0 F  r2 hr2) hZ (hw _ (List.mem_of_getElem? (i := 3) rfl)) (hw _ (List.mem_of_getElem? (i := 2) rfl)) (by decide) (by decide)) (g := (mkF m 11 #[.val (.int p0), .val (.int p1), .val (.int (p1 % (25 : Int32))), .val r1, .unset] [(.int (p1 % (25 : Int32)))])) rfl (by rw [hml]; rfl) (argsL := [(.int (p1 % (25 : Int32)))]) (rest := []) (lenOf pd_0_11 rfl) rfl (by show 2 * 0 + _ ≤ _; exact Nat.le_of_eq rfl) (hb hby at_11) (fun _ _ => ⟨rfl, e1, (by decide : 0 + 0 ≤ _), (by decide : 0 + 0 ≤ _)⟩)
  dsimp only [Pt.U, Pt.locs, Pt.cells, Pt.slots] at X2 l2 y2 z2 st2 hQ2
  subst l2 y2 z2
  obtain ⟨rfl, N2q, e2⟩ := hQ2
  have N2 := Fr.app N1 N2q
  have ir2 : r2.isRef = true := by rw [hr2]; exact v1_ref _ _ _ _ _ _ _ _ _ _ _ _ _ _ _ _ _ _ _
  obtain ⟨r3, hr3⟩ : ∃ z, z = v2 p0 w_BY_TAG w_INTEGER w_UTF8 w_DOUBLE w_STRING w_NAME_AND_TYPE w_LONG w_METHOD_HANDLE w_MODULE w_CLASS w_METHODREF w_PACKAGE w_FIELDREF w_FLOAT w_INTERFACE_METHODREF w_DYNAMIC w_INVOKE_DYNAMIC w_METHOD_TYPE := ⟨_, rfl⟩
  obtain ⟨_, _, ⟨T3, L3, k3, n3⟩, -, X3, ⟨Lc3, hQ3, l3, y3, z3⟩, st3⟩ := Jvm.LawKit.callS X2 hx (y := (⟨"com/example/cafelens/cafelens/ConstantKindOfTagPinLaw", "expected", "(I)Lcom/example/cafelens/cafelens/ConstantKind;"⟩ : MethodName)) hown (mvT hZ (hw _ (List.mem_of_getElem? (i := 7) rfl))) (mvT hZ (hw _ (List.mem_of_getElem? (i := 8) rfl))) (mvT hZ (hw _ (List.mem_of_getElem? (i := 9) rfl))) (mvT hZ (hw _ (List.mem_of_getElem? (i := 10) rfl))) (by decide) (backOf (W := 1) (rm2 l Z ar0 hw [] p0 w_BY_TAG c_BY_TAG w_INTEGER w_UTF8 w_DOUBLE w_STRING w_NAME_AND_TYPE w_LONG w_METHOD_HANDLE w_MODULE w_CLASS w_METHODREF w_PACKAGE w_FIELDREF w_FLOAT w_INTERFACE_METHODREF w_DYNAMIC w_INVOKE_DYNAMIC w_METHOD_TYPE h0 n0 Z0 F  r3 hr3) hZ (hw _ (List.mem_of_getElem? (i := 10) rfl)) (hw _ (List.mem_of_getElem? (i := 9) rfl)) (by decide) (by decide)) (g := (mkF m 18 #[.val (.int p0), .val (.int p1), .val (.int (p1 % (25 : Int32))), .val r1, .val r2] [(.int p0), r1])) rfl (by rw [hml]; rfl) (argsL := [(.int p0)]) (rest := [r1]) (lenOf pd_0_18 rfl) rfl (by show 2 * 0 + (List.map (fun v => v.category) [r1]).sum ≤ _; simp only [List.map_cons, List.map_nil, own_cat ir1]; exact Nat.le_of_eq rfl) (hb hby at_18) (fun _ _ => ⟨rfl, e2, (by decide : 0 + 0 ≤ _), (by decide : 0 + 0 ≤ _)⟩)
  dsimp only [Pt.U, Pt.locs, Pt.cells, Pt.slots] at X3 l3 y3 z3 st3 hQ3
  subst l3 y3 z3
  obtain ⟨rfl, N3q, e3⟩ := hQ3
  have N3 := Fr.app N2 N3q
  have ir3 : r3.isRef = true := by rw [hr3]; exact v2_ref _ _ _ _ _ _ _ _ _ _ _ _ _ _ _ _ _ _ _
  have hk4 : r1 = r3 := by rw [hr1, hr3]; exact own_key _ w_BY_TAG w_INTEGER w_UTF8 w_DOUBLE w_STRING w_NAME_AND_TYPE w_LONG w_METHOD_HANDLE w_MODULE w_CLASS w_METHODREF w_PACKAGE w_FIELDREF w_FLOAT w_INTERFACE_METHODREF w_DYNAMIC w_INVOKE_DYNAMIC w_METHOD_TYPE
  obtain ⟨r5, hr5⟩ : ∃ z, z = v2 (p1 % (25 : Int32)) w_BY_TAG w_INTEGER w_UTF8 w_DOUBLE w_STRING w_NAME_AND_TYPE w_LONG w_METHOD_HANDLE w_MODULE w_CLASS w_METHODREF w_PACKAGE w_FIELDREF w_FLOAT w_INTERFACE_METHODREF w_DYNAMIC w_INVOKE_DYNAMIC w_METHOD_TYPE := ⟨_, rfl⟩
  obtain ⟨_, _, ⟨T5, L5, k5, n5⟩, -, X5, ⟨Lc5, hQ5, l5, y5, z5⟩, st5⟩ := Jvm.LawKit.callS X3 hx (y := (⟨"com/example/cafelens/cafelens/ConstantKindOfTagPinLaw", "expected", "(I)Lcom/example/cafelens/cafelens/ConstantKind;"⟩ : MethodName)) hown (mvT hZ (hw _ (List.mem_of_getElem? (i := 7) rfl))) (mvT hZ (hw _ (List.mem_of_getElem? (i := 8) rfl))) (mvT hZ (hw _ (List.mem_of_getElem? (i := 9) rfl))) (mvT hZ (hw _ (List.mem_of_getElem? (i := 10) rfl))) (by decide) (backOf (W := 1) (rm2 l Z ar0 hw [] (p1 % (25 : Int32)) w_BY_TAG c_BY_TAG w_INTEGER w_UTF8 w_DOUBLE w_STRING w_NAME_AND_TYPE w_LONG w_METHOD_HANDLE w_MODULE w_CLASS w_METHODREF w_PACKAGE w_FIELDREF w_FLOAT w_INTERFACE_METHODREF w_DYNAMIC w_INVOKE_DYNAMIC w_METHOD_TYPE h0 n0 Z0 F  r5 hr5) hZ (hw _ (List.mem_of_getElem? (i := 10) rfl)) (hw _ (List.mem_of_getElem? (i := 9) rfl)) (by decide) (by decide)) (g := (mkF m 27 #[.val (.int p0), .val (.int p1), .val (.int (p1 % (25 : Int32))), .val r1, .val r2] [(.int (p1 % (25 : Int32))), r2])) rfl (by rw [hml]; rfl) (argsL := [(.int (p1 % (25 : Int32)))]) (rest := [r2]) (lenOf pd_0_27 rfl) rfl (by show 2 * 0 + (List.map (fun v => v.category) [r2]).sum ≤ _; simp only [List.map_cons, List.map_nil, own_cat ir2]; exact Nat.le_of_eq rfl) (hb hby at_27) (fun _ _ => ⟨rfl, e3, (by decide : 0 + 0 ≤ _), (by decide : 0 + 0 ≤ _)⟩)
  dsimp only [Pt.U, Pt.locs, Pt.cells, Pt.slots] at X5 l5 y5 z5 st5 hQ5
  subst l5 y5 z5
  obtain ⟨rfl, N5q, e5⟩ := hQ5
  have N5 := Fr.app N3 N5q
  have ir5 : r5.isRef = true := by rw [hr5]; exact v2_ref _ _ _ _ _ _ _ _ _ _ _ _ _ _ _ _ _ _ _
  have hk6 : r2 = r5 := by rw [hr2, hr5]; exact own_key _ w_BY_TAG w_INTEGER w_UTF8 w_DOUBLE w_STRING w_NAME_AND_TYPE w_LONG w_METHOD_HANDLE w_MODULE w_CLASS w_METHODREF w_PACKAGE w_FIELDREF w_FLOAT w_INTERFACE_METHODREF w_DYNAMIC w_INVOKE_DYNAMIC w_METHOD_TYPE
  obtain ⟨fs, hr, hrun, hended, hW, hsame⟩ := X5.leave (v := some (.int (1 : Int32))) (fun h => by rw [Bd.returns] at h; cases h)
  refine ⟨_, _, pre0 _ ?_, hrun, hended, _, _, rfl, ?_, ⟨_, rfl⟩, hW, hsame.mono (by decide) (by decide)⟩
  · show Steps p.tables e below (s₁.setTop (mkF m 0 #[.val (.int p0), .val (.int p1), .unset, .unset, .unset] [])) _
    refine XS.iloadN X0.here hx rfl (hb hby at_0) rfl ?_
    show Steps p.tables e below (s₁.setTop (mkF m 1 #[.val (.int p0), .val (.int p1), .unset, .unset, .unset] [(.int p1)])) _
    refine XS.bipush X0.here hx rfl (hb hby at_1) ?_
    show Steps p.tables e below (s₁.setTop (mkF m 3 #[.val (.int p0), .val (.int p1), .unset, .unset, .unset] [(.int (25 : Int32)), (.int p1)])) _
    refine iremM X0 hx rfl (hb hby at_3) rfl (by decide) ?_
    show Steps p.tables e below (s₁.setTop (mkF m 4 #[.val (.int p0), .val (.int p1), .unset, .unset, .unset] [(.int (p1 % (25 : Int32)))])) _
    refine XS.istoreN X0.here hx rfl (hb hby at_4) rfl (l' := #[.val (.int p0), .val (.int p1), .val (.int (p1 % (25 : Int32))), .unset, .unset]) rfl ?_
    show Steps p.tables e below (s₁.setTop (mkF m 5 #[.val (.int p0), .val (.int p1), .val (.int (p1 % (25 : Int32))), .unset, .unset] [])) _
    refine XS.iloadN X0.here hx rfl (hb hby at_5) rfl ?_
    show Steps p.tables e below (s₁.setTop (mkF m 6 #[.val (.int p0), .val (.int p1), .val (.int (p1 % (25 : Int32))), .unset, .unset] [(.int p0)])) _
    refine st1 _ ?_
    show Steps p.tables e below (T1.setTop (mkF m 9 #[.val (.int p0), .val (.int p1), .val (.int (p1 % (25 : Int32))), .unset, .unset] [r1])) _
    refine XS.astoreN X1.here hx rfl (hb hby at_9) rfl ir1 (l' := #[.val (.int p0), .val (.int p1), .val (.int (p1 % (25 : Int32))), .val r1, .unset]) (by rcases ref_cases ir1 with q | ⟨_, q⟩ <;> rw [q] <;> rfl) ?_
    show Steps p.tables e below (T1.setTop (mkF m 10 #[.val (.int p0), .val (.int p1), .val (.int (p1 % (25 : Int32))), .val r1, .unset] [])) _
    refine XS.iloadN X1.here hx rfl (hb hby at_10) rfl ?_
    show Steps p.tables e below (T1.setTop (mkF m 11 #[.val (.int p0), .val (.int p1), .val (.int (p1 % (25 : Int32))), .val r1, .unset] [(.int (p1 % (25 : Int32)))])) _
    refine st2 _ ?_
    show Steps p.tables e below (T2.setTop (mkF m 14 #[.val (.int p0), .val (.int p1), .val (.int (p1 % (25 : Int32))), .val r1, .unset] [r2])) _
    refine XS.astore X2.here hx rfl (hb hby at_14) rfl ir2 (l' := #[.val (.int p0), .val (.int p1), .val (.int (p1 % (25 : Int32))), .val r1, .val r2]) (by rcases ref_cases ir2 with q | ⟨_, q⟩ <;> rw [q] <;> rfl) ?_
    show Steps p.tables e below (T2.setTop (mkF m 16 #[.val (.int p0), .val (.int p1), .val (.int (p1 % (25 : Int32))), .val r1, .val r2] [])) _
    refine XS.aloadN X2.here hx rfl (hb hby at_16) rfl ir1 ?_
    show Steps p.tables e below (T2.setTop (mkF m 17 #[.val (.int p0), .val (.int p1), .val (.int (p1 % (25 : Int32))), .val r1, .val r2] [r1])) _
    refine XS.iloadN X2.here hx rfl (hb hby at_17) rfl ?_
    show Steps p.tables e below (T2.setTop (mkF m 18 #[.val (.int p0), .val (.int p1), .val (.int (p1 % (25 : Int32))), .val r1, .val r2] [(.int p0), r1])) _
    refine st3 _ ?_
    show Steps p.tables e below (T3.setTop (mkF m 21 #[.val (.int p0), .val (.int p1), .val (.int (p1 % (25 : Int32))), .val r1, .val r2] [r3, r1])) _
    refine Jvm.RoadKit.acmp (g := (mkF m 21 #[.val (.int p0), .val (.int p1), .val (.int (p1 % (25 : Int32))), .val r1, .val r2] [r3, r1])) X3 hx rfl ir1 ir3 (pc0 := 21) (pc' := 24) (same := true) rfl (hb hby at_21) rfl (decide_eq_true hk4) (by decide) (by decide) ?_
    show Steps p.tables e below (T3.setTop (mkF m 24 #[.val (.int p0), .val (.int p1), .val (.int (p1 % (25 : Int32))), .val r1, .val r2] [])) _
    refine XS.aload X3.here hx rfl (hb hby at_24) rfl ir2 ?_
    show Steps p.tables e below (T3.setTop (mkF m 26 #[.val (.int p0), .val (.int p1), .val (.int (p1 % (25 : Int32))), .val r1, .val r2] [r2])) _
    refine XS.iloadN X3.here hx rfl (hb hby at_26) rfl ?_
    show Steps p.tables e below (T3.setTop (mkF m 27 #[.val (.int p0), .val (.int p1), .val (.int (p1 % (25 : Int32))), .val r1, .val r2] [(.int (p1 % (25 : Int32))), r2])) _
    refine st5 _ ?_
    show Steps p.tables e below (T5.setTop (mkF m 30 #[.val (.int p0), .val (.int p1), .val (.int (p1 % (25 : Int32))), .val r1, .val r2] [r5, r2])) _
    refine Jvm.RoadKit.acmp (g := (mkF m 30 #[.val (.int p0), .val (.int p1), .val (.int (p1 % (25 : Int32))), .val r1, .val r2] [r5, r2])) X5 hx rfl ir2 ir5 (pc0 := 30) (pc' := 33) (same := true) rfl (hb hby at_30) rfl (decide_eq_true hk6) (by decide) (by decide) ?_
    show Steps p.tables e below (T5.setTop (mkF m 33 #[.val (.int p0), .val (.int p1), .val (.int (p1 % (25 : Int32))), .val r1, .val r2] [])) _
    refine XS.iconst X5.here hx rfl (hb hby at_33) ?_
    show Steps p.tables e below (T5.setTop (mkF m 34 #[.val (.int p0), .val (.int p1), .val (.int (p1 % (25 : Int32))), .val r1, .val r2] [(.int (1 : Int32))])) _
    refine XS.goto X5.here hx rfl (pc0 := 34) (pc' := 38) rfl (hb hby at_34) (by decide) (by decide) ?_
    show Steps p.tables e below (T5.setTop (mkF m 38 #[.val (.int p0), .val (.int p1), .val (.int (p1 % (25 : Int32))), .val r1, .val r2] [(.int (1 : Int32))])) _
    exact retN X5 hx (t := .boolean) Bd.returns (by simp) (hb hby at_38) hr
  · show Qp (some (.int (1 : Int32))) h0 n0 _ T5.heap _
    rw [e5]
    exact ⟨rfl, N5, rfl⟩

set_option maxRecDepth 65536 in
set_option maxHeartbeats 40000000 in
theorem comes_1 {Post : Tables → Env → Array Value → State → Outcome → State → Prop} (hpost : ∀ tb e args s v u, (limb_1_1.after args s (.returned v) u = true ∧ limb_1_2.after args s (.returned v) u = true ∧ True) → FrameEnd s (.returned v) u (Jvm.fieldLocs frame_1_writes args s ++ Jvm.arrayLocs frame_1_arrays args s ++ Jvm.staticLocs frame_1_statics s) 0 0 → Post tb e args s (.returned v) u) :
    ArmFor flags0 classFile x code maxLocals ret World_1 tables_1 room_1 Calls_1 rest_1 Pre_1 Post := by
  intro l hfl _ _ p e ha hc hk s m args below hf hA hF happ hP
  obtain ⟨hcalls, hrest, hpre⟩ := hP
  obtain ⟨-, -, -, hnamed, -, -, -, hat⟩ := (Spec.applies_iff hf).mp happ
  obtain ⟨hg, hn⟩ := and_e (Cond.before_iff.mp (show (Jvm.Cond.and given_1 narrow_1).before args s = true from hpre))
  obtain ⟨g0, hg⟩ := and_e hg
  obtain ⟨w0, w1, rfl⟩ : ∃ w0 w1 : Value, args = #[w0, w1] := by
    have hs : args.size = 2 := by simpa [Cond.value, given_1] using g0
    obtain ⟨L⟩ := args
    match L, hs with
    | [w0, w1], _ => exact ⟨w0, w1, rfl⟩
  have hw := fun d (hd : d ∈ tables_1) => atoms_spec (ws := Jvm.Cond.code x code maxLocals ret :: tables_1) hat d (List.mem_cons_of_mem _ hd)
  obtain ⟨g1, hg⟩ := and_e hg
  obtain ⟨i0, ei0⟩ := is_v g1
  obtain rfl : w0 = (.int i0) := Option.some.inj ei0
  obtain ⟨i1, ei1⟩ := is_v hg
  obtain rfl : w1 = (.int i1) := Option.some.inj ei1
  obtain ⟨c0, hn⟩ := and_e hn
  obtain ⟨c1, hn⟩ := and_e hn
  obtain ⟨c2, hn⟩ := and_e hn
  obtain ⟨c3, hn⟩ := and_e hn
  obtain ⟨c4, hn⟩ := and_e hn
  obtain ⟨c5, hn⟩ := and_e hn
  obtain ⟨c6, hn⟩ := and_e hn
  obtain ⟨c7, hn⟩ := and_e hn
  obtain ⟨c8, hn⟩ := and_e hn
  obtain ⟨c9, hn⟩ := and_e hn
  obtain ⟨c10, hn⟩ := and_e hn
  obtain ⟨c11, hn⟩ := and_e hn
  obtain ⟨c12, hn⟩ := and_e hn
  obtain ⟨c13, hn⟩ := and_e hn
  obtain ⟨c14, hn⟩ := and_e hn
  obtain ⟨c15, hn⟩ := and_e hn
  obtain ⟨c16, hn⟩ := and_e hn
  obtain ⟨c17, hn⟩ := and_e hn
  obtain ⟨c18, hn⟩ := and_e hn
  obtain ⟨c19, hn⟩ := and_e hn
  obtain ⟨c20, hn⟩ := and_e hn
  obtain ⟨c21, hn⟩ := and_e hn
  obtain ⟨c22, hn⟩ := and_e hn
  obtain ⟨c23, hn⟩ := and_e hn
  obtain ⟨c24, hn⟩ := and_e hn
  obtain ⟨c25, hn⟩ := and_e hn
  obtain ⟨c26, hn⟩ := and_e hn
  obtain ⟨c27, hn⟩ := and_e hn
  obtain ⟨c28, hn⟩ := and_e hn
  obtain ⟨c29, hn⟩ := and_e hn
  obtain ⟨c30, hn⟩ := and_e hn
  obtain ⟨c31, hn⟩ := and_e hn
  obtain ⟨c32, hn⟩ := and_e hn
  obtain ⟨c33, hn⟩ := and_e hn
  obtain ⟨c34, hn⟩ := and_e hn
  obtain ⟨c35, hn⟩ := and_e hn
  obtain ⟨c36, hn⟩ := and_e hn
  obtain ⟨c37, hn⟩ := and_e hn
  obtain ⟨c38, hn⟩ := and_e hn
  have c39 := hn
  obtain ⟨w_BY_TAG, ev_BY_TAG⟩ := arr_v c0
  have S_BY_TAG := Sta.start ev_BY_TAG (Or.inr ⟨(hw _ (List.mem_of_getElem? (i := 2) rfl)), (hw _ (List.mem_of_getElem? (i := 5) rfl))⟩)
  obtain ⟨c_BY_TAG, A_BY_TAG⟩ := Arr.start ev_BY_TAG c0
  obtain ⟨w_INTEGER, ev_INTEGER⟩ := exa_v c3
  have S_INTEGER := Sta.start ev_INTEGER (Or.inr ⟨(hw _ (List.mem_of_getElem? (i := 2) rfl)), (hw _ (List.mem_of_getElem? (i := 6) rfl))⟩)
  have E_INTEGER := Exa.start ev_INTEGER c3
  obtain ⟨w_UTF8, ev_UTF8⟩ := exa_v c6
  have S_UTF8 := Sta.start ev_UTF8 (Or.inr ⟨(hw _ (List.mem_of_getElem? (i := 2) rfl)), (hw _ (List.mem_of_getElem? (i := 12) rfl))⟩)
  have E_UTF8 := Exa.start ev_UTF8 c6
  obtain ⟨w_DOUBLE, ev_DOUBLE⟩ := exa_v c8
  have S_DOUBLE := Sta.start ev_DOUBLE (Or.inr ⟨(hw _ (List.mem_of_getElem? (i := 2) rfl)), (hw _ (List.mem_of_getElem? (i := 14) rfl))⟩)
  have E_DOUBLE := Exa.start ev_DOUBLE c8
  obtain ⟨w_STRING, ev_STRING⟩ := exa_v c11
  have S_STRING := Sta.start ev_STRING (Or.inr ⟨(hw _ (List.mem_of_getElem? (i := 2) rfl)), (hw _ (List.mem_of_getElem? (i := 16) rfl))⟩)
  have E_STRING := Exa.start ev_STRING c11
  obtain ⟨w_NAME_AND_TYPE, ev_NAME_AND_TYPE⟩ := exa_v c13
  have S_NAME_AND_TYPE := Sta.start ev_NAME_AND_TYPE (Or.inr ⟨(hw _ (List.mem_of_getElem? (i := 2) rfl)), (hw _ (List.mem_of_getElem? (i := 18) rfl))⟩)
  have E_NAME_AND_TYPE := Exa.start ev_NAME_AND_TYPE c13
  obtain ⟨w_LONG, ev_LONG⟩ := exa_v c15
  have S_LONG := Sta.start ev_LONG (Or.inr ⟨(hw _ (List.mem_of_getElem? (i := 2) rfl)), (hw _ (List.mem_of_getElem? (i := 19) rfl))⟩)
  have E_LONG := Exa.start ev_LONG c15
  obtain ⟨w_METHOD_HANDLE, ev_METHOD_HANDLE⟩ := exa_v c17
  have S_METHOD_HANDLE := Sta.start ev_METHOD_HANDLE (Or.inr ⟨(hw _ (List.mem_of_getElem? (i := 2) rfl)), (hw _ (List.mem_of_getElem? (i := 22) rfl))⟩)
  have E_METHOD_HANDLE := Exa.start ev_METHOD_HANDLE c17
  obtain ⟨w_MODULE, ev_MODULE⟩ := exa_v c19
  have S_MODULE := Sta.start ev_MODULE (Or.inr ⟨(hw _ (List.mem_of_getElem? (i := 2) rfl)), (hw _ (List.mem_of_getElem? (i := 24) rfl))⟩)
  have E_MODULE := Exa.start ev_MODULE c19
  obtain ⟨w_CLASS, ev_CLASS⟩ := exa_v c21
  have S_CLASS := Sta.start ev_CLASS (Or.inr ⟨(hw _ (List.mem_of_getElem? (i := 2) rfl)), (hw _ (List.mem_of_getElem? (i := 26) rfl))⟩)
  have E_CLASS := Exa.start ev_CLASS c21
  obtain ⟨w_METHODREF, ev_METHODREF⟩ := exa_v c23
  have S_METHODREF := Sta.start ev_METHODREF (Or.inr ⟨(hw _ (List.mem_of_getElem? (i := 2) rfl)), (hw _ (List.mem_of_getElem? (i := 28) rfl))⟩)
  have E_METHODREF := Exa.start ev_METHODREF c23
  obtain ⟨w_PACKAGE, ev_PACKAGE⟩ := exa_v c26
  have S_PACKAGE := Sta.start ev_PACKAGE (Or.inr ⟨(hw _ (List.mem_of_getElem? (i := 2) rfl)), (hw _ (List.mem_of_getElem? (i := 30) rfl))⟩)
  have E_PACKAGE := Exa.start ev_PACKAGE c26
  obtain ⟨w_FIELDREF, ev_FIELDREF⟩ := exa_v c28
  have S_FIELDREF := Sta.start ev_FIELDREF (Or.inr ⟨(hw _ (List.mem_of_getElem? (i := 2) rfl)), (hw _ (List.mem_of_getElem? (i := 32) rfl))⟩)
  have E_FIELDREF := Exa.start ev_FIELDREF c28
  obtain ⟨w_FLOAT, ev_FLOAT⟩ := exa_v c30
  have S_FLOAT := Sta.start ev_FLOAT (Or.inr ⟨(hw _ (List.mem_of_getElem? (i := 2) rfl)), (hw _ (List.mem_of_getElem? (i := 34) rfl))⟩)
  have E_FLOAT := Exa.start ev_FLOAT c30
  obtain ⟨w_INTERFACE_METHODREF, ev_INTERFACE_METHODREF⟩ := exa_v c32
  have S_INTERFACE_METHODREF := Sta.start ev_INTERFACE_METHODREF (Or.inr ⟨(hw _ (List.mem_of_getElem? (i := 2) rfl)), (hw _ (List.mem_of_getElem? (i := 36) rfl))⟩)
  have E_INTERFACE_METHODREF := Exa.start ev_INTERFACE_METHODREF c32
  obtain ⟨w_DYNAMIC, ev_DYNAMIC⟩ := exa_v c34
  have S_DYNAMIC := Sta.start ev_DYNAMIC (Or.inr ⟨(hw _ (List.mem_of_getElem? (i := 2) rfl)), (hw _ (List.mem_of_getElem? (i := 38) rfl))⟩)
  have E_DYNAMIC := Exa.start ev_DYNAMIC c34
  obtain ⟨w_INVOKE_DYNAMIC, ev_INVOKE_DYNAMIC⟩ := exa_v c36
  have S_INVOKE_DYNAMIC := Sta.start ev_INVOKE_DYNAMIC (Or.inr ⟨(hw _ (List.mem_of_getElem? (i := 2) rfl)), (hw _ (List.mem_of_getElem? (i := 40) rfl))⟩)
  have E_INVOKE_DYNAMIC := Exa.start ev_INVOKE_DYNAMIC c36
  obtain ⟨w_METHOD_TYPE, ev_METHOD_TYPE⟩ := exa_v c38
  have S_METHOD_TYPE := Sta.start ev_METHOD_TYPE (Or.inr ⟨(hw _ (List.mem_of_getElem? (i := 2) rfl)), (hw _ (List.mem_of_getElem? (i := 42) rfl))⟩)
  have E_METHOD_TYPE := Exa.start ev_METHOD_TYPE c38
  have L_BY_TAG := own_len ev_BY_TAG A_BY_TAG (k := 21) (by decide) c1
  have T_BY_TAG_0 := own_elem ev_BY_TAG A_BY_TAG (k := 0) (by decide) c2 (w := .null) rfl rfl
  have T_BY_TAG_3 := own_elem ev_BY_TAG A_BY_TAG (k := 3) (by decide) c4 ev_INTEGER rfl
  have T_BY_TAG_14 := own_elem ev_BY_TAG A_BY_TAG (k := 14) (by decide) c5 (w := .null) rfl rfl
  have T_BY_TAG_1 := own_elem ev_BY_TAG A_BY_TAG (k := 1) (by decide) c7 ev_UTF8 rfl
  have T_BY_TAG_6 := own_elem ev_BY_TAG A_BY_TAG (k := 6) (by decide) c9 ev_DOUBLE rfl
  have T_BY_TAG_13 := own_elem ev_BY_TAG A_BY_TAG (k := 13) (by decide) c10 (w := .null) rfl rfl
  have T_BY_TAG_8 := own_elem ev_BY_TAG A_BY_TAG (k := 8) (by decide) c12 ev_STRING rfl
  have T_BY_TAG_12 := own_elem ev_BY_TAG A_BY_TAG (k := 12) (by decide) c14 ev_NAME_AND_TYPE rfl
  have T_BY_TAG_5 := own_elem ev_BY_TAG A_BY_TAG (k := 5) (by decide) c16 ev_LONG rfl
  have T_BY_TAG_15 := own_elem ev_BY_TAG A_BY_TAG (k := 15) (by decide) c18 ev_METHOD_HANDLE rfl
  have T_BY_TAG_19 := own_elem ev_BY_TAG A_BY_TAG (k := 19) (by decide) c20 ev_MODULE rfl
  have T_BY_TAG_7 := own_elem ev_BY_TAG A_BY_TAG (k := 7) (by decide) c22 ev_CLASS rfl
  have T_BY_TAG_10 := own_elem ev_BY_TAG A_BY_TAG (k := 10) (by decide) c24 ev_METHODREF rfl
  have T_BY_TAG_2 := own_elem ev_BY_TAG A_BY_TAG (k := 2) (by decide) c25 (w := .null) rfl rfl
  have T_BY_TAG_20 := own_elem ev_BY_TAG A_BY_TAG (k := 20) (by decide) c27 ev_PACKAGE rfl
  have T_BY_TAG_9 := own_elem ev_BY_TAG A_BY_TAG (k := 9) (by decide) c29 ev_FIELDREF rfl
  have T_BY_TAG_4 := own_elem ev_BY_TAG A_BY_TAG (k := 4) (by decide) c31 ev_FLOAT rfl
  have T_BY_TAG_11 := own_elem ev_BY_TAG A_BY_TAG (k := 11) (by decide) c33 ev_INTERFACE_METHODREF rfl
  have T_BY_TAG_17 := own_elem ev_BY_TAG A_BY_TAG (k := 17) (by decide) c35 ev_DYNAMIC rfl
  have T_BY_TAG_18 := own_elem ev_BY_TAG A_BY_TAG (k := 18) (by decide) c37 ev_INVOKE_DYNAMIC rfl
  have T_BY_TAG_16 := own_elem ev_BY_TAG A_BY_TAG (k := 16) (by decide) c39 ev_METHOD_TYPE rfl
  have F : Fx s s.heap w_BY_TAG c_BY_TAG w_INTEGER w_UTF8 w_DOUBLE w_STRING w_NAME_AND_TYPE w_LONG w_METHOD_HANDLE w_MODULE w_CLASS w_METHODREF w_PACKAGE w_FIELDREF w_FLOAT w_INTERFACE_METHODREF w_DYNAMIC w_INVOKE_DYNAMIC w_METHOD_TYPE := ⟨S_BY_TAG, A_BY_TAG, L_BY_TAG, T_BY_TAG_0, S_INTEGER, E_INTEGER, T_BY_TAG_3, T_BY_TAG_14, S_UTF8, E_UTF8, T_BY_TAG_1, S_DOUBLE, E_DOUBLE, T_BY_TAG_6, T_BY_TAG_13, S_STRING, E_STRING, T_BY_TAG_8, S_NAME_AND_TYPE, E_NAME_AND_TYPE, T_BY_TAG_12, S_LONG, E_LONG, T_BY_TAG_5, S_METHOD_HANDLE, E_METHOD_HANDLE, T_BY_TAG_15, S_MODULE, E_MODULE, T_BY_TAG_19, S_CLASS, E_CLASS, T_BY_TAG_7, S_METHODREF, E_METHODREF, T_BY_TAG_10, T_BY_TAG_2, S_PACKAGE, E_PACKAGE, T_BY_TAG_20, S_FIELDREF, E_FIELDREF, T_BY_TAG_9, S_FLOAT, E_FLOAT, T_BY_TAG_4, S_INTERFACE_METHODREF, E_INTERFACE_METHODREF, T_BY_TAG_11, S_DYNAMIC, E_DYNAMIC, T_BY_TAG_17, S_INVOKE_DYNAMIC, E_INVOKE_DYNAMIC, T_BY_TAG_18, S_METHOD_TYPE, E_METHOD_TYPE, T_BY_TAG_16⟩

  obtain ⟨n, o, h1, h2, h3, _, L, rfl, ⟨rfl, N, -⟩, hq⟩ := rm0 l s _ hw tables_1 i0 i1 w_BY_TAG c_BY_TAG w_INTEGER w_UTF8 w_DOUBLE w_STRING w_NAME_AND_TYPE w_LONG w_METHOD_HANDLE w_MODULE w_CLASS w_METHODREF w_PACKAGE w_FIELDREF w_FLOAT w_INTERFACE_METHODREF w_DYNAMIC w_INVOKE_DYNAMIC w_METHOD_TYPE s.heap s.heap.size (Nat.le_refl _) F  p e ha hc hk s m _ below hf ((Spec.applies_iff_loose hf).mp happ).1 ⟨rfl, State.Warmed39.refl s, rfl⟩ trivial
  refine ⟨n, _, h1, h2, h3, hpost _ _ _ _ _ _ ⟨Cond.after_iff.mpr rfl, Cond.after_iff.mpr (eq_i res_at (Term.int_eval (1)) rfl), trivial⟩ ⟨hq.1, hq.2.1, (hq.2.2.sift fun y hy => Or.inr (N y hy)).mono (by decide) (by decide)⟩⟩
theorem main_1_1 : Claimed_1_1 := comes_1 fun _ _ _ _ _ _ h hF => ⟨h.1, hF⟩
theorem main_1_2 : Claimed_1_2 := comes_1 fun _ _ _ _ _ _ h hF => ⟨h.2.1, hF⟩
end Jvm.Pilot.@@N@@
namespace Jvm.Pilot.@@N@@
open Jvm Jvm.ClassFile Sem Op Lib Jvm.Free Jvm.Stand Jvm.Pilot.@@N@@.Jvm.D
/-! MADE BY PROGRAM (witnessworld.py) out of the Statement's table words and the real class files: 13 classes; the members and pool entries that the words name. The judged class is class 1, her method 2. -/
namespace start1
open Jvm.ClassFile
def u (s : String) : CpInfo := .utf8 (stringToUtf16 s)
/-- a pool by its gaps: so many unusable entries, then the entry; so many at the end -/
def gap : Nat → List CpInfo → List CpInfo
  | 0, r => r
  | n + 1, r => .unusable :: gap n r
def poolList (es : List (Nat × CpInfo)) (last : Nat) : List CpInfo := es.foldr (fun e r => gap e.1 (e.2 :: r)) (gap last [])
def pool (es : List (Nat × CpInfo)) (last : Nat) : Array CpInfo := ⟨poolList es last⟩
def fileOf (pool : Array CpInfo) (this : Nat) (attrs : Array Attribute := #[]) (ms : Array MethodInfo := #[]) (fl : Nat := 33) (sup : Nat := 0) (ifs : Array Nat := #[]) (fds : Array FieldInfo := #[]) : ClassFile where
  minorVersion := 0
  majorVersion := 65
  constantPool := pool
  accessFlags := fl
  thisClass := this
  superClass := sup
  interfaces := ifs
  fields := fds
  methods := ms
  attributes := attrs
def plain (name : String) (sup : Option ClassId) : Class where
  name := name
  kind := .ordinary
  loader := none
  accessFlags := 33
  super := sup
  interfaces := #[]
  cf := none
  fields := #[]
  methods := #[]
  instanceTypes := #[]
  staticTypes := #[]
  resolved := #[]
  callSites := []
  init := .initialized
  statics := none
  mirror := none

def pool0 : Array CpInfo := pool [(5, u "<init>"), (0, u "()V"), (1, .class_ 10), (1, u "java/lang/Object")] 113

def k0m0 : Method := { name := "<init>", desc := "()V", sig := { parameters := [], returnType := none }, accessFlags := 1, code := none }
/-- java/lang/Object -/
def k0 : Class := { plain "java/lang/Object" none with
  accessFlags := 33
  interfaces := #[]
  cf := some (fileOf pool0 8 #[] #[{ accessFlags := 1, nameIndex := 5, descriptorIndex := 6, attributes := #[] }] 33 0 #[] #[])
  fields := #[]
  methods := #[k0m0]
  instanceTypes := #[]
  staticTypes := #[]
  resolved := Array.replicate 124 none
  statics := none }

def pool1 : Array CpInfo := pool [(2, .class_ 4), (1, u "java/lang/Object"), (0, u "<init>"), (0, u "()V"), (0, .fieldref 8 9), (0, .class_ 10), (0, .nameAndType 11 12), (0, u "com/example/cafelens/cafelens/ConstantKind"), (0, u "UTF8"), (0, u "Lcom/example/cafelens/cafelens/ConstantKind;"), (0, .fieldref 8 14), (0, .nameAndType 15 12), (0, u "INTEGER"), (0, .fieldref 8 17), (0, .nameAndType 18 12), (0, u "FLOAT"), (0, .fieldref 8 20), (0, .nameAndType 21 12), (0, u "LONG"), (0, .fieldref 8 23), (0, .nameAndType 24 12), (0, u "DOUBLE"), (0, .fieldref 8 26), (0, .nameAndType 27 12), (0, u "CLASS"), (0, .fieldref 8 29), (0, .nameAndType 30 12), (0, u "STRING"), (0, .fieldref 8 32), (0, .nameAndType 33 12), (0, u "FIELDREF"), (0, .fieldref 8 35), (0, .nameAndType 36 12), (0, u "METHODREF"), (0, .fieldref 8 38), (0, .nameAndType 39 12), (0, u "INTERFACE_METHODREF"), (0, .fieldref 8 41), (0, .nameAndType 42 12), (0, u "NAME_AND_TYPE"), (0, .fieldref 8 44), (0, .nameAndType 45 12), (0, u "METHOD_HANDLE"), (0, .fieldref 8 47), (0, .nameAndType 48 12), (0, u "METHOD_TYPE"), (0, .fieldref 8 50), (0, .nameAndType 51 12), (0, u "DYNAMIC"), (0, .fieldref 8 53), (0, .nameAndType 54 12), (0, u "INVOKE_DYNAMIC"), (0, .fieldref 8 56), (0, .nameAndType 57 12), (0, u "MODULE"), (0, .fieldref 8 59), (0, .nameAndType 60 12), (0, u "PACKAGE"), (0, .methodref 8 62), (0, .nameAndType 63 64), (0, u "ofTag"), (0, u "(I)Lcom/example/cafelens/cafelens/ConstantKind;"), (0, .methodref 66 67), (0, .class_ 68), (0, .nameAndType 69 64), (0, u "com/example/cafelens/cafelens/ConstantKindOfTagPinLaw"), (0, u "expected"), (3, u "law"), (0, u "(II)Z")] 2

def k1m0 : Method := { name := "<init>", desc := "()V", sig := { parameters := [], returnType := none }, accessFlags := 1, code := none }
def k1c1 : Code := { maxStack := 2, maxLocals := 1, code := method_2_code, exceptionTable := #[], attributes := #[] }
def k1m1 : Method := { name := "expected", desc := "(I)Lcom/example/cafelens/cafelens/ConstantKind;", sig := { parameters := [.int], returnType := some (.object "com/example/cafelens/cafelens/ConstantKind") }, accessFlags := 10, code := some k1c1 }
def k1c2 : Code := { maxStack := 2, maxLocals := 5, code := code, exceptionTable := #[], attributes := #[] }
def k1m2 : Method := { name := "law", desc := "(II)Z", sig := { parameters := [.int, .int], returnType := some .boolean }, accessFlags := 9, code := some k1c2 }
/-- com/example/cafelens/cafelens/ConstantKindOfTagPinLaw -/
def k1 : Class := { plain "com/example/cafelens/cafelens/ConstantKindOfTagPinLaw" (some 0) with
  accessFlags := 49
  interfaces := #[]
  cf := some (fileOf pool1 66 #[] #[{ accessFlags := 1, nameIndex := 5, descriptorIndex := 6, attributes := #[] }, { accessFlags := 10, nameIndex := 69, descriptorIndex := 64, attributes := #[] }, { accessFlags := 9, nameIndex := 73, descriptorIndex := 74, attributes := #[] }] 49 2 #[] #[])
  fields := #[]
  methods := #[k1m0, k1m1, k1m2]
  instanceTypes := #[]
  staticTypes := #[]
  resolved := Array.replicate 77 none
  statics := none }

def pool2 : Array CpInfo := pool [(1, .class_ 2), (0, u "java/lang/constant/Constable"), (0, .class_ 4), (0, u "java/lang/Object")] 6

/-- java/lang/constant/Constable -/
def k2 : Class := { plain "java/lang/constant/Constable" (some 0) with
  accessFlags := 1537
  interfaces := #[]
  cf := some (fileOf pool2 1 #[] #[] 1537 3 #[] #[])
  fields := #[]
  methods := #[]
  instanceTypes := #[]
  staticTypes := #[]
  resolved := Array.replicate 11 none
  statics := none }

def pool3 : Array CpInfo := pool [(1, .class_ 2), (0, u "java/lang/Comparable"), (0, .class_ 4), (0, u "java/lang/Object")] 7

/-- java/lang/Comparable -/
def k3 : Class := { plain "java/lang/Comparable" (some 0) with
  accessFlags := 1537
  interfaces := #[]
  cf := some (fileOf pool3 1 #[] #[] 1537 3 #[] #[])
  fields := #[]
  methods := #[]
  instanceTypes := #[]
  staticTypes := #[]
  resolved := Array.replicate 12 none
  statics := none }

def pool4 : Array CpInfo := pool [(1, .class_ 2), (0, u "java/io/Serializable"), (0, .class_ 4), (0, u "java/lang/Object")] 2

/-- java/io/Serializable -/
def k4 : Class := { plain "java/io/Serializable" (some 0) with
  accessFlags := 1537
  interfaces := #[]
  cf := some (fileOf pool4 1 #[] #[] 1537 3 #[] #[])
  fields := #[]
  methods := #[]
  instanceTypes := #[]
  staticTypes := #[]
  resolved := Array.replicate 7 none
  statics := none }

def pool5 : Array CpInfo := pool [(2, .class_ 4), (1, u "java/lang/Enum"), (0, u "name"), (0, u "Ljava/lang/String;"), (2, u "ordinal"), (0, u "I"), (1, .class_ 14), (1, u "java/lang/Object"), (4, u "hash"), (86, .class_ 108), (1, u "java/lang/Enum$EnumDesc"), (2, .class_ 112), (0, u "java/lang/constant/Constable"), (0, .class_ 114), (0, u "java/lang/Comparable"), (0, .class_ 116), (0, u "java/io/Serializable")] 87

/-- java/lang/Enum -/
def k5 : Class := { plain "java/lang/Enum" (some 0) with
  accessFlags := 1057
  interfaces := #[2, 3, 4]
  cf := some (fileOf pool5 2 #[.nestMembers #[106]] #[] 1057 12 #[111, 113, 115] #[{ accessFlags := 18, nameIndex := 5, descriptorIndex := 6, attributes := #[] }, { accessFlags := 18, nameIndex := 9, descriptorIndex := 10, attributes := #[] }, { accessFlags := 2, nameIndex := 19, descriptorIndex := 10, attributes := #[] }])
  fields := #[{ name := "name", type := (.object "java/lang/String"), accessFlags := 18, slot := 0, constantValue := 0 }, { name := "ordinal", type := .int, accessFlags := 18, slot := 1, constantValue := 0 }, { name := "hash", type := .int, accessFlags := 2, slot := 2, constantValue := 0 }]
  methods := #[]
  instanceTypes := #[(.object "java/lang/String"), .int, .int]
  staticTypes := #[]
  resolved := Array.replicate 204 none
  statics := none }

def pool6 : Array CpInfo := pool [(1, .class_ 2), (0, u "com/example/cafelens/cafelens/ConstantKind"), (2, u "UTF8"), (0, u "Lcom/example/cafelens/cafelens/ConstantKind;"), (2, u "INTEGER"), (2, u "FLOAT"), (2, u "LONG"), (2, u "DOUBLE"), (2, u "CLASS"), (2, u "STRING"), (2, u "NAME_AND_TYPE"), (2, u "FIELDREF"), (2, u "METHODREF"), (2, u "INTERFACE_METHODREF"), (2, u "METHOD_HANDLE"), (2, u "METHOD_TYPE"), (2, u "DYNAMIC"), (2, u "INVOKE_DYNAMIC"), (2, u "MODULE"), (2, u "PACKAGE"), (2, u "$VALUES"), (0, u "[Lcom/example/cafelens/cafelens/ConstantKind;"), (6, .class_ 67), (1, u "java/lang/Enum"), (8, u "tag"), (0, u "I"), (2, u "formatName"), (0, u "Ljava/lang/String;"), (8, u "fields"), (0, u "Ljava/util/List;"), (1, .class_ 95), (1, u "com/example/cafelens/cafelens/ConstantKind$Field"), (8, u "bodySize"), (2, u "refers"), (0, u "Z"), (22, .fieldref 1 132), (0, .nameAndType 133 58), (0, u "BY_TAG"), (106, u "ofTag"), (0, u "(I)Lcom/example/cafelens/cafelens/ConstantKind;")] 8

def k6c0 : Code := { maxStack := 2, maxLocals := 1, code := prog_26_method_13_code, exceptionTable := #[], attributes := #[] }
def k6m0 : Method := { name := "ofTag", desc := "(I)Lcom/example/cafelens/cafelens/ConstantKind;", sig := { parameters := [.int], returnType := some (.object "com/example/cafelens/cafelens/ConstantKind") }, accessFlags := 9, code := some k6c0 }
/-- com/example/cafelens/cafelens/ConstantKind -/
def k6 : Class := { plain "com/example/cafelens/cafelens/ConstantKind" (some 5) with
  accessFlags := 16433
  interfaces := #[]
  cf := some (fileOf pool6 1 #[.nestMembers #[93]] #[{ accessFlags := 9, nameIndex := 240, descriptorIndex := 241, attributes := #[] }] 16433 65 #[] #[{ accessFlags := 16409, nameIndex := 5, descriptorIndex := 6, attributes := #[] }, { accessFlags := 16409, nameIndex := 9, descriptorIndex := 6, attributes := #[] }, { accessFlags := 16409, nameIndex := 12, descriptorIndex := 6, attributes := #[] }, { accessFlags := 16409, nameIndex := 15, descriptorIndex := 6, attributes := #[] }, { accessFlags := 16409, nameIndex := 18, descriptorIndex := 6, attributes := #[] }, { accessFlags := 16409, nameIndex := 21, descriptorIndex := 6, attributes := #[] }, { accessFlags := 16409, nameIndex := 24, descriptorIndex := 6, attributes := #[] }, { accessFlags := 16409, nameIndex := 27, descriptorIndex := 6, attributes := #[] }, { accessFlags := 16409, nameIndex := 30, descriptorIndex := 6, attributes := #[] }, { accessFlags := 16409, nameIndex := 33, descriptorIndex := 6, attributes := #[] }, { accessFlags := 16409, nameIndex := 36, descriptorIndex := 6, attributes := #[] }, { accessFlags := 16409, nameIndex := 39, descriptorIndex := 6, attributes := #[] }, { accessFlags := 16409, nameIndex := 42, descriptorIndex := 6, attributes := #[] }, { accessFlags := 16409, nameIndex := 45, descriptorIndex := 6, attributes := #[] }, { accessFlags := 16409, nameIndex := 48, descriptorIndex := 6, attributes := #[] }, { accessFlags := 16409, nameIndex := 51, descriptorIndex := 6, attributes := #[] }, { accessFlags := 16409, nameIndex := 54, descriptorIndex := 6, attributes := #[] }, { accessFlags := 26, nameIndex := 133, descriptorIndex := 58, attributes := #[] }, { accessFlags := 18, nameIndex := 76, descriptorIndex := 77, attributes := #[] }, { accessFlags := 18, nameIndex := 80, descriptorIndex := 81, attributes := #[] }, { accessFlags := 18, nameIndex := 90, descriptorIndex := 91, attributes := #[] }, { accessFlags := 18, nameIndex := 104, descriptorIndex := 77, attributes := #[] }, { accessFlags := 18, nameIndex := 107, descriptorIndex := 108, attributes := #[] }, { accessFlags := 4122, nameIndex := 57, descriptorIndex := 58, attributes := #[] }])
  fields := #[{ name := "UTF8", type := (.object "com/example/cafelens/cafelens/ConstantKind"), accessFlags := 16409, slot := 0, constantValue := 0 }, { name := "INTEGER", type := (.object "com/example/cafelens/cafelens/ConstantKind"), accessFlags := 16409, slot := 1, constantValue := 0 }, { name := "FLOAT", type := (.object "com/example/cafelens/cafelens/ConstantKind"), accessFlags := 16409, slot := 2, constantValue := 0 }, { name := "LONG", type := (.object "com/example/cafelens/cafelens/ConstantKind"), accessFlags := 16409, slot := 3, constantValue := 0 }, { name := "DOUBLE", type := (.object "com/example/cafelens/cafelens/ConstantKind"), accessFlags := 16409, slot := 4, constantValue := 0 }, { name := "CLASS", type := (.object "com/example/cafelens/cafelens/ConstantKind"), accessFlags := 16409, slot := 5, constantValue := 0 }, { name := "STRING", type := (.object "com/example/cafelens/cafelens/ConstantKind"), accessFlags := 16409, slot := 6, constantValue := 0 }, { name := "NAME_AND_TYPE", type := (.object "com/example/cafelens/cafelens/ConstantKind"), accessFlags := 16409, slot := 7, constantValue := 0 }, { name := "FIELDREF", type := (.object "com/example/cafelens/cafelens/ConstantKind"), accessFlags := 16409, slot := 8, constantValue := 0 }, { name := "METHODREF", type := (.object "com/example/cafelens/cafelens/ConstantKind"), accessFlags := 16409, slot := 9, constantValue := 0 }, { name := "INTERFACE_METHODREF", type := (.object "com/example/cafelens/cafelens/ConstantKind"), accessFlags := 16409, slot := 10, constantValue := 0 }, { name := "METHOD_HANDLE", type := (.object "com/example/cafelens/cafelens/ConstantKind"), accessFlags := 16409, slot := 11, constantValue := 0 }, { name := "METHOD_TYPE", type := (.object "com/example/cafelens/cafelens/ConstantKind"), accessFlags := 16409, slot := 12, constantValue := 0 }, { name := "DYNAMIC", type := (.object "com/example/cafelens/cafelens/ConstantKind"), accessFlags := 16409, slot := 13, constantValue := 0 }, { name := "INVOKE_DYNAMIC", type := (.object "com/example/cafelens/cafelens/ConstantKind"), accessFlags := 16409, slot := 14, constantValue := 0 }, { name := "MODULE", type := (.object "com/example/cafelens/cafelens/ConstantKind"), accessFlags := 16409, slot := 15, constantValue := 0 }, { name := "PACKAGE", type := (.object "com/example/cafelens/cafelens/ConstantKind"), accessFlags := 16409, slot := 16, constantValue := 0 }, { name := "BY_TAG", type := (.array (.object "com/example/cafelens/cafelens/ConstantKind")), accessFlags := 26, slot := 17, constantValue := 0 }, { name := "tag", type := .int, accessFlags := 18, slot := 3, constantValue := 0 }, { name := "formatName", type := (.object "java/lang/String"), accessFlags := 18, slot := 4, constantValue := 0 }, { name := "fields", type := (.object "java/util/List"), accessFlags := 18, slot := 5, constantValue := 0 }, { name := "bodySize", type := .int, accessFlags := 18, slot := 6, constantValue := 0 }, { name := "refers", type := .boolean, accessFlags := 18, slot := 7, constantValue := 0 }, { name := "$VALUES", type := (.array (.object "com/example/cafelens/cafelens/ConstantKind")), accessFlags := 4122, slot := 18, constantValue := 0 }]
  methods := #[k6m0]
  instanceTypes := #[(.object "java/lang/String"), .int, .int, .int, (.object "java/lang/String"), (.object "java/util/List"), .int, .boolean]
  staticTypes := #[(.object "com/example/cafelens/cafelens/ConstantKind"), (.object "com/example/cafelens/cafelens/ConstantKind"), (.object "com/example/cafelens/cafelens/ConstantKind"), (.object "com/example/cafelens/cafelens/ConstantKind"), (.object "com/example/cafelens/cafelens/ConstantKind"), (.object "com/example/cafelens/cafelens/ConstantKind"), (.object "com/example/cafelens/cafelens/ConstantKind"), (.object "com/example/cafelens/cafelens/ConstantKind"), (.object "com/example/cafelens/cafelens/ConstantKind"), (.object "com/example/cafelens/cafelens/ConstantKind"), (.object "com/example/cafelens/cafelens/ConstantKind"), (.object "com/example/cafelens/cafelens/ConstantKind"), (.object "com/example/cafelens/cafelens/ConstantKind"), (.object "com/example/cafelens/cafelens/ConstantKind"), (.object "com/example/cafelens/cafelens/ConstantKind"), (.object "com/example/cafelens/cafelens/ConstantKind"), (.object "com/example/cafelens/cafelens/ConstantKind"), (.array (.object "com/example/cafelens/cafelens/ConstantKind")), (.array (.object "com/example/cafelens/cafelens/ConstantKind"))]
  resolved := Array.replicate 250 none
  statics := some 0 }

def pool7 : Array CpInfo := pool [(1, u "java/lang/Cloneable"), (0, .class_ 1), (0, u "java/lang/Object"), (0, .class_ 3)] 3

/-- java/lang/Cloneable -/
def k7 : Class := { plain "java/lang/Cloneable" (some 0) with
  accessFlags := 1537
  interfaces := #[]
  cf := some (fileOf pool7 2 #[] #[] 1537 4 #[] #[])
  fields := #[]
  methods := #[]
  instanceTypes := #[]
  staticTypes := #[]
  resolved := Array.replicate 8 none
  statics := none }

/-- the primitive byte -/
def k8 : Class := { plain "byte" none with kind := .primitive 'B', accessFlags := 0x411 }
/-- [B -/
def k9 : Class := { plain "[B" (some 0) with kind := .array 8 .byte, interfaces := #[7, 4], accessFlags := 1041 }

/-- the primitive int -/
def k10 : Class := { plain "int" none with kind := .primitive 'I', accessFlags := 0x411 }
/-- [I -/
def k11 : Class := { plain "[I" (some 0) with kind := .array 10 .int, interfaces := #[7, 4], accessFlags := 1041 }

/-- [Lcom/example/cafelens/cafelens/ConstantKind; -/
def k12 : Class := { plain "[Lcom/example/cafelens/cafelens/ConstantKind;" (some 0) with kind := .array 6 (.object "com/example/cafelens/cafelens/ConstantKind"), interfaces := #[7, 4], accessFlags := 1041 }

def heap : Heap := #[{ cls := 6, slots := #[.ref 3, .ref 2, .ref 14, .ref 7, .ref 4, .ref 10, .ref 5, .ref 6, .ref 13, .ref 11, .ref 15, .ref 8, .ref 18, .ref 16, .ref 17, .ref 9, .ref 12, .ref 1, .null], vm := .statics 6 },
  { cls := 12, slots := #[.null, .ref 3, .null, .ref 2, .ref 14, .ref 7, .ref 4, .ref 10, .ref 5, .ref 13, .ref 11, .ref 15, .ref 6, .null, .null, .ref 8, .ref 18, .ref 16, .ref 17, .ref 9, .ref 12], vm := .none },
  { cls := 6, slots := #[.null, .int 0, .int 0, .int 0, .null, .null, .int 0, .int 0], vm := .none },
  { cls := 6, slots := #[.null, .int 0, .int 0, .int 0, .null, .null, .int 0, .int 0], vm := .none },
  { cls := 6, slots := #[.null, .int 0, .int 0, .int 0, .null, .null, .int 0, .int 0], vm := .none },
  { cls := 6, slots := #[.null, .int 0, .int 0, .int 0, .null, .null, .int 0, .int 0], vm := .none },
  { cls := 6, slots := #[.null, .int 0, .int 0, .int 0, .null, .null, .int 0, .int 0], vm := .none },
  { cls := 6, slots := #[.null, .int 0, .int 0, .int 0, .null, .null, .int 0, .int 0], vm := .none },
  { cls := 6, slots := #[.null, .int 0, .int 0, .int 0, .null, .null, .int 0, .int 0], vm := .none },
  { cls := 6, slots := #[.null, .int 0, .int 0, .int 0, .null, .null, .int 0, .int 0], vm := .none },
  { cls := 6, slots := #[.null, .int 0, .int 0, .int 0, .null, .null, .int 0, .int 0], vm := .none },
  { cls := 6, slots := #[.null, .int 0, .int 0, .int 0, .null, .null, .int 0, .int 0], vm := .none },
  { cls := 6, slots := #[.null, .int 0, .int 0, .int 0, .null, .null, .int 0, .int 0], vm := .none },
  { cls := 6, slots := #[.null, .int 0, .int 0, .int 0, .null, .null, .int 0, .int 0], vm := .none },
  { cls := 6, slots := #[.null, .int 0, .int 0, .int 0, .null, .null, .int 0, .int 0], vm := .none },
  { cls := 6, slots := #[.null, .int 0, .int 0, .int 0, .null, .null, .int 0, .int 0], vm := .none },
  { cls := 6, slots := #[.null, .int 0, .int 0, .int 0, .null, .null, .int 0, .int 0], vm := .none },
  { cls := 6, slots := #[.null, .int 0, .int 0, .int 0, .null, .null, .int 0, .int 0], vm := .none },
  { cls := 6, slots := #[.null, .int 0, .int 0, .int 0, .null, .null, .int 0, .int 0], vm := .none }]
def classes : Array Class := #[k0, k1, k2, k3, k4, k5, k6, k7, k8, k9, k10, k11, k12]
def interned : List (Array UInt16 × Addr) := []
def slotsUsed : Nat := 176
def theMethod : MethodId := ⟨1, 2⟩
def args0 : Array Value := #[.int 5, .int 6]
def aboutOver (below : List Frame) : State where
  vm := { classes := classes, interned := interned.toArray }
  heap := heap
  slotsUsed := slotsUsed
  threads := #[{ frames := .invoking theMethod args0 :: below }]
def below0 : List Frame := [.native { method := ⟨0, 0⟩, args := #[] }]
def about1 : State := aboutOver below0
def p0 : Program := .bare "" "" ""
def e0 : Env := launch0.env 0 0 0
theorem w_frames : about1.frames = Frame.invoking theMethod args0 :: below0 := rfl
set_option maxRecDepth 65536 in
theorem w_args : argsFit about1.vm theMethod args0 = true := by decide +kernel
set_option maxRecDepth 65536 in
theorem w_heap : heapFits about1 = true := by decide +kernel
set_option maxRecDepth 65536 in
theorem w_runnable : about1.curStatus? = some .runnable := by decide +kernel
set_option maxRecDepth 65536 in
theorem w_alone : about1.alone = true := by decide +kernel
set_option maxRecDepth 65536 in
theorem w_named : about1.methodNamed? x = some theMethod := by decide +kernel
set_option maxRecDepth 65536 in
theorem w_hears : about1.hears theMethod below0 = true := by decide +kernel
set_option maxRecDepth 65536 in
theorem w_ripe : about1.ripe theMethod args0 below0 = true := by decide +kernel
theorem w_running : about1.status = .running := rfl
set_option maxRecDepth 65536 in
theorem w_room : about1.hasRoom e0.platform room_1 = true :=
  launch0.hasRoom_least _ room_1 (by decide +kernel) (by decide +kernel) (by decide +kernel) (by decide +kernel) (by decide +kernel) (by decide +kernel)
theorem allAtoms_all (ts : List Jvm.Cond) (a : Array Jvm.Value) (st : Jvm.State) : (allAtoms ts).before a st = ts.all (fun c => c.before a st) := by
  induction ts with
  | nil => rfl
  | cons c t ih =>
    show (Jvm.Cond.and c (allAtoms t)).before a st = _
    rw [Jvm.Cond.before_and, ih, List.all_cons]
def words1 : List Jvm.Cond := Jvm.Cond.code x code maxLocals ret :: tables_1
/-- a 'code' word, met by the world's own term for the bytes: nothing is compared byte by byte -/
theorem code_word {y : MethodName} {bytes : ByteArray} {mx : Nat} {rt : Option FieldType} {a : Array Value} {s : State} {m : MethodId} {meth : Method} {c : Code} (h1 : s.methodNamed? y = some m) (h2 : s.vm.method? m = some meth) (h3 : meth.code = some c) (h4 : c.code = bytes)
    (h5 : (c.maxLocals == mx && c.exceptionTable.isEmpty && decide (c.maxStack ≤ mostOperands) && decide (meth.sig.returnType = rt) && !meth.locks && decide (parseMethodDescriptor y.desc = some meth.sig)) = true) : (Jvm.Cond.code y bytes mx rt).before a s = true := by
  simp only [Bool.and_eq_true, beq_iff_eq, Bool.not_eq_true', decide_eq_true_eq] at h5
  obtain ⟨⟨⟨⟨⟨g1, g2⟩, g3⟩, g4⟩, g5⟩, g6⟩ := h5
  simp [Cond.before, Cond.holds, Cond.value, h1, h2, h3, h4, g1, g2, g3, g4, g5, g6]
def isCode : Jvm.Cond → Bool
  | .code _ _ _ _ => true
  | _ => false
theorem all_split {L : List Jvm.Cond} {P : Jvm.Cond → Bool} (h1 : L.all (fun c => isCode c || P c) = true) (h2 : ∀ c ∈ L.filter isCode, P c = true) : L.all P = true := by
  refine List.all_eq_true.mpr fun c hc => ?_
  have h := List.all_eq_true.mp h1 c hc
  rcases Bool.eq_false_or_eq_true (isCode c) with hi | hi
  · exact h2 c (List.mem_filter.mpr ⟨hc, hi⟩)
  · simpa [hi] using h
set_option maxRecDepth 65536 in
theorem w_c0 : (Jvm.Cond.code x code maxLocals ret).before args0 about1 = true := code_word (m := ⟨1, 2⟩) (meth := k1m2) (c := k1c2) (by decide +kernel) rfl rfl rfl (by decide +kernel)
set_option maxRecDepth 65536 in
theorem w_c1 : (Jvm.Cond.code ({ cls := "com/example/cafelens/cafelens/ConstantKind", name := "ofTag", desc := "(I)Lcom/example/cafelens/cafelens/ConstantKind;" } : Jvm.MethodName) prog_26_method_13_code (1 : Nat) (Option.some (Jvm.ClassFile.FieldType.object "com/example/cafelens/cafelens/ConstantKind"))).before args0 about1 = true := code_word (m := ⟨6, 0⟩) (meth := k6m0) (c := k6c0) (by decide +kernel) rfl rfl rfl (by decide +kernel)
set_option maxRecDepth 65536 in
theorem w_c2 : (Jvm.Cond.code ({ cls := "com/example/cafelens/cafelens/ConstantKindOfTagPinLaw", name := "expected", desc := "(I)Lcom/example/cafelens/cafelens/ConstantKind;" } : Jvm.MethodName) method_2_code (1 : Nat) (Option.some (Jvm.ClassFile.FieldType.object "com/example/cafelens/cafelens/ConstantKind"))).before args0 about1 = true := code_word (m := ⟨1, 1⟩) (meth := k1m1) (c := k1c1) (by decide +kernel) rfl rfl rfl (by decide +kernel)
def codes1 : List Jvm.Cond := [Jvm.Cond.code x code maxLocals ret, Jvm.Cond.code ({ cls := "com/example/cafelens/cafelens/ConstantKind", name := "ofTag", desc := "(I)Lcom/example/cafelens/cafelens/ConstantKind;" } : Jvm.MethodName) prog_26_method_13_code (1 : Nat) (Option.some (Jvm.ClassFile.FieldType.object "com/example/cafelens/cafelens/ConstantKind")), Jvm.Cond.code ({ cls := "com/example/cafelens/cafelens/ConstantKindOfTagPinLaw", name := "expected", desc := "(I)Lcom/example/cafelens/cafelens/ConstantKind;" } : Jvm.MethodName) method_2_code (1 : Nat) (Option.some (Jvm.ClassFile.FieldType.object "com/example/cafelens/cafelens/ConstantKind"))]
set_option maxRecDepth 65536 in
theorem codes_eq : words1.filter isCode = codes1 := rfl
theorem w_codes : ∀ c ∈ words1.filter isCode, c.before args0 about1 = true := by
  rw [codes_eq]
  intro c hc
  simp only [codes1, List.mem_cons, List.not_mem_nil, or_false] at hc
  rcases hc with rfl | rfl | rfl
  · exact w_c0
  · exact w_c1
  · exact w_c2
set_option maxRecDepth 65536 in
theorem w_t1 : (words1.take 24).all (fun c => isCode c || c.before args0 about1) = true := by decide +kernel
set_option maxRecDepth 65536 in
theorem w_t2 : (words1.drop 24).all (fun c => isCode c || c.before args0 about1) = true := by decide +kernel
theorem w_tables : (allAtoms (Jvm.Cond.code x code maxLocals ret :: tables_1)).before args0 about1 = true := by
  rw [allAtoms_all]
  show words1.all (fun c => c.before args0 about1) = true
  refine all_split ?_ w_codes
  rw [← List.take_append_drop 24 words1, List.all_append, w_t1, w_t2]
  rfl
set_option maxRecDepth 65536 in
theorem w_case : (Jvm.Cond.and given_1 narrow_1).before args0 about1 = true := by decide +kernel
theorem w_applies : (headSpec (Jvm.Cond.code x code maxLocals ret :: tables_1) room_1).applies x e0.platform about1 = true :=
  (Spec.applies_iff w_frames).mpr ⟨w_running, w_runnable, w_alone, w_named, w_hears, w_ripe, w_room, w_tables⟩
theorem atStart : AtStart classFile x code maxLocals ret World_1 tables_1 room_1 Calls_1 rest_1 Pre_1 launch0 p0 e0 about1 theMethod args0 below0 :=
  ⟨lists_1, trivial, launch0.admits_env _ _ _, launch0.least_env, fairChoices_fair.cas, fairChoices_fair.clock, w_frames, w_args, w_heap, w_applies, trivial, trivial, w_case⟩
end start1
theorem witness_1 : WitnessClaimed_1 := ⟨start1.p0, start1.e0, start1.about1, start1.theMethod, start1.args0, start1.below0, start1.atStart⟩
end Jvm.Pilot.@@N@@
