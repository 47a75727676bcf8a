import JvmDerived
import JvmDerived.Pilot.@@N@@Statement
import JvmDerived.Pilot.@@N@@Code
set_option linter.unusedVariables false
set_option linter.unusedSimpArgs false
@@BLOCK:NumsL.lean.txt@@
namespace Jvm.RoadKit
open Sem ClassFile Op Lib Jvm.Stand Jvm.Free Jvm.LawKit
section New
variable {p : Program} {l : Launch} {e : Env} {R : Room} {s : State} {m : MethodId} {args : Array Value} {below : List Frame} {meth : Method} {c : Code} {T : State} {locs : List Loc} {cells slots : Nat}
theorem retI (X : Stand p l e R s m args below meth c T locs cells slots) (hx : p.tables.exec = Jvm.exec) {pc : Nat} {Ls : Array Slot} {z : Int32} {rest : List Value} (hret : meth.sig.returnType = some .int) (hd : decode c.code pc = .ok (.ireturn, 1)) {fs : List Frame}
    (hl : ∀ (f : JFrame) (acts : List Action), f.method = m → f.locked = none → f.entered = [] → (doReturn e (T.setTop f) acts (some (.int z))).1 = T.setFrames fs) : Steps p.tables e below (T.setTop (mkF m pc Ls (.int z :: rest))) (T.setFrames fs) := by
  have hm' : T.vm.method? m = some meth := X.method'
  have hn : narrow .int (.int z) = .int z := rfl
  show Steps p.tables e below (T.setTop { method := m, pc := pc, locals := Ls, stack := _ :: rest, locked := none }) _
  jvm_step X.here [X.here.top, hx, hd, hm', hret, hn]
  first | (intro acts; rw [hl _ acts rfl rfl rfl]) | rw [hl _ _ rfl rfl rfl]
  exact Steps.refl _
end New
end Jvm.RoadKit
namespace Jvm.Pilot.@@N@@
open Jvm Jvm.ClassFile Sem Op Lib Jvm.Free Jvm.Stand Jvm.LawKit Jvm.RoadKit Bundle Jvm.Pilot.@@N@@.Jvm.D
/-- what a body that writes nothing leaves -/
def Qp (r : Option Value) (h0 : Heap) (n0 : Nat) (v : Option Value) (h : Heap) (L : List Loc) : Prop := v = r ∧ Fr n0 L ∧ h = h0
theorem own_fld {args : Array Value} {s : State} {t : Term} {C n d : String} {x : Addr} {k : Int32} (ht : t.eval args s none [] s = some (.ref x)) (h : (Cond.eq (.field t C n d) (.int k)).value args s none s [] = some true) : Fld s s.heap x C n d (.int k) := by
  obtain ⟨u, v, a1, a2, k1, -⟩ := cmp_v (Or.inl h)
  have a3 : (Term.int k).eval args s none [] s = some (.int k) := rfl
  cases a3.symm.trans a2
  have a4 : u = .int k := by
    cases u <;> simp [Cond.value, a1, a3] at h ⊢
    exact h
  subst a4
  rw [fld_at ht] at a1
  exact Fld.start a1
theorem own_fld_inj {Z : State} {h : Heap} {a : Addr} {C n d : String} {v w : Value} (F : Fld Z h a C n d v) (G : Fld Z h a C n d w) : v = w := by
  obtain ⟨c1, cf1, k1, i1, f1, h1, h2, -, -, -, -, h7⟩ := F
  obtain ⟨c2, cf2, k2, i2, f2, g1, g2, -, -, -, -, g7⟩ := G
  cases h1.symm.trans g1
  cases h2.symm.trans g2
  exact Option.some.inj (h7.symm.trans g7)
theorem own_fld_ne {Z : State} {h : Heap} {a b : Addr} {C n d : String} {v w : Int32} (F : Fld Z h a C n d (.int v)) (G : Fld Z h b C n d (.int w)) (hn : ¬ v = w) : a ≠ b := fun q => by
  subst q
  exact hn (Value.int.inj (own_fld_inj F G))
theorem nar_ref (t : FieldType) (w : Value) (h : w.isRef = true) : narrow t w = w := by
  rcases ref_cases h with rfl | ⟨a, rfl⟩ <;> cases t <;> rfl
theorem own_cat {v : Value} (h : v.isRef = true) : v.category = 1 := by
  rcases ref_cases h with rfl | ⟨a, rfl⟩ <;> rfl
theorem own_ite_ref {c : Prop} [Decidable c] {a b : Value} (ha : a.isRef = true) (hb : b.isRef = true) : (if c then a else b).isRef = true := by
  split <;> assumption

def Fx (Z : State) (h : Heap) (w_BY_NUMBER : Addr) (c_BY_NUMBER : Cell) (w_PUT_STATIC : Addr) (w_INVOKE_STATIC : Addr) (w_NEW_INVOKE_SPECIAL : Addr) (w_PUT_FIELD : Addr) (w_INVOKE_INTERFACE : Addr) (w_GET_FIELD : Addr) (w_GET_STATIC : Addr) (w_INVOKE_SPECIAL : Addr) (w_INVOKE_VIRTUAL : Addr) : Prop := (Sta Z h "com/example/cafelens/cafelens/ReferenceKind" "BY_NUMBER" "[Lcom/example/cafelens/cafelens/ReferenceKind;" (.ref w_BY_NUMBER)) ∧ (Arr Z h w_BY_NUMBER c_BY_NUMBER (.object "com/example/cafelens/cafelens/ReferenceKind")) ∧ (c_BY_NUMBER.slots.size = 9) ∧ (Sta Z h "com/example/cafelens/cafelens/ReferenceKind" "PUT_STATIC" "Lcom/example/cafelens/cafelens/ReferenceKind;" (.ref w_PUT_STATIC)) ∧ (Exa Z h w_PUT_STATIC "com/example/cafelens/cafelens/ReferenceKind") ∧ (c_BY_NUMBER.slots[(3 : Nat)]? = some (.ref w_PUT_STATIC)) ∧ (Fld Z h w_PUT_STATIC "com/example/cafelens/cafelens/ReferenceKind" "number" "I" (.int (4 : Int32))) ∧ (Sta Z h "com/example/cafelens/cafelens/ReferenceKind" "INVOKE_STATIC" "Lcom/example/cafelens/cafelens/ReferenceKind;" (.ref w_INVOKE_STATIC)) ∧ (Exa Z h w_INVOKE_STATIC "com/example/cafelens/cafelens/ReferenceKind") ∧ (c_BY_NUMBER.slots[(5 : Nat)]? = some (.ref w_INVOKE_STATIC)) ∧ (Fld Z h w_INVOKE_STATIC "com/example/cafelens/cafelens/ReferenceKind" "number" "I" (.int (6 : Int32))) ∧ (Sta Z h "com/example/cafelens/cafelens/ReferenceKind" "NEW_INVOKE_SPECIAL" "Lcom/example/cafelens/cafelens/ReferenceKind;" (.ref w_NEW_INVOKE_SPECIAL)) ∧ (Exa Z h w_NEW_INVOKE_SPECIAL "com/example/cafelens/cafelens/ReferenceKind") ∧ (c_BY_NUMBER.slots[(7 : Nat)]? = some (.ref w_NEW_INVOKE_SPECIAL)) ∧ (Fld Z h w_NEW_INVOKE_SPECIAL "com/example/cafelens/cafelens/ReferenceKind" "number" "I" (.int (8 : Int32))) ∧ (Sta Z h "com/example/cafelens/cafelens/ReferenceKind" "PUT_FIELD" "Lcom/example/cafelens/cafelens/ReferenceKind;" (.ref w_PUT_FIELD)) ∧ (Exa Z h w_PUT_FIELD "com/example/cafelens/cafelens/ReferenceKind") ∧ (c_BY_NUMBER.slots[(2 : Nat)]? = some (.ref w_PUT_FIELD)) ∧ (Fld Z h w_PUT_FIELD "com/example/cafelens/cafelens/ReferenceKind" "number" "I" (.int (3 : Int32))) ∧ (Sta Z h "com/example/cafelens/cafelens/ReferenceKind" "INVOKE_INTERFACE" "Lcom/example/cafelens/cafelens/ReferenceKind;" (.ref w_INVOKE_INTERFACE)) ∧ (Exa Z h w_INVOKE_INTERFACE "com/example/cafelens/cafelens/ReferenceKind") ∧ (c_BY_NUMBER.slots[(8 : Nat)]? = some (.ref w_INVOKE_INTERFACE)) ∧ (Fld Z h w_INVOKE_INTERFACE "com/example/cafelens/cafelens/ReferenceKind" "number" "I" (.int (9 : Int32))) ∧ (Sta Z h "com/example/cafelens/cafelens/ReferenceKind" "GET_FIELD" "Lcom/example/cafelens/cafelens/ReferenceKind;" (.ref w_GET_FIELD)) ∧ (Exa Z h w_GET_FIELD "com/example/cafelens/cafelens/ReferenceKind") ∧ (c_BY_NUMBER.slots[(0 : Nat)]? = some (.ref w_GET_FIELD)) ∧ (Fld Z h w_GET_FIELD "com/example/cafelens/cafelens/ReferenceKind" "number" "I" (.int (1 : Int32))) ∧ (Sta Z h "com/example/cafelens/cafelens/ReferenceKind" "GET_STATIC" "Lcom/example/cafelens/cafelens/ReferenceKind;" (.ref w_GET_STATIC)) ∧ (Exa Z h w_GET_STATIC "com/example/cafelens/cafelens/ReferenceKind") ∧ (c_BY_NUMBER.slots[(1 : Nat)]? = some (.ref w_GET_STATIC)) ∧ (Fld Z h w_GET_STATIC "com/example/cafelens/cafelens/ReferenceKind" "number" "I" (.int (2 : Int32))) ∧ (Sta Z h "com/example/cafelens/cafelens/ReferenceKind" "INVOKE_SPECIAL" "Lcom/example/cafelens/cafelens/ReferenceKind;" (.ref w_INVOKE_SPECIAL)) ∧ (Exa Z h w_INVOKE_SPECIAL "com/example/cafelens/cafelens/ReferenceKind") ∧ (c_BY_NUMBER.slots[(6 : Nat)]? = some (.ref w_INVOKE_SPECIAL)) ∧ (Fld Z h w_INVOKE_SPECIAL "com/example/cafelens/cafelens/ReferenceKind" "number" "I" (.int (7 : Int32))) ∧ (Sta Z h "com/example/cafelens/cafelens/ReferenceKind" "INVOKE_VIRTUAL" "Lcom/example/cafelens/cafelens/ReferenceKind;" (.ref w_INVOKE_VIRTUAL)) ∧ (Exa Z h w_INVOKE_VIRTUAL "com/example/cafelens/cafelens/ReferenceKind") ∧ (c_BY_NUMBER.slots[(4 : Nat)]? = some (.ref w_INVOKE_VIRTUAL)) ∧ (Fld Z h w_INVOKE_VIRTUAL "com/example/cafelens/cafelens/ReferenceKind" "number" "I" (.int (5 : Int32)))

theorem own_len {args : Array Value} {s : State} {t : Term} {x : Addr} {c : Cell} {ty : FieldType} {k : Nat} (ht : t.eval args s none [] s = some (.ref x)) (A : Arr s s.heap x c ty) (hk : k < 2 ^ 31) (h : (Cond.eq (.length t) (.int (Int32.ofNat k))).value args s none s [] = some true) : c.slots.size = k := by
  obtain ⟨u, v, a1, a2, k1, -⟩ := cmp_v (Or.inl h)
  have a3 : (Term.int (Int32.ofNat k)).eval args s none [] s = some (.int (Int32.ofNat k)) := rfl
  have ha := A.fin (Vm.Alike.refl _)
  by_cases hl : c.slots.size < 2 ^ 31
  · rw [len_f ht ha hl] at a1
    cases a1
    have e : c.slots.size.toInt32 = Int32.ofNat k := by
      have b1 := len_f ht ha hl
      simpa [Cond.value, b1, a3] using h
    have e2 := congrArg Int32.toInt e
    rw [len_toInt hl] at e2
    have e3 : (Int32.ofNat k).toInt = k := Int32.toInt_ofNat_small hk
    rw [e3] at e2
    exact_mod_cast e2
  · simp [Term.eval, ht, ha, hl] at a1
theorem own_elem {args : Array Value} {s : State} {t t' : Term} {x : Addr} {c : Cell} {ty : FieldType} {k : Nat} {w : Value} (ht : t.eval args s none [] s = some (.ref x)) (A : Arr s s.heap x c ty) (hk : (Int32.ofNat k).toNatClampNeg = k) (h : (Cond.eq (.elem t (.int (Int32.ofNat k))) t').value args s none s [] = some true) (hw : t'.eval args s none [] s = some w) (hr : w.isRef = true) : c.slots[k]? = some w := by
  obtain ⟨u, v, a1, a2, k1, -⟩ := cmp_v (Or.inl h)
  cases hw.symm.trans a2
  have a3 : (Term.int (Int32.ofNat k)).eval args s none [] s = some (.int (Int32.ofNat k)) := rfl
  have e := (elem_in a1 ht a3 A.1).2
  rw [hk] at e
  have hu : u.isRef = true := by
    rcases ref_cases hr with rfl | ⟨b, rfl⟩ <;> cases u <;> simp_all [Kin, Value.isRef]
  have q := gotT (eq_R a1 hw hu hr) h
  rw [e, q]
def tab (j : Int32) (w_BY_NUMBER : Addr) (w_PUT_STATIC : Addr) (w_INVOKE_STATIC : Addr) (w_NEW_INVOKE_SPECIAL : Addr) (w_PUT_FIELD : Addr) (w_INVOKE_INTERFACE : Addr) (w_GET_FIELD : Addr) (w_GET_STATIC : Addr) (w_INVOKE_SPECIAL : Addr) (w_INVOKE_VIRTUAL : Addr) : Value := if j = (0 : Int32) then (.ref w_GET_FIELD) else if j = (1 : Int32) then (.ref w_GET_STATIC) else if j = (2 : Int32) then (.ref w_PUT_FIELD) else if j = (3 : Int32) then (.ref w_PUT_STATIC) else if j = (4 : Int32) then (.ref w_INVOKE_VIRTUAL) else if j = (5 : Int32) then (.ref w_INVOKE_STATIC) else if j = (6 : Int32) then (.ref w_INVOKE_SPECIAL) else if j = (7 : Int32) then (.ref w_NEW_INVOKE_SPECIAL) else (.ref w_INVOKE_INTERFACE)
theorem tab_ref (j : Int32) (w_BY_NUMBER : Addr) (w_PUT_STATIC : Addr) (w_INVOKE_STATIC : Addr) (w_NEW_INVOKE_SPECIAL : Addr) (w_PUT_FIELD : Addr) (w_INVOKE_INTERFACE : Addr) (w_GET_FIELD : Addr) (w_GET_STATIC : Addr) (w_INVOKE_SPECIAL : Addr) (w_INVOKE_VIRTUAL : Addr) : (tab j w_BY_NUMBER w_PUT_STATIC w_INVOKE_STATIC w_NEW_INVOKE_SPECIAL w_PUT_FIELD w_INVOKE_INTERFACE w_GET_FIELD w_GET_STATIC w_INVOKE_SPECIAL w_INVOKE_VIRTUAL).isRef = true := own_ite_ref rfl (own_ite_ref rfl (own_ite_ref rfl (own_ite_ref rfl (own_ite_ref rfl (own_ite_ref rfl (own_ite_ref rfl (own_ite_ref rfl (rfl))))))))
theorem own_cases9 (k : Int32) (h0 : 1 ≤ k.toInt) (h1 : k.toInt < 10) : k = (1 : Int32) ∨ k = (2 : Int32) ∨ k = (3 : Int32) ∨ k = (4 : Int32) ∨ k = (5 : Int32) ∨ k = (6 : Int32) ∨ k = (7 : Int32) ∨ k = (8 : Int32) ∨ k = (9 : Int32) := by
  have h : k.toInt = 1 ∨ k.toInt = 2 ∨ k.toInt = 3 ∨ k.toInt = 4 ∨ k.toInt = 5 ∨ k.toInt = 6 ∨ k.toInt = 7 ∨ k.toInt = 8 ∨ k.toInt = 9 := by omega
  rcases h with h | h | h | h | h | h | h | h | h
  · exact (Or.inl (Int32.toInt_inj.mp (h.trans (by decide : (1 : Int) = (1 : Int32).toInt))))
  · exact (Or.inr (Or.inl (Int32.toInt_inj.mp (h.trans (by decide : (2 : Int) = (2 : Int32).toInt)))))
  · exact (Or.inr (Or.inr (Or.inl (Int32.toInt_inj.mp (h.trans (by decide : (3 : Int) = (3 : Int32).toInt))))))
  · exact (Or.inr (Or.inr (Or.inr (Or.inl (Int32.toInt_inj.mp (h.trans (by decide : (4 : Int) = (4 : Int32).toInt)))))))
  · exact (Or.inr (Or.inr (Or.inr (Or.inr (Or.inl (Int32.toInt_inj.mp (h.trans (by decide : (5 : Int) = (5 : Int32).toInt))))))))
  · exact (Or.inr (Or.inr (Or.inr (Or.inr (Or.inr (Or.inl (Int32.toInt_inj.mp (h.trans (by decide : (6 : Int) = (6 : Int32).toInt)))))))))
  · exact (Or.inr (Or.inr (Or.inr (Or.inr (Or.inr (Or.inr (Or.inl (Int32.toInt_inj.mp (h.trans (by decide : (7 : Int) = (7 : Int32).toInt))))))))))
  · exact (Or.inr (Or.inr (Or.inr (Or.inr (Or.inr (Or.inr (Or.inr (Or.inl (Int32.toInt_inj.mp (h.trans (by decide : (8 : Int) = (8 : Int32).toInt)))))))))))
  · exact (Or.inr (Or.inr (Or.inr (Or.inr (Or.inr (Or.inr (Or.inr (Or.inr (Int32.toInt_inj.mp (h.trans (by decide : (9 : Int) = (9 : Int32).toInt)))))))))))
theorem own_rng {j : Int32} (h1 : ¬ j < (1 : Int32)) (h2 : ¬ (9 : Int32) < j) : j = (1 : Int32) ∨ j = (2 : Int32) ∨ j = (3 : Int32) ∨ j = (4 : Int32) ∨ j = (5 : Int32) ∨ j = (6 : Int32) ∨ j = (7 : Int32) ∨ j = (8 : Int32) ∨ j = (9 : Int32) := by
  rw [Int32.lt_iff_toInt_lt] at h1 h2
  have a : (1 : Int32).toInt = 1 := by decide
  have b : (9 : Int32).toInt = 9 := by decide
  exact own_cases9 j (by omega) (by omega)
theorem own_in {c : Cell} {j : Int32} (L : c.slots.size = 9) (h1 : ¬ j < (1 : Int32)) (h2 : ¬ (9 : Int32) < j) : ¬ ((j - (1 : Int32)) < 0 ∨ c.slots.size ≤ (j - (1 : Int32)).toNatClampNeg) := by
  rw [L]
  rcases own_rng h1 h2 with rfl | rfl | rfl | rfl | rfl | rfl | rfl | rfl | rfl
  all_goals decide
set_option maxHeartbeats 40000000 in
theorem own_tab {Z : State} {h : Heap} {w_BY_NUMBER : Addr} {c_BY_NUMBER : Cell} {w_PUT_STATIC : Addr} {w_INVOKE_STATIC : Addr} {w_NEW_INVOKE_SPECIAL : Addr} {w_PUT_FIELD : Addr} {w_INVOKE_INTERFACE : Addr} {w_GET_FIELD : Addr} {w_GET_STATIC : Addr} {w_INVOKE_SPECIAL : Addr} {w_INVOKE_VIRTUAL : Addr} (F : Fx Z h w_BY_NUMBER c_BY_NUMBER w_PUT_STATIC w_INVOKE_STATIC w_NEW_INVOKE_SPECIAL w_PUT_FIELD w_INVOKE_INTERFACE w_GET_FIELD w_GET_STATIC w_INVOKE_SPECIAL w_INVOKE_VIRTUAL) {j : Int32} (h1 : ¬ j < (1 : Int32)) (h2 : ¬ (9 : Int32) < j) : c_BY_NUMBER.slots[(j - (1 : Int32)).toNatClampNeg]? = some (tab (j - (1 : Int32)) w_BY_NUMBER w_PUT_STATIC w_INVOKE_STATIC w_NEW_INVOKE_SPECIAL w_PUT_FIELD w_INVOKE_INTERFACE w_GET_FIELD w_GET_STATIC w_INVOKE_SPECIAL w_INVOKE_VIRTUAL) := by
  obtain ⟨S_BY_NUMBER, A_BY_NUMBER, L_BY_NUMBER, S_PUT_STATIC, E_PUT_STATIC, T_BY_NUMBER_3, F_number_PUT_STATIC, S_INVOKE_STATIC, E_INVOKE_STATIC, T_BY_NUMBER_5, F_number_INVOKE_STATIC, S_NEW_INVOKE_SPECIAL, E_NEW_INVOKE_SPECIAL, T_BY_NUMBER_7, F_number_NEW_INVOKE_SPECIAL, S_PUT_FIELD, E_PUT_FIELD, T_BY_NUMBER_2, F_number_PUT_FIELD, S_INVOKE_INTERFACE, E_INVOKE_INTERFACE, T_BY_NUMBER_8, F_number_INVOKE_INTERFACE, S_GET_FIELD, E_GET_FIELD, T_BY_NUMBER_0, F_number_GET_FIELD, S_GET_STATIC, E_GET_STATIC, T_BY_NUMBER_1, F_number_GET_STATIC, S_INVOKE_SPECIAL, E_INVOKE_SPECIAL, T_BY_NUMBER_6, F_number_INVOKE_SPECIAL, S_INVOKE_VIRTUAL, E_INVOKE_VIRTUAL, T_BY_NUMBER_4, F_number_INVOKE_VIRTUAL⟩ := F
  rcases own_rng h1 h2 with rfl | rfl | rfl | rfl | rfl | rfl | rfl | rfl | rfl
  · exact T_BY_NUMBER_0
  · exact T_BY_NUMBER_1
  · exact T_BY_NUMBER_2
  · exact T_BY_NUMBER_3
  · exact T_BY_NUMBER_4
  · exact T_BY_NUMBER_5
  · exact T_BY_NUMBER_6
  · exact T_BY_NUMBER_7
  · exact T_BY_NUMBER_8

theorem d1_0 : decode prog_88_method_7_code 0 = .ok (.iload_n 0, 1) := by decide +kernel
theorem d1_1 : decode prog_88_method_7_code 1 = .ok (.iconst 1, 1) := by decide +kernel
theorem d1_2 : decode prog_88_method_7_code 2 = .ok (.if_icmp .lt 21, 3) := by decide +kernel
theorem d1_5 : decode prog_88_method_7_code 5 = .ok (.iload_n 0, 1) := by decide +kernel
theorem d1_6 : decode prog_88_method_7_code 6 = .ok (.getstatic 68, 3) := by decide +kernel
theorem d1_9 : decode prog_88_method_7_code 9 = .ok (.arraylength, 1) := by decide +kernel
theorem d1_10 : decode prog_88_method_7_code 10 = .ok (.if_icmp .gt 13, 3) := by decide +kernel
theorem d1_13 : decode prog_88_method_7_code 13 = .ok (.getstatic 68, 3) := by decide +kernel
theorem d1_16 : decode prog_88_method_7_code 16 = .ok (.iload_n 0, 1) := by decide +kernel
theorem d1_17 : decode prog_88_method_7_code 17 = .ok (.iconst 1, 1) := by decide +kernel
theorem d1_18 : decode prog_88_method_7_code 18 = .ok (.isub, 1) := by decide +kernel
theorem d1_19 : decode prog_88_method_7_code 19 = .ok (.aaload, 1) := by decide +kernel
theorem d1_20 : decode prog_88_method_7_code 20 = .ok (.goto 4, 3) := by decide +kernel
theorem d1_23 : decode prog_88_method_7_code 23 = .ok (.aconst_null, 1) := by decide +kernel
theorem d1_24 : decode prog_88_method_7_code 24 = .ok (.areturn, 1) := by decide +kernel
theorem pn_1 : plainName "com/example/cafelens/cafelens/ReferenceKind" = true := by first | (simp [plainName, overriddenIn]; done) | decide +kernel
theorem ef_1 (m : MethodId) (p0 : Int32) : entryFrame m #[(.int p0)] 1 = mkF m 0 #[.val (.int p0)] [] := by first | (simp [entryFrame, mkF, argsToLocals, Value.category]; done) | rfl
def v1 (p0 : Int32) (w_BY_NUMBER : Addr) (w_PUT_STATIC : Addr) (w_INVOKE_STATIC : Addr) (w_NEW_INVOKE_SPECIAL : Addr) (w_PUT_FIELD : Addr) (w_INVOKE_INTERFACE : Addr) (w_GET_FIELD : Addr) (w_GET_STATIC : Addr) (w_INVOKE_SPECIAL : Addr) (w_INVOKE_VIRTUAL : Addr)  : Value := if p0 < (1 : Int32) then (.null : Value) else if (9 : Int32) < p0 then (.null : Value) else ((tab (p0 - (1 : Int32)) w_BY_NUMBER w_PUT_STATIC w_INVOKE_STATIC w_NEW_INVOKE_SPECIAL w_PUT_FIELD w_INVOKE_INTERFACE w_GET_FIELD w_GET_STATIC w_INVOKE_SPECIAL w_INVOKE_VIRTUAL) : Value)
theorem v1_ref (p0 : Int32) (w_BY_NUMBER : Addr) (w_PUT_STATIC : Addr) (w_INVOKE_STATIC : Addr) (w_NEW_INVOKE_SPECIAL : Addr) (w_PUT_FIELD : Addr) (w_INVOKE_INTERFACE : Addr) (w_GET_FIELD : Addr) (w_GET_STATIC : Addr) (w_INVOKE_SPECIAL : Addr) (w_INVOKE_VIRTUAL : Addr) : (v1 p0 w_BY_NUMBER w_PUT_STATIC w_INVOKE_STATIC w_NEW_INVOKE_SPECIAL w_PUT_FIELD w_INVOKE_INTERFACE w_GET_FIELD w_GET_STATIC w_INVOKE_SPECIAL w_INVOKE_VIRTUAL).isRef = true := own_ite_ref rfl (own_ite_ref rfl ((tab_ref _ _ _ _ _ _ _ _ _ _ _)))
set_option maxRecDepth 65536 in
set_option maxHeartbeats 40000000 in
theorem rm1 (l : Launch) (Z : State) (ar0 : Array Value) (hw : ∀ d ∈ tables_1, d.before ar0 Z = true) (ws : List Jvm.Cond) (p0 : Int32) (w_BY_NUMBER : Addr) (c_BY_NUMBER : Cell) (w_PUT_STATIC : Addr) (w_INVOKE_STATIC : Addr) (w_NEW_INVOKE_SPECIAL : Addr) (w_PUT_FIELD : Addr) (w_INVOKE_INTERFACE : Addr) (w_GET_FIELD : Addr) (w_GET_STATIC : Addr) (w_INVOKE_SPECIAL : Addr) (w_INVOKE_VIRTUAL : Addr) (h0 : Heap) (n0 : Nat) (Z0 : n0 ≤ h0.size) (F : Fx Z h0 w_BY_NUMBER c_BY_NUMBER w_PUT_STATIC w_INVOKE_STATIC w_NEW_INVOKE_SPECIAL w_PUT_FIELD w_INVOKE_INTERFACE w_GET_FIELD w_GET_STATIC w_INVOKE_SPECIAL w_INVOKE_VIRTUAL)  (r : Value) (hre : r = v1 p0 w_BY_NUMBER w_PUT_STATIC w_INVOKE_STATIC w_NEW_INVOKE_SPECIAL w_PUT_FIELD w_INVOKE_INTERFACE w_GET_FIELD w_GET_STATIC w_INVOKE_SPECIAL w_INVOKE_VIRTUAL) :
    MetFree l (⟨"com/example/cafelens/cafelens/ReferenceKind", "of", "(I)Lcom/example/cafelens/cafelens/ReferenceKind;"⟩ : MethodName) (head1 ((Jvm.Cond.code (⟨"com/example/cafelens/cafelens/ReferenceKind", "of", "(I)Lcom/example/cafelens/cafelens/ReferenceKind;"⟩ : MethodName) prog_88_method_7_code 1 (some (.object "com/example/cafelens/cafelens/ReferenceKind"))) :: ws) ({ frames := 0, cells := 0, slots := 0, locals := 0 } : Room)) (fun a U => a = #[(.int p0)] ∧ Z.Warmed39 U.vm ∧ U.heap = h0) (fun _ _ _ _ _ => True) (fun _ U o U' => ∃ v L, o = .returned v ∧ Qp (some r) h0 n0 v U'.heap L ∧ FrameEnd U o U' L ({ frames := 0, cells := 0, slots := 0, locals := 0 } : Room).cells ({ frames := 0, cells := 0, slots := 0, locals := 0 } : Room).slots) := by
  obtain ⟨S_BY_NUMBER, A_BY_NUMBER, L_BY_NUMBER, S_PUT_STATIC, E_PUT_STATIC, T_BY_NUMBER_3, F_number_PUT_STATIC, S_INVOKE_STATIC, E_INVOKE_STATIC, T_BY_NUMBER_5, F_number_INVOKE_STATIC, S_NEW_INVOKE_SPECIAL, E_NEW_INVOKE_SPECIAL, T_BY_NUMBER_7, F_number_NEW_INVOKE_SPECIAL, S_PUT_FIELD, E_PUT_FIELD, T_BY_NUMBER_2, F_number_PUT_FIELD, S_INVOKE_INTERFACE, E_INVOKE_INTERFACE, T_BY_NUMBER_8, F_number_INVOKE_INTERFACE, S_GET_FIELD, E_GET_FIELD, T_BY_NUMBER_0, F_number_GET_FIELD, S_GET_STATIC, E_GET_STATIC, T_BY_NUMBER_1, F_number_GET_STATIC, S_INVOKE_SPECIAL, E_INVOKE_SPECIAL, T_BY_NUMBER_6, F_number_INVOKE_SPECIAL, S_INVOKE_VIRTUAL, E_INVOKE_VIRTUAL, T_BY_NUMBER_4, F_number_INVOKE_VIRTUAL⟩ := id F
  refine MetFree.of_bodySF (plainFor_of_name pn_1) hisR ?_
  intro p e s m args below meth c s₁ Bd hml0 hP hK
  obtain ⟨rfl, hZ, hh⟩ := hP
  have hx := Bd.exec
  have hby := Bd.bytes
  have hml : c.maxLocals = 1 := hml0
  have hown : s.vm.findClass "com/example/cafelens/cafelens/ReferenceKind" = some m.cls := findClass_of_methodNamed Bd.named
  have X0 : Stand p l e ({ frames := 0, cells := 0, slots := 0, locals := 0 } : Room) s m #[(.int p0)] below meth c s₁ [] 0 0 := Stand.of_body Bd
  have e0 : s₁.heap = h0 := by rw [← hh, Bd.state]; rfl
  have N0 := Fr.nil n0
  have pre0 : ∀ t, Steps p.tables e below (s₁.setTop (mkF m 0 #[.val (.int p0)] [])) t → Steps p.tables e below (s₁.setTop (entryFrame m #[(.int p0)] 1)) t := fun t k => castTop (ef_1 m p0) k
  have pre1 : ∀ t, Steps p.tables e below (s₁.setTop (mkF m 2 #[.val (.int p0)] [(.int (1 : Int32)), (.int p0)])) t → Steps p.tables e below (s₁.setTop (entryFrame m #[(.int p0)] 1)) t := by
    intro t k
    refine pre0 _ ?_
    show Steps p.tables e below (s₁.setTop (mkF m 0 #[.val (.int p0)] [])) _
    refine XS.iloadN X0.here hx rfl (hb hby d1_0) rfl ?_
    show Steps p.tables e below (s₁.setTop (mkF m 1 #[.val (.int p0)] [(.int p0)])) _
    refine XS.iconst X0.here hx rfl (hb hby d1_1) ?_
    exact k
  by_cases hc2 : p0 < (1 : Int32)
  ·
    have hv : (some r : Option Value) = some .null := by rw [hre]; unfold v1; rw [if_pos hc2]
    rw [hv]
    obtain ⟨fs, hr, hrun, hended, hW, hsame⟩ := X0.leave (v := some .null) (fun h => by rw [Bd.returns] at h; cases h)
    refine ⟨_, _, pre1 _ ?_, hrun, hended, _, _, rfl, ?_, ⟨_, rfl⟩, hW, hsame.mono (by decide) (by decide)⟩
    · show Steps p.tables e below (s₁.setTop (mkF m 2 #[.val (.int p0)] [(.int (1 : Int32)), (.int p0)])) _
      refine XS.icmpYes X0.here hx rfl (pc0 := 2) (pc' := 23) rfl (hb hby d1_2) rfl (tlt hc2).1 (by decide) (by decide) ?_
      show Steps p.tables e below (s₁.setTop (mkF m 23 #[.val (.int p0)] [])) _
      refine XS.aconstNull X0.here hx rfl (hb hby d1_23) ?_
      show Steps p.tables e below (s₁.setTop (mkF m 24 #[.val (.int p0)] [.null])) _
      exact retOut X0 hx Bd.returns rfl (Or.inr (Or.inr (Or.inr (Or.inr ⟨rfl, rfl, rfl⟩)))) (hb hby d1_24) hr
    · show Qp (some .null) h0 n0 _ s₁.heap _
      rw [e0]
      exact ⟨rfl, N0, rfl⟩
  ·
    obtain ⟨T3, X3, e3, st3⟩ := getS2 X0 hx hZ hown (host := "") (Or.inl (hw _ (List.mem_of_getElem? (i := 8) rfl))) Via.refl e0 S_BY_NUMBER (g := (mkF m 6 #[.val (.int p0)] [(.int p0)])) rfl (hb hby d1_6)
    have pre4 : ∀ t, Steps p.tables e below (T3.setTop (mkF m 10 #[.val (.int p0)] [(.int (9 : Int32)), (.int p0)])) t → Steps p.tables e below (s₁.setTop (entryFrame m #[(.int p0)] 1)) t := by
      intro t k
      refine pre1 _ ?_
      show Steps p.tables e below (s₁.setTop (mkF m 2 #[.val (.int p0)] [(.int (1 : Int32)), (.int p0)])) _
      refine XS.icmpNo X0.here hx rfl (hb hby d1_2) rfl (flt hc2).1 ?_
      show Steps p.tables e below (s₁.setTop (mkF m 5 #[.val (.int p0)] [])) _
      refine XS.iloadN X0.here hx rfl (hb hby d1_5) rfl ?_
      show Steps p.tables e below (s₁.setTop (mkF m 6 #[.val (.int p0)] [(.int p0)])) _
      refine st3 _ ?_
      show Steps p.tables e below (T3.setTop (mkF m 9 #[.val (.int p0)] [(.ref w_BY_NUMBER), (.int p0)])) _
      refine X3.arraylength hx (by rw [e3]; exact A_BY_NUMBER.1) (State.isArrayOf_alike hZ.alike A_BY_NUMBER.2.1) (g := (mkF m 9 #[.val (.int p0)] [(.ref w_BY_NUMBER), (.int p0)])) rfl rfl (hb hby d1_9) _ ?_
      rw [show c_BY_NUMBER.slots.size.toInt32 = (9 : Int32) from by rw [L_BY_NUMBER]; rfl]
      exact k
    by_cases hc5 : (9 : Int32) < p0
    ·
      have hv : (some r : Option Value) = some .null := by rw [hre]; unfold v1; rw [if_neg hc2, if_pos hc5]
      rw [hv]
      obtain ⟨fs, hr, hrun, hended, hW, hsame⟩ := X3.leave (v := some .null) (fun h => by rw [Bd.returns] at h; cases h)
      refine ⟨_, _, pre4 _ ?_, hrun, hended, _, _, rfl, ?_, ⟨_, rfl⟩, hW, hsame.mono (by decide) (by decide)⟩
      · show Steps p.tables e below (T3.setTop (mkF m 10 #[.val (.int p0)] [(.int (9 : Int32)), (.int p0)])) _
        refine XS.icmpYes X3.here hx rfl (pc0 := 10) (pc' := 23) rfl (hb hby d1_10) rfl (tlt hc5).2.2.1 (by decide) (by decide) ?_
        show Steps p.tables e below (T3.setTop (mkF m 23 #[.val (.int p0)] [])) _
        refine XS.aconstNull X3.here hx rfl (hb hby d1_23) ?_
        show Steps p.tables e below (T3.setTop (mkF m 24 #[.val (.int p0)] [.null])) _
        exact retOut X3 hx Bd.returns rfl (Or.inr (Or.inr (Or.inr (Or.inr ⟨rfl, rfl, rfl⟩)))) (hb hby d1_24) hr
      · show Qp (some .null) h0 n0 _ T3.heap _
        rw [e3]
        exact ⟨rfl, N0, rfl⟩
    ·
      obtain ⟨T6, X6, e6, st6⟩ := getS2 X3 hx hZ hown (host := "") (Or.inl (hw _ (List.mem_of_getElem? (i := 8) rfl))) Via.refl e3 S_BY_NUMBER (g := (mkF m 13 #[.val (.int p0)] [])) rfl (hb hby d1_13)
      have hin19 : ¬ ((p0 - (1 : Int32)) < 0 ∨ c_BY_NUMBER.slots.size ≤ ((p0 - (1 : Int32))).toNatClampNeg) := own_in L_BY_NUMBER hc2 hc5
      have hat19 : c_BY_NUMBER.slots[((p0 - (1 : Int32))).toNatClampNeg]? = some (tab (p0 - (1 : Int32)) w_BY_NUMBER w_PUT_STATIC w_INVOKE_STATIC w_NEW_INVOKE_SPECIAL w_PUT_FIELD w_INVOKE_INTERFACE w_GET_FIELD w_GET_STATIC w_INVOKE_SPECIAL w_INVOKE_VIRTUAL) := own_tab F hc2 hc5
      have hv : (some r : Option Value) = some (tab (p0 - (1 : Int32)) w_BY_NUMBER w_PUT_STATIC w_INVOKE_STATIC w_NEW_INVOKE_SPECIAL w_PUT_FIELD w_INVOKE_INTERFACE w_GET_FIELD w_GET_STATIC w_INVOKE_SPECIAL w_INVOKE_VIRTUAL) := by rw [hre]; unfold v1; rw [if_neg hc2, if_neg hc5]
      rw [hv]
      obtain ⟨fs, hr, hrun, hended, hW, hsame⟩ := X6.leave (v := some (tab (p0 - (1 : Int32)) w_BY_NUMBER w_PUT_STATIC w_INVOKE_STATIC w_NEW_INVOKE_SPECIAL w_PUT_FIELD w_INVOKE_INTERFACE w_GET_FIELD w_GET_STATIC w_INVOKE_SPECIAL w_INVOKE_VIRTUAL)) (fun h => by rw [Bd.returns] at h; cases h)
      refine ⟨_, _, pre4 _ ?_, hrun, hended, _, _, rfl, ?_, ⟨_, rfl⟩, hW, hsame.mono (by decide) (by decide)⟩
      · show Steps p.tables e below (T3.setTop (mkF m 10 #[.val (.int p0)] [(.int (9 : Int32)), (.int p0)])) _
        refine XS.icmpNo X3.here hx rfl (hb hby d1_10) rfl (flt hc5).2.2.1 ?_
        show Steps p.tables e below (T3.setTop (mkF m 13 #[.val (.int p0)] [])) _
        refine st6 _ ?_
        show Steps p.tables e below (T6.setTop (mkF m 16 #[.val (.int p0)] [(.ref w_BY_NUMBER)])) _
        refine XS.iloadN X6.here hx rfl (hb hby d1_16) rfl ?_
        show Steps p.tables e below (T6.setTop (mkF m 17 #[.val (.int p0)] [(.int p0), (.ref w_BY_NUMBER)])) _
        refine XS.iconst X6.here hx rfl (hb hby d1_17) ?_
        show Steps p.tables e below (T6.setTop (mkF m 18 #[.val (.int p0)] [(.int (1 : Int32)), (.int p0), (.ref w_BY_NUMBER)])) _
        refine XS.isub X6.here hx rfl (hb hby d1_18) rfl ?_
        show Steps p.tables e below (T6.setTop (mkF m 19 #[.val (.int p0)] [(.int (p0 - (1 : Int32))), (.ref w_BY_NUMBER)])) _
        refine X6.aaload hx (j := (p0 - (1 : Int32))) (v := (tab (p0 - (1 : Int32)) w_BY_NUMBER w_PUT_STATIC w_INVOKE_STATIC w_NEW_INVOKE_SPECIAL w_PUT_FIELD w_INVOKE_INTERFACE w_GET_FIELD w_GET_STATIC w_INVOKE_SPECIAL w_INVOKE_VIRTUAL)) (by rw [e6]; exact A_BY_NUMBER.1) (State.isArrayOf_alike hZ.alike A_BY_NUMBER.2.1) rfl A_BY_NUMBER.2.2 hin19 hat19 (g := (mkF m 19 #[.val (.int p0)] [(.int (p0 - (1 : Int32))), (.ref w_BY_NUMBER)])) rfl rfl (hb hby d1_19) _ ?_
        show Steps p.tables e below (T6.setTop (mkF m 20 #[.val (.int p0)] [(tab (p0 - (1 : Int32)) w_BY_NUMBER w_PUT_STATIC w_INVOKE_STATIC w_NEW_INVOKE_SPECIAL w_PUT_FIELD w_INVOKE_INTERFACE w_GET_FIELD w_GET_STATIC w_INVOKE_SPECIAL w_INVOKE_VIRTUAL)])) _
        refine XS.goto X6.here hx rfl (pc0 := 20) (pc' := 24) rfl (hb hby d1_20) (by decide) (by decide) ?_
        show Steps p.tables e below (T6.setTop (mkF m 24 #[.val (.int p0)] [(tab (p0 - (1 : Int32)) w_BY_NUMBER w_PUT_STATIC w_INVOKE_STATIC w_NEW_INVOKE_SPECIAL w_PUT_FIELD w_INVOKE_INTERFACE w_GET_FIELD w_GET_STATIC w_INVOKE_SPECIAL w_INVOKE_VIRTUAL)])) _
        exact retOut X6 hx Bd.returns (nar_ref _ _ (tab_ref _ _ _ _ _ _ _ _ _ _ _)) (Or.inr (Or.inr (Or.inr (Or.inr ⟨rfl, rfl, (tab_ref _ _ _ _ _ _ _ _ _ _ _)⟩)))) (hb hby d1_24) hr
      · show Qp (some (tab (p0 - (1 : Int32)) w_BY_NUMBER w_PUT_STATIC w_INVOKE_STATIC w_NEW_INVOKE_SPECIAL w_PUT_FIELD w_INVOKE_INTERFACE w_GET_FIELD w_GET_STATIC w_INVOKE_SPECIAL w_INVOKE_VIRTUAL)) h0 n0 _ T6.heap _
        rw [e6]
        exact ⟨rfl, N0, rfl⟩

theorem d2_0 : decode method_2_code 0 = .ok (.iload_n 0, 1) := by decide +kernel
theorem d2_1 : decode method_2_code 1 = .ok (.iconst 1, 1) := by decide +kernel
theorem d2_2 : decode method_2_code 2 = .ok (.if_icmp .ne 7, 3) := by decide +kernel
theorem d2_5 : decode method_2_code 5 = .ok (.getstatic 7, 3) := by decide +kernel
theorem d2_8 : decode method_2_code 8 = .ok (.areturn, 1) := by decide +kernel
theorem d2_9 : decode method_2_code 9 = .ok (.iload_n 0, 1) := by decide +kernel
theorem d2_10 : decode method_2_code 10 = .ok (.iconst 2, 1) := by decide +kernel
theorem d2_11 : decode method_2_code 11 = .ok (.if_icmp .ne 7, 3) := by decide +kernel
theorem d2_14 : decode method_2_code 14 = .ok (.getstatic 13, 3) := by decide +kernel
theorem d2_17 : decode method_2_code 17 = .ok (.areturn, 1) := by decide +kernel
theorem d2_18 : decode method_2_code 18 = .ok (.iload_n 0, 1) := by decide +kernel
theorem d2_19 : decode method_2_code 19 = .ok (.iconst 3, 1) := by decide +kernel
theorem d2_20 : decode method_2_code 20 = .ok (.if_icmp .ne 7, 3) := by decide +kernel
theorem d2_23 : decode method_2_code 23 = .ok (.getstatic 16, 3) := by decide +kernel
theorem d2_26 : decode method_2_code 26 = .ok (.areturn, 1) := by decide +kernel
theorem d2_27 : decode method_2_code 27 = .ok (.iload_n 0, 1) := by decide +kernel
theorem d2_28 : decode method_2_code 28 = .ok (.iconst 4, 1) := by decide +kernel
theorem d2_29 : decode method_2_code 29 = .ok (.if_icmp .ne 7, 3) := by decide +kernel
theorem d2_32 : decode method_2_code 32 = .ok (.getstatic 19, 3) := by decide +kernel
theorem d2_35 : decode method_2_code 35 = .ok (.areturn, 1) := by decide +kernel
theorem d2_36 : decode method_2_code 36 = .ok (.iload_n 0, 1) := by decide +kernel
theorem d2_37 : decode method_2_code 37 = .ok (.iconst 5, 1) := by decide +kernel
theorem d2_38 : decode method_2_code 38 = .ok (.if_icmp .ne 7, 3) := by decide +kernel
theorem d2_41 : decode method_2_code 41 = .ok (.getstatic 22, 3) := by decide +kernel
theorem d2_44 : decode method_2_code 44 = .ok (.areturn, 1) := by decide +kernel
theorem d2_45 : decode method_2_code 45 = .ok (.iload_n 0, 1) := by decide +kernel
theorem d2_46 : decode method_2_code 46 = .ok (.bipush 6, 2) := by decide +kernel
theorem d2_48 : decode method_2_code 48 = .ok (.if_icmp .ne 7, 3) := by decide +kernel
theorem d2_51 : decode method_2_code 51 = .ok (.getstatic 25, 3) := by decide +kernel
theorem d2_54 : decode method_2_code 54 = .ok (.areturn, 1) := by decide +kernel
theorem d2_55 : decode method_2_code 55 = .ok (.iload_n 0, 1) := by decide +kernel
theorem d2_56 : decode method_2_code 56 = .ok (.bipush 7, 2) := by decide +kernel
theorem d2_58 : decode method_2_code 58 = .ok (.if_icmp .ne 7, 3) := by decide +kernel
theorem d2_61 : decode method_2_code 61 = .ok (.getstatic 28, 3) := by decide +kernel
theorem d2_64 : decode method_2_code 64 = .ok (.areturn, 1) := by decide +kernel
theorem d2_65 : decode method_2_code 65 = .ok (.iload_n 0, 1) := by decide +kernel
theorem d2_66 : decode method_2_code 66 = .ok (.bipush 8, 2) := by decide +kernel
theorem d2_68 : decode method_2_code 68 = .ok (.if_icmp .ne 7, 3) := by decide +kernel
theorem d2_71 : decode method_2_code 71 = .ok (.getstatic 31, 3) := by decide +kernel
theorem d2_74 : decode method_2_code 74 = .ok (.areturn, 1) := by decide +kernel
theorem d2_75 : decode method_2_code 75 = .ok (.iload_n 0, 1) := by decide +kernel
theorem d2_76 : decode method_2_code 76 = .ok (.bipush 9, 2) := by decide +kernel
theorem d2_78 : decode method_2_code 78 = .ok (.if_icmp .ne 7, 3) := by decide +kernel
theorem d2_81 : decode method_2_code 81 = .ok (.getstatic 34, 3) := by decide +kernel
theorem d2_84 : decode method_2_code 84 = .ok (.areturn, 1) := by decide +kernel
theorem d2_85 : decode method_2_code 85 = .ok (.aconst_null, 1) := by decide +kernel
theorem d2_86 : decode method_2_code 86 = .ok (.areturn, 1) := by decide +kernel
theorem pn_2 : plainName "com/example/cafelens/cafelens/ReferenceKindOfPinLaw" = true := by first | (simp [plainName, overriddenIn]; done) | decide +kernel
theorem ef_2 (m : MethodId) (p0 : Int32) : entryFrame m #[(.int p0)] 1 = mkF m 0 #[.val (.int p0)] [] := by first | (simp [entryFrame, mkF, argsToLocals, Value.category]; done) | rfl
def v2 (p0 : Int32) (w_BY_NUMBER : Addr) (w_PUT_STATIC : Addr) (w_INVOKE_STATIC : Addr) (w_NEW_INVOKE_SPECIAL : Addr) (w_PUT_FIELD : Addr) (w_INVOKE_INTERFACE : Addr) (w_GET_FIELD : Addr) (w_GET_STATIC : Addr) (w_INVOKE_SPECIAL : Addr) (w_INVOKE_VIRTUAL : Addr)  : Value := if p0 = (1 : Int32) then ((.ref w_GET_FIELD) : Value) else if p0 = (2 : Int32) then ((.ref w_GET_STATIC) : Value) else if p0 = (3 : Int32) then ((.ref w_PUT_FIELD) : Value) else if p0 = (4 : Int32) then ((.ref w_PUT_STATIC) : Value) else if p0 = (5 : Int32) then ((.ref w_INVOKE_VIRTUAL) : Value) else if p0 = (6 : Int32) then ((.ref w_INVOKE_STATIC) : Value) else if p0 = (7 : Int32) then ((.ref w_INVOKE_SPECIAL) : Value) else if p0 = (8 : Int32) then ((.ref w_NEW_INVOKE_SPECIAL) : Value) else if p0 = (9 : Int32) then ((.ref w_INVOKE_INTERFACE) : Value) else (.null : Value)
theorem v2_ref (p0 : Int32) (w_BY_NUMBER : Addr) (w_PUT_STATIC : Addr) (w_INVOKE_STATIC : Addr) (w_NEW_INVOKE_SPECIAL : Addr) (w_PUT_FIELD : Addr) (w_INVOKE_INTERFACE : Addr) (w_GET_FIELD : Addr) (w_GET_STATIC : Addr) (w_INVOKE_SPECIAL : Addr) (w_INVOKE_VIRTUAL : Addr) : (v2 p0 w_BY_NUMBER w_PUT_STATIC w_INVOKE_STATIC w_NEW_INVOKE_SPECIAL w_PUT_FIELD w_INVOKE_INTERFACE w_GET_FIELD w_GET_STATIC w_INVOKE_SPECIAL w_INVOKE_VIRTUAL).isRef = true := own_ite_ref rfl (own_ite_ref rfl (own_ite_ref rfl (own_ite_ref rfl (own_ite_ref rfl (own_ite_ref rfl (own_ite_ref rfl (own_ite_ref rfl (own_ite_ref rfl (rfl)))))))))
set_option maxRecDepth 65536 in
set_option maxHeartbeats 40000000 in
theorem rm2 (l : Launch) (Z : State) (ar0 : Array Value) (hw : ∀ d ∈ tables_1, d.before ar0 Z = true) (ws : List Jvm.Cond) (p0 : Int32) (w_BY_NUMBER : Addr) (c_BY_NUMBER : Cell) (w_PUT_STATIC : Addr) (w_INVOKE_STATIC : Addr) (w_NEW_INVOKE_SPECIAL : Addr) (w_PUT_FIELD : Addr) (w_INVOKE_INTERFACE : Addr) (w_GET_FIELD : Addr) (w_GET_STATIC : Addr) (w_INVOKE_SPECIAL : Addr) (w_INVOKE_VIRTUAL : Addr) (h0 : Heap) (n0 : Nat) (Z0 : n0 ≤ h0.size) (F : Fx Z h0 w_BY_NUMBER c_BY_NUMBER w_PUT_STATIC w_INVOKE_STATIC w_NEW_INVOKE_SPECIAL w_PUT_FIELD w_INVOKE_INTERFACE w_GET_FIELD w_GET_STATIC w_INVOKE_SPECIAL w_INVOKE_VIRTUAL)  (r : Value) (hre : r = v2 p0 w_BY_NUMBER w_PUT_STATIC w_INVOKE_STATIC w_NEW_INVOKE_SPECIAL w_PUT_FIELD w_INVOKE_INTERFACE w_GET_FIELD w_GET_STATIC w_INVOKE_SPECIAL w_INVOKE_VIRTUAL) :
    MetFree l (⟨"com/example/cafelens/cafelens/ReferenceKindOfPinLaw", "expected", "(I)Lcom/example/cafelens/cafelens/ReferenceKind;"⟩ : MethodName) (head1 ((Jvm.Cond.code (⟨"com/example/cafelens/cafelens/ReferenceKindOfPinLaw", "expected", "(I)Lcom/example/cafelens/cafelens/ReferenceKind;"⟩ : MethodName) method_2_code 1 (some (.object "com/example/cafelens/cafelens/ReferenceKind"))) :: ws) ({ frames := 0, cells := 0, slots := 0, locals := 0 } : Room)) (fun a U => a = #[(.int p0)] ∧ Z.Warmed39 U.vm ∧ U.heap = h0) (fun _ _ _ _ _ => True) (fun _ U o U' => ∃ v L, o = .returned v ∧ Qp (some r) h0 n0 v U'.heap L ∧ FrameEnd U o U' L ({ frames := 0, cells := 0, slots := 0, locals := 0 } : Room).cells ({ frames := 0, cells := 0, slots := 0, locals := 0 } : Room).slots) := by
  obtain ⟨S_BY_NUMBER, A_BY_NUMBER, L_BY_NUMBER, S_PUT_STATIC, E_PUT_STATIC, T_BY_NUMBER_3, F_number_PUT_STATIC, S_INVOKE_STATIC, E_INVOKE_STATIC, T_BY_NUMBER_5, F_number_INVOKE_STATIC, S_NEW_INVOKE_SPECIAL, E_NEW_INVOKE_SPECIAL, T_BY_NUMBER_7, F_number_NEW_INVOKE_SPECIAL, S_PUT_FIELD, E_PUT_FIELD, T_BY_NUMBER_2, F_number_PUT_FIELD, S_INVOKE_INTERFACE, E_INVOKE_INTERFACE, T_BY_NUMBER_8, F_number_INVOKE_INTERFACE, S_GET_FIELD, E_GET_FIELD, T_BY_NUMBER_0, F_number_GET_FIELD, S_GET_STATIC, E_GET_STATIC, T_BY_NUMBER_1, F_number_GET_STATIC, S_INVOKE_SPECIAL, E_INVOKE_SPECIAL, T_BY_NUMBER_6, F_number_INVOKE_SPECIAL, S_INVOKE_VIRTUAL, E_INVOKE_VIRTUAL, T_BY_NUMBER_4, F_number_INVOKE_VIRTUAL⟩ := id F
  refine MetFree.of_bodySF (plainFor_of_name pn_2) hisR ?_
  intro p e s m args below meth c s₁ Bd hml0 hP hK
  obtain ⟨rfl, hZ, hh⟩ := hP
  have hx := Bd.exec
  have hby := Bd.bytes
  have hml : c.maxLocals = 1 := hml0
  have hown : s.vm.findClass "com/example/cafelens/cafelens/ReferenceKindOfPinLaw" = some m.cls := findClass_of_methodNamed Bd.named
  have X0 : Stand p l e ({ frames := 0, cells := 0, slots := 0, locals := 0 } : Room) s m #[(.int p0)] below meth c s₁ [] 0 0 := Stand.of_body Bd
  have e0 : s₁.heap = h0 := by rw [← hh, Bd.state]; rfl
  have N0 := Fr.nil n0
  have pre0 : ∀ t, Steps p.tables e below (s₁.setTop (mkF m 0 #[.val (.int p0)] [])) t → Steps p.tables e below (s₁.setTop (entryFrame m #[(.int p0)] 1)) t := fun t k => castTop (ef_2 m p0) k
  have pre1 : ∀ t, Steps p.tables e below (s₁.setTop (mkF m 2 #[.val (.int p0)] [(.int (1 : Int32)), (.int p0)])) t → Steps p.tables e below (s₁.setTop (entryFrame m #[(.int p0)] 1)) t := by
    intro t k
    refine pre0 _ ?_
    show Steps p.tables e below (s₁.setTop (mkF m 0 #[.val (.int p0)] [])) _
    refine XS.iloadN X0.here hx rfl (hb hby d2_0) rfl ?_
    show Steps p.tables e below (s₁.setTop (mkF m 1 #[.val (.int p0)] [(.int p0)])) _
    refine XS.iconst X0.here hx rfl (hb hby d2_1) ?_
    exact k
  by_cases hc2 : p0 = (1 : Int32)
  ·
    obtain ⟨T3, X3, e3, st3⟩ := getS2 X0 hx hZ hown (host := "") (Or.inl (hw _ (List.mem_of_getElem? (i := 28) rfl))) Via.refl e0 S_GET_FIELD (g := (mkF m 5 #[.val (.int p0)] [])) rfl (hb hby d2_5)
    have hv : (some r : Option Value) = some (.ref w_GET_FIELD) := by rw [hre]; unfold v2; rw [if_pos hc2]
    rw [hv]
    obtain ⟨fs, hr, hrun, hended, hW, hsame⟩ := X3.leave (v := some (.ref w_GET_FIELD)) (fun h => by rw [Bd.returns] at h; cases h)
    refine ⟨_, _, pre1 _ ?_, hrun, hended, _, _, rfl, ?_, ⟨_, rfl⟩, hW, hsame.mono (by decide) (by decide)⟩
    · show Steps p.tables e below (s₁.setTop (mkF m 2 #[.val (.int p0)] [(.int (1 : Int32)), (.int p0)])) _
      refine XS.icmpNo X0.here hx rfl (hb hby d2_2) rfl (teq hc2).2 ?_
      show Steps p.tables e below (s₁.setTop (mkF m 5 #[.val (.int p0)] [])) _
      refine st3 _ ?_
      show Steps p.tables e below (T3.setTop (mkF m 8 #[.val (.int p0)] [(.ref w_GET_FIELD)])) _
      exact retOut X3 hx Bd.returns rfl (Or.inr (Or.inr (Or.inr (Or.inr ⟨rfl, rfl, rfl⟩)))) (hb hby d2_8) hr
    · show Qp (some (.ref w_GET_FIELD)) h0 n0 _ T3.heap _
      rw [e3]
      exact ⟨rfl, N0, rfl⟩
  ·
    have pre4 : ∀ t, Steps p.tables e below (s₁.setTop (mkF m 11 #[.val (.int p0)] [(.int (2 : Int32)), (.int p0)])) t → Steps p.tables e below (s₁.setTop (entryFrame m #[(.int p0)] 1)) t := by
      intro t k
      refine pre1 _ ?_
      show Steps p.tables e below (s₁.setTop (mkF m 2 #[.val (.int p0)] [(.int (1 : Int32)), (.int p0)])) _
      refine XS.icmpYes X0.here hx rfl (pc0 := 2) (pc' := 9) rfl (hb hby d2_2) rfl (feq hc2).2 (by decide) (by decide) ?_
      show Steps p.tables e below (s₁.setTop (mkF m 9 #[.val (.int p0)] [])) _
      refine XS.iloadN X0.here hx rfl (hb hby d2_9) rfl ?_
      show Steps p.tables e below (s₁.setTop (mkF m 10 #[.val (.int p0)] [(.int p0)])) _
      refine XS.iconst X0.here hx rfl (hb hby d2_10) ?_
      exact k
    by_cases hc5 : p0 = (2 : Int32)
    ·
      obtain ⟨T6, X6, e6, st6⟩ := getS2 X0 hx hZ hown (host := "") (Or.inl (hw _ (List.mem_of_getElem? (i := 30) rfl))) Via.refl e0 S_GET_STATIC (g := (mkF m 14 #[.val (.int p0)] [])) rfl (hb hby d2_14)
      have hv : (some r : Option Value) = some (.ref w_GET_STATIC) := by rw [hre]; unfold v2; rw [if_neg hc2, if_pos hc5]
      rw [hv]
      obtain ⟨fs, hr, hrun, hended, hW, hsame⟩ := X6.leave (v := some (.ref w_GET_STATIC)) (fun h => by rw [Bd.returns] at h; cases h)
      refine ⟨_, _, pre4 _ ?_, hrun, hended, _, _, rfl, ?_, ⟨_, rfl⟩, hW, hsame.mono (by decide) (by decide)⟩
      · show Steps p.tables e below (s₁.setTop (mkF m 11 #[.val (.int p0)] [(.int (2 : Int32)), (.int p0)])) _
        refine XS.icmpNo X0.here hx rfl (hb hby d2_11) rfl (teq hc5).2 ?_
        show Steps p.tables e below (s₁.setTop (mkF m 14 #[.val (.int p0)] [])) _
        refine st6 _ ?_
        show Steps p.tables e below (T6.setTop (mkF m 17 #[.val (.int p0)] [(.ref w_GET_STATIC)])) _
        exact retOut X6 hx Bd.returns rfl (Or.inr (Or.inr (Or.inr (Or.inr ⟨rfl, rfl, rfl⟩)))) (hb hby d2_17) hr
      · show Qp (some (.ref w_GET_STATIC)) h0 n0 _ T6.heap _
        rw [e6]
        exact ⟨rfl, N0, rfl⟩
    ·
      have pre7 : ∀ t, Steps p.tables e below (s₁.setTop (mkF m 20 #[.val (.int p0)] [(.int (3 : Int32)), (.int p0)])) t → Steps p.tables e below (s₁.setTop (entryFrame m #[(.int p0)] 1)) t := by
        intro t k
        refine pre4 _ ?_
        show Steps p.tables e below (s₁.setTop (mkF m 11 #[.val (.int p0)] [(.int (2 : Int32)), (.int p0)])) _
        refine XS.icmpYes X0.here hx rfl (pc0 := 11) (pc' := 18) rfl (hb hby d2_11) rfl (feq hc5).2 (by decide) (by decide) ?_
        show Steps p.tables e below (s₁.setTop (mkF m 18 #[.val (.int p0)] [])) _
        refine XS.iloadN X0.here hx rfl (hb hby d2_18) rfl ?_
        show Steps p.tables e below (s₁.setTop (mkF m 19 #[.val (.int p0)] [(.int p0)])) _
        refine XS.iconst X0.here hx rfl (hb hby d2_19) ?_
        exact k
      by_cases hc8 : p0 = (3 : Int32)
      ·
        obtain ⟨T9, X9, e9, st9⟩ := getS2 X0 hx hZ hown (host := "") (Or.inl (hw _ (List.mem_of_getElem? (i := 24) rfl))) Via.refl e0 S_PUT_FIELD (g := (mkF m 23 #[.val (.int p0)] [])) rfl (hb hby d2_23)
        have hv : (some r : Option Value) = some (.ref w_PUT_FIELD) := by rw [hre]; unfold v2; rw [if_neg hc2, if_neg hc5, if_pos hc8]
        rw [hv]
        obtain ⟨fs, hr, hrun, hended, hW, hsame⟩ := X9.leave (v := some (.ref w_PUT_FIELD)) (fun h => by rw [Bd.returns] at h; cases h)
        refine ⟨_, _, pre7 _ ?_, hrun, hended, _, _, rfl, ?_, ⟨_, rfl⟩, hW, hsame.mono (by decide) (by decide)⟩
        · show Steps p.tables e below (s₁.setTop (mkF m 20 #[.val (.int p0)] [(.int (3 : Int32)), (.int p0)])) _
          refine XS.icmpNo X0.here hx rfl (hb hby d2_20) rfl (teq hc8).2 ?_
          show Steps p.tables e below (s₁.setTop (mkF m 23 #[.val (.int p0)] [])) _
          refine st9 _ ?_
          show Steps p.tables e below (T9.setTop (mkF m 26 #[.val (.int p0)] [(.ref w_PUT_FIELD)])) _
          exact retOut X9 hx Bd.returns rfl (Or.inr (Or.inr (Or.inr (Or.inr ⟨rfl, rfl, rfl⟩)))) (hb hby d2_26) hr
        · show Qp (some (.ref w_PUT_FIELD)) h0 n0 _ T9.heap _
          rw [e9]
          exact ⟨rfl, N0, rfl⟩
      ·
        have pre10 : ∀ t, Steps p.tables e below (s₁.setTop (mkF m 29 #[.val (.int p0)] [(.int (4 : Int32)), (.int p0)])) t → Steps p.tables e below (s₁.setTop (entryFrame m #[(.int p0)] 1)) t := by
          intro t k
          refine pre7 _ ?_
          show Steps p.tables e below (s₁.setTop (mkF m 20 #[.val (.int p0)] [(.int (3 : Int32)), (.int p0)])) _
          refine XS.icmpYes X0.here hx rfl (pc0 := 20) (pc' := 27) rfl (hb hby d2_20) rfl (feq hc8).2 (by decide) (by decide) ?_
          show Steps p.tables e below (s₁.setTop (mkF m 27 #[.val (.int p0)] [])) _
          refine XS.iloadN X0.here hx rfl (hb hby d2_27) rfl ?_
          show Steps p.tables e below (s₁.setTop (mkF m 28 #[.val (.int p0)] [(.int p0)])) _
          refine XS.iconst X0.here hx rfl (hb hby d2_28) ?_
          exact k
        by_cases hc11 : p0 = (4 : Int32)
        ·
          obtain ⟨T12, X12, e12, st12⟩ := getS2 X0 hx hZ hown (host := "") (Or.inl (hw _ (List.mem_of_getElem? (i := 11) rfl))) Via.refl e0 S_PUT_STATIC (g := (mkF m 32 #[.val (.int p0)] [])) rfl (hb hby d2_32)
          have hv : (some r : Option Value) = some (.ref w_PUT_STATIC) := by rw [hre]; unfold v2; rw [if_neg hc2, if_neg hc5, if_neg hc8, if_pos hc11]
          rw [hv]
          obtain ⟨fs, hr, hrun, hended, hW, hsame⟩ := X12.leave (v := some (.ref w_PUT_STATIC)) (fun h => by rw [Bd.returns] at h; cases h)
          refine ⟨_, _, pre10 _ ?_, hrun, hended, _, _, rfl, ?_, ⟨_, rfl⟩, hW, hsame.mono (by decide) (by decide)⟩
          · show Steps p.tables e below (s₁.setTop (mkF m 29 #[.val (.int p0)] [(.int (4 : Int32)), (.int p0)])) _
            refine XS.icmpNo X0.here hx rfl (hb hby d2_29) rfl (teq hc11).2 ?_
            show Steps p.tables e below (s₁.setTop (mkF m 32 #[.val (.int p0)] [])) _
            refine st12 _ ?_
            show Steps p.tables e below (T12.setTop (mkF m 35 #[.val (.int p0)] [(.ref w_PUT_STATIC)])) _
            exact retOut X12 hx Bd.returns rfl (Or.inr (Or.inr (Or.inr (Or.inr ⟨rfl, rfl, rfl⟩)))) (hb hby d2_35) hr
          · show Qp (some (.ref w_PUT_STATIC)) h0 n0 _ T12.heap _
            rw [e12]
            exact ⟨rfl, N0, rfl⟩
        ·
          have pre13 : ∀ t, Steps p.tables e below (s₁.setTop (mkF m 38 #[.val (.int p0)] [(.int (5 : Int32)), (.int p0)])) t → Steps p.tables e below (s₁.setTop (entryFrame m #[(.int p0)] 1)) t := by
            intro t k
            refine pre10 _ ?_
            show Steps p.tables e below (s₁.setTop (mkF m 29 #[.val (.int p0)] [(.int (4 : Int32)), (.int p0)])) _
            refine XS.icmpYes X0.here hx rfl (pc0 := 29) (pc' := 36) rfl (hb hby d2_29) rfl (feq hc11).2 (by decide) (by decide) ?_
            show Steps p.tables e below (s₁.setTop (mkF m 36 #[.val (.int p0)] [])) _
            refine XS.iloadN X0.here hx rfl (hb hby d2_36) rfl ?_
            show Steps p.tables e below (s₁.setTop (mkF m 37 #[.val (.int p0)] [(.int p0)])) _
            refine XS.iconst X0.here hx rfl (hb hby d2_37) ?_
            exact k
          by_cases hc14 : p0 = (5 : Int32)
          ·
            obtain ⟨T15, X15, e15, st15⟩ := getS2 X0 hx hZ hown (host := "") (Or.inl (hw _ (List.mem_of_getElem? (i := 34) rfl))) Via.refl e0 S_INVOKE_VIRTUAL (g := (mkF m 41 #[.val (.int p0)] [])) rfl (hb hby d2_41)
            have hv : (some r : Option Value) = some (.ref w_INVOKE_VIRTUAL) := by rw [hre]; unfold v2; rw [if_neg hc2, if_neg hc5, if_neg hc8, if_neg hc11, if_pos hc14]
            rw [hv]
            obtain ⟨fs, hr, hrun, hended, hW, hsame⟩ := X15.leave (v := some (.ref w_INVOKE_VIRTUAL)) (fun h => by rw [Bd.returns] at h; cases h)
            refine ⟨_, _, pre13 _ ?_, hrun, hended, _, _, rfl, ?_, ⟨_, rfl⟩, hW, hsame.mono (by decide) (by decide)⟩
            · show Steps p.tables e below (s₁.setTop (mkF m 38 #[.val (.int p0)] [(.int (5 : Int32)), (.int p0)])) _
              refine XS.icmpNo X0.here hx rfl (hb hby d2_38) rfl (teq hc14).2 ?_
              show Steps p.tables e below (s₁.setTop (mkF m 41 #[.val (.int p0)] [])) _
              refine st15 _ ?_
              show Steps p.tables e below (T15.setTop (mkF m 44 #[.val (.int p0)] [(.ref w_INVOKE_VIRTUAL)])) _
              exact retOut X15 hx Bd.returns rfl (Or.inr (Or.inr (Or.inr (Or.inr ⟨rfl, rfl, rfl⟩)))) (hb hby d2_44) hr
            · show Qp (some (.ref w_INVOKE_VIRTUAL)) h0 n0 _ T15.heap _
              rw [e15]
              exact ⟨rfl, N0, rfl⟩
          ·
            have pre16 : ∀ t, Steps p.tables e below (s₁.setTop (mkF m 48 #[.val (.int p0)] [(.int (6 : Int32)), (.int p0)])) t → Steps p.tables e below (s₁.setTop (entryFrame m #[(.int p0)] 1)) t := by
              intro t k
              refine pre13 _ ?_
              show Steps p.tables e below (s₁.setTop (mkF m 38 #[.val (.int p0)] [(.int (5 : Int32)), (.int p0)])) _
              refine XS.icmpYes X0.here hx rfl (pc0 := 38) (pc' := 45) rfl (hb hby d2_38) rfl (feq hc14).2 (by decide) (by decide) ?_
              show Steps p.tables e below (s₁.setTop (mkF m 45 #[.val (.int p0)] [])) _
              refine XS.iloadN X0.here hx rfl (hb hby d2_45) rfl ?_
              show Steps p.tables e below (s₁.setTop (mkF m 46 #[.val (.int p0)] [(.int p0)])) _
              refine XS.bipush X0.here hx rfl (hb hby d2_46) ?_
              exact k
            by_cases hc17 : p0 = (6 : Int32)
            ·
              obtain ⟨T18, X18, e18, st18⟩ := getS2 X0 hx hZ hown (host := "") (Or.inl (hw _ (List.mem_of_getElem? (i := 20) rfl))) Via.refl e0 S_INVOKE_STATIC (g := (mkF m 51 #[.val (.int p0)] [])) rfl (hb hby d2_51)
              have hv : (some r : Option Value) = some (.ref w_INVOKE_STATIC) := by rw [hre]; unfold v2; rw [if_neg hc2, if_neg hc5, if_neg hc8, if_neg hc11, if_neg hc14, if_pos hc17]
              rw [hv]
              obtain ⟨fs, hr, hrun, hended, hW, hsame⟩ := X18.leave (v := some (.ref w_INVOKE_STATIC)) (fun h => by rw [Bd.returns] at h; cases h)
              refine ⟨_, _, pre16 _ ?_, hrun, hended, _, _, rfl, ?_, ⟨_, rfl⟩, hW, hsame.mono (by decide) (by decide)⟩
              · show Steps p.tables e below (s₁.setTop (mkF m 48 #[.val (.int p0)] [(.int (6 : Int32)), (.int p0)])) _
                refine XS.icmpNo X0.here hx rfl (hb hby d2_48) rfl (teq hc17).2 ?_
                show Steps p.tables e below (s₁.setTop (mkF m 51 #[.val (.int p0)] [])) _
                refine st18 _ ?_
                show Steps p.tables e below (T18.setTop (mkF m 54 #[.val (.int p0)] [(.ref w_INVOKE_STATIC)])) _
                exact retOut X18 hx Bd.returns rfl (Or.inr (Or.inr (Or.inr (Or.inr ⟨rfl, rfl, rfl⟩)))) (hb hby d2_54) hr
              · show Qp (some (.ref w_INVOKE_STATIC)) h0 n0 _ T18.heap _
                rw [e18]
                exact ⟨rfl, N0, rfl⟩
            ·
              have pre19 : ∀ t, Steps p.tables e below (s₁.setTop (mkF m 58 #[.val (.int p0)] [(.int (7 : Int32)), (.int p0)])) t → Steps p.tables e below (s₁.setTop (entryFrame m #[(.int p0)] 1)) t := by
                intro t k
                refine pre16 _ ?_
                show Steps p.tables e below (s₁.setTop (mkF m 48 #[.val (.int p0)] [(.int (6 : Int32)), (.int p0)])) _
                refine XS.icmpYes X0.here hx rfl (pc0 := 48) (pc' := 55) rfl (hb hby d2_48) rfl (feq hc17).2 (by decide) (by decide) ?_
                show Steps p.tables e below (s₁.setTop (mkF m 55 #[.val (.int p0)] [])) _
                refine XS.iloadN X0.here hx rfl (hb hby d2_55) rfl ?_
                show Steps p.tables e below (s₁.setTop (mkF m 56 #[.val (.int p0)] [(.int p0)])) _
                refine XS.bipush X0.here hx rfl (hb hby d2_56) ?_
                exact k
              by_cases hc20 : p0 = (7 : Int32)
              ·
                obtain ⟨T21, X21, e21, st21⟩ := getS2 X0 hx hZ hown (host := "") (Or.inl (hw _ (List.mem_of_getElem? (i := 32) rfl))) Via.refl e0 S_INVOKE_SPECIAL (g := (mkF m 61 #[.val (.int p0)] [])) rfl (hb hby d2_61)
                have hv : (some r : Option Value) = some (.ref w_INVOKE_SPECIAL) := by rw [hre]; unfold v2; rw [if_neg hc2, if_neg hc5, if_neg hc8, if_neg hc11, if_neg hc14, if_neg hc17, if_pos hc20]
                rw [hv]
                obtain ⟨fs, hr, hrun, hended, hW, hsame⟩ := X21.leave (v := some (.ref w_INVOKE_SPECIAL)) (fun h => by rw [Bd.returns] at h; cases h)
                refine ⟨_, _, pre19 _ ?_, hrun, hended, _, _, rfl, ?_, ⟨_, rfl⟩, hW, hsame.mono (by decide) (by decide)⟩
                · show Steps p.tables e below (s₁.setTop (mkF m 58 #[.val (.int p0)] [(.int (7 : Int32)), (.int p0)])) _
                  refine XS.icmpNo X0.here hx rfl (hb hby d2_58) rfl (teq hc20).2 ?_
                  show Steps p.tables e below (s₁.setTop (mkF m 61 #[.val (.int p0)] [])) _
                  refine st21 _ ?_
                  show Steps p.tables e below (T21.setTop (mkF m 64 #[.val (.int p0)] [(.ref w_INVOKE_SPECIAL)])) _
                  exact retOut X21 hx Bd.returns rfl (Or.inr (Or.inr (Or.inr (Or.inr ⟨rfl, rfl, rfl⟩)))) (hb hby d2_64) hr
                · show Qp (some (.ref w_INVOKE_SPECIAL)) h0 n0 _ T21.heap _
                  rw [e21]
                  exact ⟨rfl, N0, rfl⟩
              ·
                have pre22 : ∀ t, Steps p.tables e below (s₁.setTop (mkF m 68 #[.val (.int p0)] [(.int (8 : Int32)), (.int p0)])) t → Steps p.tables e below (s₁.setTop (entryFrame m #[(.int p0)] 1)) t := by
                  intro t k
                  refine pre19 _ ?_
                  show Steps p.tables e below (s₁.setTop (mkF m 58 #[.val (.int p0)] [(.int (7 : Int32)), (.int p0)])) _
                  refine XS.icmpYes X0.here hx rfl (pc0 := 58) (pc' := 65) rfl (hb hby d2_58) rfl (feq hc20).2 (by decide) (by decide) ?_
                  show Steps p.tables e below (s₁.setTop (mkF m 65 #[.val (.int p0)] [])) _
                  refine XS.iloadN X0.here hx rfl (hb hby d2_65) rfl ?_
                  show Steps p.tables e below (s₁.setTop (mkF m 66 #[.val (.int p0)] [(.int p0)])) _
                  refine XS.bipush X0.here hx rfl (hb hby d2_66) ?_
                  exact k
                by_cases hc23 : p0 = (8 : Int32)
                ·
                  obtain ⟨T24, X24, e24, st24⟩ := getS2 X0 hx hZ hown (host := "") (Or.inl (hw _ (List.mem_of_getElem? (i := 22) rfl))) Via.refl e0 S_NEW_INVOKE_SPECIAL (g := (mkF m 71 #[.val (.int p0)] [])) rfl (hb hby d2_71)
                  have hv : (some r : Option Value) = some (.ref w_NEW_INVOKE_SPECIAL) := by rw [hre]; unfold v2; rw [if_neg hc2, if_neg hc5, if_neg hc8, if_neg hc11, if_neg hc14, if_neg hc17, if_neg hc20, if_pos hc23]
                  rw [hv]
                  obtain ⟨fs, hr, hrun, hended, hW, hsame⟩ := X24.leave (v := some (.ref w_NEW_INVOKE_SPECIAL)) (fun h => by rw [Bd.returns] at h; cases h)
                  refine ⟨_, _, pre22 _ ?_, hrun, hended, _, _, rfl, ?_, ⟨_, rfl⟩, hW, hsame.mono (by decide) (by decide)⟩
                  · show Steps p.tables e below (s₁.setTop (mkF m 68 #[.val (.int p0)] [(.int (8 : Int32)), (.int p0)])) _
                    refine XS.icmpNo X0.here hx rfl (hb hby d2_68) rfl (teq hc23).2 ?_
                    show Steps p.tables e below (s₁.setTop (mkF m 71 #[.val (.int p0)] [])) _
                    refine st24 _ ?_
                    show Steps p.tables e below (T24.setTop (mkF m 74 #[.val (.int p0)] [(.ref w_NEW_INVOKE_SPECIAL)])) _
                    exact retOut X24 hx Bd.returns rfl (Or.inr (Or.inr (Or.inr (Or.inr ⟨rfl, rfl, rfl⟩)))) (hb hby d2_74) hr
                  · show Qp (some (.ref w_NEW_INVOKE_SPECIAL)) h0 n0 _ T24.heap _
                    rw [e24]
                    exact ⟨rfl, N0, rfl⟩
                ·
                  have pre25 : ∀ t, Steps p.tables e below (s₁.setTop (mkF m 78 #[.val (.int p0)] [(.int (9 : Int32)), (.int p0)])) t → Steps p.tables e below (s₁.setTop (entryFrame m #[(.int p0)] 1)) t := by
                    intro t k
                    refine pre22 _ ?_
                    show Steps p.tables e below (s₁.setTop (mkF m 68 #[.val (.int p0)] [(.int (8 : Int32)), (.int p0)])) _
                    refine XS.icmpYes X0.here hx rfl (pc0 := 68) (pc' := 75) rfl (hb hby d2_68) rfl (feq hc23).2 (by decide) (by decide) ?_
                    show Steps p.tables e below (s₁.setTop (mkF m 75 #[.val (.int p0)] [])) _
                    refine XS.iloadN X0.here hx rfl (hb hby d2_75) rfl ?_
                    show Steps p.tables e below (s₁.setTop (mkF m 76 #[.val (.int p0)] [(.int p0)])) _
                    refine XS.bipush X0.here hx rfl (hb hby d2_76) ?_
                    exact k
                  by_cases hc26 : p0 = (9 : Int32)
                  ·
                    obtain ⟨T27, X27, e27, st27⟩ := getS2 X0 hx hZ hown (host := "") (Or.inl (hw _ (List.mem_of_getElem? (i := 26) rfl))) Via.refl e0 S_INVOKE_INTERFACE (g := (mkF m 81 #[.val (.int p0)] [])) rfl (hb hby d2_81)
                    have hv : (some r : Option Value) = some (.ref w_INVOKE_INTERFACE) := by rw [hre]; unfold v2; rw [if_neg hc2, if_neg hc5, if_neg hc8, if_neg hc11, if_neg hc14, if_neg hc17, if_neg hc20, if_neg hc23, if_pos hc26]
                    rw [hv]
                    obtain ⟨fs, hr, hrun, hended, hW, hsame⟩ := X27.leave (v := some (.ref w_INVOKE_INTERFACE)) (fun h => by rw [Bd.returns] at h; cases h)
                    refine ⟨_, _, pre25 _ ?_, hrun, hended, _, _, rfl, ?_, ⟨_, rfl⟩, hW, hsame.mono (by decide) (by decide)⟩
                    · show Steps p.tables e below (s₁.setTop (mkF m 78 #[.val (.int p0)] [(.int (9 : Int32)), (.int p0)])) _
                      refine XS.icmpNo X0.here hx rfl (hb hby d2_78) rfl (teq hc26).2 ?_
                      show Steps p.tables e below (s₁.setTop (mkF m 81 #[.val (.int p0)] [])) _
                      refine st27 _ ?_
                      show Steps p.tables e below (T27.setTop (mkF m 84 #[.val (.int p0)] [(.ref w_INVOKE_INTERFACE)])) _
                      exact retOut X27 hx Bd.returns rfl (Or.inr (Or.inr (Or.inr (Or.inr ⟨rfl, rfl, rfl⟩)))) (hb hby d2_84) hr
                    · show Qp (some (.ref w_INVOKE_INTERFACE)) h0 n0 _ T27.heap _
                      rw [e27]
                      exact ⟨rfl, N0, rfl⟩
                  ·
                    have hv : (some r : Option Value) = some .null := by rw [hre]; unfold v2; rw [if_neg hc2, if_neg hc5, if_neg hc8, if_neg hc11, if_neg hc14, if_neg hc17, if_neg hc20, if_neg hc23, if_neg hc26]
                    rw [hv]
                    obtain ⟨fs, hr, hrun, hended, hW, hsame⟩ := X0.leave (v := some .null) (fun h => by rw [Bd.returns] at h; cases h)
                    refine ⟨_, _, pre25 _ ?_, hrun, hended, _, _, rfl, ?_, ⟨_, rfl⟩, hW, hsame.mono (by decide) (by decide)⟩
                    · show Steps p.tables e below (s₁.setTop (mkF m 78 #[.val (.int p0)] [(.int (9 : Int32)), (.int p0)])) _
                      refine XS.icmpYes X0.here hx rfl (pc0 := 78) (pc' := 85) rfl (hb hby d2_78) rfl (feq hc26).2 (by decide) (by decide) ?_
                      show Steps p.tables e below (s₁.setTop (mkF m 85 #[.val (.int p0)] [])) _
                      refine XS.aconstNull X0.here hx rfl (hb hby d2_85) ?_
                      show Steps p.tables e below (s₁.setTop (mkF m 86 #[.val (.int p0)] [.null])) _
                      exact retOut X0 hx Bd.returns rfl (Or.inr (Or.inr (Or.inr (Or.inr ⟨rfl, rfl, rfl⟩)))) (hb hby d2_86) hr
                    · show Qp (some .null) h0 n0 _ s₁.heap _
                      rw [e0]
                      exact ⟨rfl, N0, rfl⟩

theorem d3_0 : decode prog_88_method_4_code 0 = .ok (.aload_n 0, 1) := by decide +kernel
theorem d3_1 : decode prog_88_method_4_code 1 = .ok (.getfield 50, 3) := by decide +kernel
theorem d3_4 : decode prog_88_method_4_code 4 = .ok (.ireturn, 1) := by decide +kernel
theorem pn_3 : plainName "com/example/cafelens/cafelens/ReferenceKind" = true := by first | (simp [plainName, overriddenIn]; done) | decide +kernel
theorem ef_3 (m : MethodId) (a0 : Addr) : entryFrame m #[(.ref a0)] 1 = mkF m 0 #[.val (.ref a0)] [] := by first | (simp [entryFrame, mkF, argsToLocals, Value.category]; done) | rfl
def v3 (a0 : Addr) (w_BY_NUMBER : Addr) (w_PUT_STATIC : Addr) (w_INVOKE_STATIC : Addr) (w_NEW_INVOKE_SPECIAL : Addr) (w_PUT_FIELD : Addr) (w_INVOKE_INTERFACE : Addr) (w_GET_FIELD : Addr) (w_GET_STATIC : Addr) (w_INVOKE_SPECIAL : Addr) (w_INVOKE_VIRTUAL : Addr) (f_number_a0 : Int32) : Int32 := f_number_a0
set_option maxRecDepth 65536 in
set_option maxHeartbeats 40000000 in
theorem rm3 (l : Launch) (Z : State) (ar0 : Array Value) (hw : ∀ d ∈ tables_1, d.before ar0 Z = true) (ws : List Jvm.Cond) (a0 : Addr) (w_BY_NUMBER : Addr) (c_BY_NUMBER : Cell) (w_PUT_STATIC : Addr) (w_INVOKE_STATIC : Addr) (w_NEW_INVOKE_SPECIAL : Addr) (w_PUT_FIELD : Addr) (w_INVOKE_INTERFACE : Addr) (w_GET_FIELD : Addr) (w_GET_STATIC : Addr) (w_INVOKE_SPECIAL : Addr) (w_INVOKE_VIRTUAL : Addr) (h0 : Heap) (n0 : Nat) (Z0 : n0 ≤ h0.size) (F : Fx Z h0 w_BY_NUMBER c_BY_NUMBER w_PUT_STATIC w_INVOKE_STATIC w_NEW_INVOKE_SPECIAL w_PUT_FIELD w_INVOKE_INTERFACE w_GET_FIELD w_GET_STATIC w_INVOKE_SPECIAL w_INVOKE_VIRTUAL) (f_number_a0 : Int32) (F_number_a0 : Fld Z h0 a0 "com/example/cafelens/cafelens/ReferenceKind" "number" "I" (.int f_number_a0)) (r : Int32) (hre : r = v3 a0 w_BY_NUMBER w_PUT_STATIC w_INVOKE_STATIC w_NEW_INVOKE_SPECIAL w_PUT_FIELD w_INVOKE_INTERFACE w_GET_FIELD w_GET_STATIC w_INVOKE_SPECIAL w_INVOKE_VIRTUAL f_number_a0) :
    MetFree l (⟨"com/example/cafelens/cafelens/ReferenceKind", "number", "()I"⟩ : MethodName) (head1 ((Jvm.Cond.code (⟨"com/example/cafelens/cafelens/ReferenceKind", "number", "()I"⟩ : MethodName) prog_88_method_4_code 1 (some .int)) :: ws) ({ frames := 0, cells := 0, slots := 0, locals := 0 } : Room)) (fun a U => a = #[(.ref a0)] ∧ Z.Warmed39 U.vm ∧ U.heap = h0) (fun _ _ _ _ _ => True) (fun _ U o U' => ∃ v L, o = .returned v ∧ Qp (some (.int r)) h0 n0 v U'.heap L ∧ FrameEnd U o U' L ({ frames := 0, cells := 0, slots := 0, locals := 0 } : Room).cells ({ frames := 0, cells := 0, slots := 0, locals := 0 } : Room).slots) := by
  obtain ⟨S_BY_NUMBER, A_BY_NUMBER, L_BY_NUMBER, S_PUT_STATIC, E_PUT_STATIC, T_BY_NUMBER_3, F_number_PUT_STATIC, S_INVOKE_STATIC, E_INVOKE_STATIC, T_BY_NUMBER_5, F_number_INVOKE_STATIC, S_NEW_INVOKE_SPECIAL, E_NEW_INVOKE_SPECIAL, T_BY_NUMBER_7, F_number_NEW_INVOKE_SPECIAL, S_PUT_FIELD, E_PUT_FIELD, T_BY_NUMBER_2, F_number_PUT_FIELD, S_INVOKE_INTERFACE, E_INVOKE_INTERFACE, T_BY_NUMBER_8, F_number_INVOKE_INTERFACE, S_GET_FIELD, E_GET_FIELD, T_BY_NUMBER_0, F_number_GET_FIELD, S_GET_STATIC, E_GET_STATIC, T_BY_NUMBER_1, F_number_GET_STATIC, S_INVOKE_SPECIAL, E_INVOKE_SPECIAL, T_BY_NUMBER_6, F_number_INVOKE_SPECIAL, S_INVOKE_VIRTUAL, E_INVOKE_VIRTUAL, T_BY_NUMBER_4, F_number_INVOKE_VIRTUAL⟩ := id F
  refine MetFree.of_bodySF (plainFor_of_name pn_3) hisR ?_
  intro p e s m args below meth c s₁ Bd hml0 hP hK
  obtain ⟨rfl, hZ, hh⟩ := hP
  have hx := Bd.exec
  have hby := Bd.bytes
  have hml : c.maxLocals = 1 := hml0
  have hown : s.vm.findClass "com/example/cafelens/cafelens/ReferenceKind" = some m.cls := findClass_of_methodNamed Bd.named
  have X0 : Stand p l e ({ frames := 0, cells := 0, slots := 0, locals := 0 } : Room) s m #[(.ref a0)] below meth c s₁ [] 0 0 := Stand.of_body Bd
  have e0 : s₁.heap = h0 := by rw [← hh, Bd.state]; rfl
  have N0 := Fr.nil n0
  have pre0 : ∀ t, Steps p.tables e below (s₁.setTop (mkF m 0 #[.val (.ref a0)] [])) t → Steps p.tables e below (s₁.setTop (entryFrame m #[(.ref a0)] 1)) t := fun t k => castTop (ef_3 m a0) k
  obtain ⟨T1, X1, e1, st1⟩ := getF X0 hx hZ hown (host := "") (Or.inl (hw _ (List.mem_of_getElem? (i := 17) rfl))) Via.refl e0 F_number_a0 (g := (mkF m 1 #[.val (.ref a0)] [(.ref a0)])) rfl rfl (hb hby d3_1)
  have hv : (some (.int r) : Option Value) = some (.int f_number_a0) := by rw [hre]; unfold v3; rfl
  rw [hv]
  obtain ⟨fs, hr, hrun, hended, hW, hsame⟩ := X1.leave (v := some (.int f_number_a0)) (fun h => by rw [Bd.returns] at h; cases h)
  refine ⟨_, _, pre0 _ ?_, hrun, hended, _, _, rfl, ?_, ⟨_, rfl⟩, hW, hsame.mono (by decide) (by decide)⟩
  · show Steps p.tables e below (s₁.setTop (mkF m 0 #[.val (.ref a0)] [])) _
    refine XS.aloadN X0.here hx rfl (hb hby d3_0) rfl rfl ?_
    show Steps p.tables e below (s₁.setTop (mkF m 1 #[.val (.ref a0)] [(.ref a0)])) _
    refine st1 _ ?_
    show Steps p.tables e below (T1.setTop (mkF m 4 #[.val (.ref a0)] [(.int f_number_a0)])) _
    exact retI X1 hx Bd.returns (hb hby d3_4) hr
  · show Qp (some (.int f_number_a0)) h0 n0 _ T1.heap _
    rw [e1]
    exact ⟨rfl, N0, rfl⟩

theorem own_key (p0 : Int32) (w_BY_NUMBER : Addr) (w_PUT_STATIC : Addr) (w_INVOKE_STATIC : Addr) (w_NEW_INVOKE_SPECIAL : Addr) (w_PUT_FIELD : Addr) (w_INVOKE_INTERFACE : Addr) (w_GET_FIELD : Addr) (w_GET_STATIC : Addr) (w_INVOKE_SPECIAL : Addr) (w_INVOKE_VIRTUAL : Addr) : v1 p0 w_BY_NUMBER w_PUT_STATIC w_INVOKE_STATIC w_NEW_INVOKE_SPECIAL w_PUT_FIELD w_INVOKE_INTERFACE w_GET_FIELD w_GET_STATIC w_INVOKE_SPECIAL w_INVOKE_VIRTUAL = v2 p0 w_BY_NUMBER w_PUT_STATIC w_INVOKE_STATIC w_NEW_INVOKE_SPECIAL w_PUT_FIELD w_INVOKE_INTERFACE w_GET_FIELD w_GET_STATIC w_INVOKE_SPECIAL w_INVOKE_VIRTUAL := by
  by_cases h1 : p0 < (1 : Int32)
  · have ne : ∀ k : Int32, ¬ k < 1 → ¬ p0 = k := fun k hk q => hk (q ▸ h1)
    unfold v1 v2
    rw [if_pos h1, if_neg (ne 1 (by decide)), if_neg (ne 2 (by decide)), if_neg (ne 3 (by decide)), if_neg (ne 4 (by decide)), if_neg (ne 5 (by decide)), if_neg (ne 6 (by decide)), if_neg (ne 7 (by decide)), if_neg (ne 8 (by decide)), if_neg (ne 9 (by decide))]
  · by_cases h2 : (9 : Int32) < p0
    · have ne : ∀ k : Int32, ¬ (9 : Int32) < k → ¬ p0 = k := fun k hk q => hk (q ▸ h2)
      unfold v1 v2
      rw [if_neg h1, if_pos h2, if_neg (ne 1 (by decide)), if_neg (ne 2 (by decide)), if_neg (ne 3 (by decide)), if_neg (ne 4 (by decide)), if_neg (ne 5 (by decide)), if_neg (ne 6 (by decide)), if_neg (ne 7 (by decide)), if_neg (ne 8 (by decide)), if_neg (ne 9 (by decide))]
    · rcases own_rng h1 h2 with rfl | rfl | rfl | rfl | rfl | rfl | rfl | rfl | rfl
      all_goals rfl
set_option maxHeartbeats 40000000 in
theorem own_of {Z : State} {h : Heap} {w_BY_NUMBER : Addr} {c_BY_NUMBER : Cell} {w_PUT_STATIC : Addr} {w_INVOKE_STATIC : Addr} {w_NEW_INVOKE_SPECIAL : Addr} {w_PUT_FIELD : Addr} {w_INVOKE_INTERFACE : Addr} {w_GET_FIELD : Addr} {w_GET_STATIC : Addr} {w_INVOKE_SPECIAL : Addr} {w_INVOKE_VIRTUAL : Addr} (F : Fx Z h w_BY_NUMBER c_BY_NUMBER w_PUT_STATIC w_INVOKE_STATIC w_NEW_INVOKE_SPECIAL w_PUT_FIELD w_INVOKE_INTERFACE w_GET_FIELD w_GET_STATIC w_INVOKE_SPECIAL w_INVOKE_VIRTUAL) {p0 : Int32} {b : Addr} (e : Value.ref b = v1 p0 w_BY_NUMBER w_PUT_STATIC w_INVOKE_STATIC w_NEW_INVOKE_SPECIAL w_PUT_FIELD w_INVOKE_INTERFACE w_GET_FIELD w_GET_STATIC w_INVOKE_SPECIAL w_INVOKE_VIRTUAL) : Exa Z h b "com/example/cafelens/cafelens/ReferenceKind" ∧ Fld Z h b "com/example/cafelens/cafelens/ReferenceKind" "number" "I" (.int p0) := by
  obtain ⟨S_BY_NUMBER, A_BY_NUMBER, L_BY_NUMBER, S_PUT_STATIC, E_PUT_STATIC, T_BY_NUMBER_3, F_number_PUT_STATIC, S_INVOKE_STATIC, E_INVOKE_STATIC, T_BY_NUMBER_5, F_number_INVOKE_STATIC, S_NEW_INVOKE_SPECIAL, E_NEW_INVOKE_SPECIAL, T_BY_NUMBER_7, F_number_NEW_INVOKE_SPECIAL, S_PUT_FIELD, E_PUT_FIELD, T_BY_NUMBER_2, F_number_PUT_FIELD, S_INVOKE_INTERFACE, E_INVOKE_INTERFACE, T_BY_NUMBER_8, F_number_INVOKE_INTERFACE, S_GET_FIELD, E_GET_FIELD, T_BY_NUMBER_0, F_number_GET_FIELD, S_GET_STATIC, E_GET_STATIC, T_BY_NUMBER_1, F_number_GET_STATIC, S_INVOKE_SPECIAL, E_INVOKE_SPECIAL, T_BY_NUMBER_6, F_number_INVOKE_SPECIAL, S_INVOKE_VIRTUAL, E_INVOKE_VIRTUAL, T_BY_NUMBER_4, F_number_INVOKE_VIRTUAL⟩ := F
  by_cases h1 : p0 < (1 : Int32)
  · rw [show v1 p0 w_BY_NUMBER w_PUT_STATIC w_INVOKE_STATIC w_NEW_INVOKE_SPECIAL w_PUT_FIELD w_INVOKE_INTERFACE w_GET_FIELD w_GET_STATIC w_INVOKE_SPECIAL w_INVOKE_VIRTUAL = .null from by unfold v1; rw [if_pos h1]] at e; cases e
  · by_cases h2 : (9 : Int32) < p0
    · rw [show v1 p0 w_BY_NUMBER w_PUT_STATIC w_INVOKE_STATIC w_NEW_INVOKE_SPECIAL w_PUT_FIELD w_INVOKE_INTERFACE w_GET_FIELD w_GET_STATIC w_INVOKE_SPECIAL w_INVOKE_VIRTUAL = .null from by unfold v1; rw [if_neg h1, if_pos h2]] at e; cases e
    · rcases own_rng h1 h2 with rfl | rfl | rfl | rfl | rfl | rfl | rfl | rfl | rfl
      · have q : b = w_GET_FIELD := Value.ref.inj e
        rw [q]; exact ⟨E_GET_FIELD, F_number_GET_FIELD⟩
      · have q : b = w_GET_STATIC := Value.ref.inj e
        rw [q]; exact ⟨E_GET_STATIC, F_number_GET_STATIC⟩
      · have q : b = w_PUT_FIELD := Value.ref.inj e
        rw [q]; exact ⟨E_PUT_FIELD, F_number_PUT_FIELD⟩
      · have q : b = w_PUT_STATIC := Value.ref.inj e
        rw [q]; exact ⟨E_PUT_STATIC, F_number_PUT_STATIC⟩
      · have q : b = w_INVOKE_VIRTUAL := Value.ref.inj e
        rw [q]; exact ⟨E_INVOKE_VIRTUAL, F_number_INVOKE_VIRTUAL⟩
      · have q : b = w_INVOKE_STATIC := Value.ref.inj e
        rw [q]; exact ⟨E_INVOKE_STATIC, F_number_INVOKE_STATIC⟩
      · have q : b = w_INVOKE_SPECIAL := Value.ref.inj e
        rw [q]; exact ⟨E_INVOKE_SPECIAL, F_number_INVOKE_SPECIAL⟩
      · have q : b = w_NEW_INVOKE_SPECIAL := Value.ref.inj e
        rw [q]; exact ⟨E_NEW_INVOKE_SPECIAL, F_number_NEW_INVOKE_SPECIAL⟩
      · have q : b = w_INVOKE_INTERFACE := Value.ref.inj e
        rw [q]; exact ⟨E_INVOKE_INTERFACE, F_number_INVOKE_INTERFACE⟩

theorem pn_0 : plainName "com/example/cafelens/cafelens/ReferenceKindOfPinLaw" = true := by first | (simp [plainName, overriddenIn]; done) | decide +kernel
theorem pd_0_16 : parseMethodDescriptor "(I)Lcom/example/cafelens/cafelens/ReferenceKind;" = some ⟨[.int], some (.object "com/example/cafelens/cafelens/ReferenceKind")⟩ := by decide +kernel
theorem pd_0_22 : parseMethodDescriptor "(I)Lcom/example/cafelens/cafelens/ReferenceKind;" = some ⟨[.int], some (.object "com/example/cafelens/cafelens/ReferenceKind")⟩ := by decide +kernel
theorem pd_0_35 : parseMethodDescriptor "()I" = some ⟨[], some .int⟩ := by decide +kernel
theorem ef_0 (m : MethodId) (p0 : Int32) (p1 : Int32) : entryFrame m #[(.int p0), (.int p1)] maxLocals = mkF m 0 #[.val (.int p0), .val (.int p1), .unset, .unset] [] := by first | (simp [entryFrame, mkF, argsToLocals, Value.category, maxLocals]; done) | rfl
set_option maxRecDepth 65536 in
set_option maxHeartbeats 40000000 in
theorem rm0 (l : Launch) (Z : State) (ar0 : Array Value) (hw : ∀ d ∈ tables_1, d.before ar0 Z = true) (ws : List Jvm.Cond) (p0 : Int32) (p1 : Int32) (w_BY_NUMBER : Addr) (c_BY_NUMBER : Cell) (w_PUT_STATIC : Addr) (w_INVOKE_STATIC : Addr) (w_NEW_INVOKE_SPECIAL : Addr) (w_PUT_FIELD : Addr) (w_INVOKE_INTERFACE : Addr) (w_GET_FIELD : Addr) (w_GET_STATIC : Addr) (w_INVOKE_SPECIAL : Addr) (w_INVOKE_VIRTUAL : Addr) (h0 : Heap) (n0 : Nat) (Z0 : n0 ≤ h0.size) (F : Fx Z h0 w_BY_NUMBER c_BY_NUMBER w_PUT_STATIC w_INVOKE_STATIC w_NEW_INVOKE_SPECIAL w_PUT_FIELD w_INVOKE_INTERFACE w_GET_FIELD w_GET_STATIC w_INVOKE_SPECIAL w_INVOKE_VIRTUAL)   :
    MetFree l x (head1 ((Jvm.Cond.code x code maxLocals ret) :: ws) room_1) (fun a U => a = #[(.int p0), (.int p1)] ∧ Z.Warmed39 U.vm ∧ U.heap = h0) (fun _ _ _ _ _ => True) (fun _ U o U' => ∃ v L, o = .returned v ∧ Qp (some (.int (1 : Int32))) h0 n0 v U'.heap L ∧ FrameEnd U o U' L room_1.cells room_1.slots) := by
  obtain ⟨S_BY_NUMBER, A_BY_NUMBER, L_BY_NUMBER, S_PUT_STATIC, E_PUT_STATIC, T_BY_NUMBER_3, F_number_PUT_STATIC, S_INVOKE_STATIC, E_INVOKE_STATIC, T_BY_NUMBER_5, F_number_INVOKE_STATIC, S_NEW_INVOKE_SPECIAL, E_NEW_INVOKE_SPECIAL, T_BY_NUMBER_7, F_number_NEW_INVOKE_SPECIAL, S_PUT_FIELD, E_PUT_FIELD, T_BY_NUMBER_2, F_number_PUT_FIELD, S_INVOKE_INTERFACE, E_INVOKE_INTERFACE, T_BY_NUMBER_8, F_number_INVOKE_INTERFACE, S_GET_FIELD, E_GET_FIELD, T_BY_NUMBER_0, F_number_GET_FIELD, S_GET_STATIC, E_GET_STATIC, T_BY_NUMBER_1, F_number_GET_STATIC, S_INVOKE_SPECIAL, E_INVOKE_SPECIAL, T_BY_NUMBER_6, F_number_INVOKE_SPECIAL, S_INVOKE_VIRTUAL, E_INVOKE_VIRTUAL, T_BY_NUMBER_4, F_number_INVOKE_VIRTUAL⟩ := id F
  refine MetFree.of_bodySF (plainFor_of_name pn_0) hisR ?_
  intro p e s m args below meth c s₁ Bd hml0 hP hK
  obtain ⟨rfl, hZ, hh⟩ := hP
  have hx := Bd.exec
  have hby := Bd.bytes
  have hml : c.maxLocals = 4 := hml0
  have hown : s.vm.findClass "com/example/cafelens/cafelens/ReferenceKindOfPinLaw" = some m.cls := findClass_of_methodNamed Bd.named
  have X0 : Stand p l e room_1 s m #[(.int p0), (.int p1)] below meth c s₁ [] 0 0 := Stand.of_body Bd
  have e0 : s₁.heap = h0 := by rw [← hh, Bd.state]; rfl
  have N0 := Fr.nil n0
  have pre0 : ∀ t, Steps p.tables e below (s₁.setTop (mkF m 0 #[.val (.int p0), .val (.int p1), .unset, .unset] [])) t → Steps p.tables e below (s₁.setTop (entryFrame m #[(.int p0), (.int p1)] maxLocals)) t := fun t k => castTop (ef_0 m p0 p1) k
  have pre1 : ∀ t, Steps p.tables e below (s₁.setTop (mkF m 3 #[.val (.int p0), .val (.int p1), .unset, .unset] [(.int (p1 &&& (1 : Int32)))])) t → Steps p.tables e below (s₁.setTop (entryFrame m #[(.int p0), (.int p1)] maxLocals)) t := by
    intro t k
    refine pre0 _ ?_
    show Steps p.tables e below (s₁.setTop (mkF m 0 #[.val (.int p0), .val (.int p1), .unset, .unset] [])) _
    refine XS.iloadN X0.here hx rfl (hb hby at_0) rfl ?_
    show Steps p.tables e below (s₁.setTop (mkF m 1 #[.val (.int p0), .val (.int p1), .unset, .unset] [(.int p1)])) _
    refine XS.iconst X0.here hx rfl (hb hby at_1) ?_
    show Steps p.tables e below (s₁.setTop (mkF m 2 #[.val (.int p0), .val (.int p1), .unset, .unset] [(.int (1 : Int32)), (.int p1)])) _
    refine XS.iand X0.here hx rfl (hb hby at_2) rfl ?_
    exact k
  by_cases hc2 : (p1 &&& (1 : Int32)) = (0 : Int32)
  ·
    obtain ⟨r3, hr3⟩ : ∃ z, z = v1 (p0 % (12 : Int32)) w_BY_NUMBER w_PUT_STATIC w_INVOKE_STATIC w_NEW_INVOKE_SPECIAL w_PUT_FIELD w_INVOKE_INTERFACE w_GET_FIELD w_GET_STATIC w_INVOKE_SPECIAL w_INVOKE_VIRTUAL := ⟨_, rfl⟩
    obtain ⟨_, _, ⟨T3, L3, k3, n3⟩, -, X3, ⟨Lc3, hQ3, l3, y3, z3⟩, st3⟩ := Jvm.LawKit.callS X0 hx (y := (⟨"com/example/cafelens/cafelens/ReferenceKind", "of", "(I)Lcom/example/cafelens/cafelens/ReferenceKind;"⟩ : MethodName)) hown (mvT hZ (hw _ (List.mem_of_getElem? (i := 0) rfl))) (mvT hZ (hw _ (List.mem_of_getElem? (i := 1) rfl))) (mvT hZ (hw _ (List.mem_of_getElem? (i := 2) rfl))) (mvT hZ (hw _ (List.mem_of_getElem? (i := 3) rfl))) (by decide) (backOf (W := 0) (rm1 l Z ar0 hw [] (p0 % (12 : Int32)) w_BY_NUMBER c_BY_NUMBER w_PUT_STATIC w_INVOKE_STATIC w_NEW_INVOKE_SPECIAL w_PUT_FIELD w_INVOKE_INTERFACE w_GET_FIELD w_GET_STATIC w_INVOKE_SPECIAL w_INVOKE_VIRTUAL h0 n0 Z0 F  r3 hr3) hZ (hw _ (List.mem_of_getElem? (i := 3) rfl)) (hw _ (List.mem_of_getElem? (i := 2) rfl)) (by decide) (by decide)) (g := (mkF m 16 #[.val (.int p0), .val (.int p1), .val (.int (p0 % (12 : Int32))), .unset] [(.int (p0 % (12 : Int32)))])) rfl (by rw [hml]; rfl) (argsL := [(.int (p0 % (12 : Int32)))]) (rest := []) (lenOf pd_0_16 rfl) rfl (by show 2 * 0 + _ ≤ _; exact Nat.le_of_eq rfl) (hb hby at_16) (fun _ _ => ⟨rfl, e0, (by decide : 0 + 0 ≤ _), (by decide : 0 + 0 ≤ _)⟩)
    dsimp only [Pt.U, Pt.locs, Pt.cells, Pt.slots] at X3 l3 y3 z3 st3 hQ3
    subst l3 y3 z3
    obtain ⟨rfl, N3q, e3⟩ := hQ3
    have N3 := Fr.app N0 N3q
    have ir3 : r3.isRef = true := by rw [hr3]; exact v1_ref _ _ _ _ _ _ _ _ _ _ _
    have pre4 : ∀ t, Steps p.tables e below (T3.setTop (mkF m 19 #[.val (.int p0), .val (.int p1), .val (.int (p0 % (12 : Int32))), .unset] [r3])) t → Steps p.tables e below (s₁.setTop (entryFrame m #[(.int p0), (.int p1)] maxLocals)) t := by
      intro t k
      refine pre1 _ ?_
      show Steps p.tables e below (s₁.setTop (mkF m 3 #[.val (.int p0), .val (.int p1), .unset, .unset] [(.int (p1 &&& (1 : Int32)))])) _
      refine XS.ifYes X0.here hx rfl (pc0 := 3) (pc' := 10) rfl (hb hby at_3) rfl ((if0 _ _).trans (teq hc2).1) (by decide) (by decide) ?_
      show Steps p.tables e below (s₁.setTop (mkF m 10 #[.val (.int p0), .val (.int p1), .unset, .unset] [])) _
      refine XS.iloadN X0.here hx rfl (hb hby at_10) rfl ?_
      show Steps p.tables e below (s₁.setTop (mkF m 11 #[.val (.int p0), .val (.int p1), .unset, .unset] [(.int p0)])) _
      refine XS.bipush X0.here hx rfl (hb hby at_11) ?_
      show Steps p.tables e below (s₁.setTop (mkF m 13 #[.val (.int p0), .val (.int p1), .unset, .unset] [(.int (12 : Int32)), (.int p0)])) _
      refine iremM X0 hx rfl (hb hby at_13) rfl (by decide) ?_
      show Steps p.tables e below (s₁.setTop (mkF m 14 #[.val (.int p0), .val (.int p1), .unset, .unset] [(.int (p0 % (12 : Int32)))])) _
      refine XS.istoreN X0.here hx rfl (hb hby at_14) rfl (l' := #[.val (.int p0), .val (.int p1), .val (.int (p0 % (12 : Int32))), .unset]) rfl ?_
      show Steps p.tables e below (s₁.setTop (mkF m 15 #[.val (.int p0), .val (.int p1), .val (.int (p0 % (12 : Int32))), .unset] [])) _
      refine XS.iloadN X0.here hx rfl (hb hby at_15) rfl ?_
      show Steps p.tables e below (s₁.setTop (mkF m 16 #[.val (.int p0), .val (.int p1), .val (.int (p0 % (12 : Int32))), .unset] [(.int (p0 % (12 : Int32)))])) _
      refine st3 _ ?_
      exact k
    rcases ref_cases ir3 with rfl | ⟨br3, rfl⟩
    ·
      obtain ⟨r5, hr5⟩ : ∃ z, z = v2 (p0 % (12 : Int32)) w_BY_NUMBER w_PUT_STATIC w_INVOKE_STATIC w_NEW_INVOKE_SPECIAL w_PUT_FIELD w_INVOKE_INTERFACE w_GET_FIELD w_GET_STATIC w_INVOKE_SPECIAL w_INVOKE_VIRTUAL := ⟨_, rfl⟩
      obtain ⟨_, _, ⟨T5, L5, k5, n5⟩, -, X5, ⟨Lc5, hQ5, l5, y5, z5⟩, st5⟩ := Jvm.LawKit.callS X3 hx (y := (⟨"com/example/cafelens/cafelens/ReferenceKindOfPinLaw", "expected", "(I)Lcom/example/cafelens/cafelens/ReferenceKind;"⟩ : MethodName)) hown (mvT hZ (hw _ (List.mem_of_getElem? (i := 4) rfl))) (mvT hZ (hw _ (List.mem_of_getElem? (i := 5) rfl))) (mvT hZ (hw _ (List.mem_of_getElem? (i := 6) rfl))) (mvT hZ (hw _ (List.mem_of_getElem? (i := 7) rfl))) (by decide) (backOf (W := 1) (rm2 l Z ar0 hw [] (p0 % (12 : Int32)) w_BY_NUMBER c_BY_NUMBER w_PUT_STATIC w_INVOKE_STATIC w_NEW_INVOKE_SPECIAL w_PUT_FIELD w_INVOKE_INTERFACE w_GET_FIELD w_GET_STATIC w_INVOKE_SPECIAL w_INVOKE_VIRTUAL h0 n0 Z0 F  r5 hr5) hZ (hw _ (List.mem_of_getElem? (i := 7) rfl)) (hw _ (List.mem_of_getElem? (i := 6) rfl)) (by decide) (by decide)) (g := (mkF m 22 #[.val (.int p0), .val (.int p1), .val (.int (p0 % (12 : Int32))), .val .null] [(.int (p0 % (12 : Int32))), .null])) rfl (by rw [hml]; rfl) (argsL := [(.int (p0 % (12 : Int32)))]) (rest := [.null]) (lenOf pd_0_22 rfl) rfl (by show 2 * 0 + _ ≤ _; exact Nat.le_of_eq rfl) (hb hby at_22) (fun _ _ => ⟨rfl, e3, (by decide : 0 + 0 ≤ _), (by decide : 0 + 0 ≤ _)⟩)
      dsimp only [Pt.U, Pt.locs, Pt.cells, Pt.slots] at X5 l5 y5 z5 st5 hQ5
      subst l5 y5 z5
      obtain ⟨rfl, N5q, e5⟩ := hQ5
      have N5 := Fr.app N3 N5q
      have ir5 : r5.isRef = true := by rw [hr5]; exact v2_ref _ _ _ _ _ _ _ _ _ _ _
      have hk6 : Value.null = r5 := by rw [hr5, ← own_key _ w_BY_NUMBER w_PUT_STATIC w_INVOKE_STATIC w_NEW_INVOKE_SPECIAL w_PUT_FIELD w_INVOKE_INTERFACE w_GET_FIELD w_GET_STATIC w_INVOKE_SPECIAL w_INVOKE_VIRTUAL]; exact hr3
      obtain ⟨fs, hr, hrun, hended, hW, hsame⟩ := X5.leave (v := some (.int (1 : Int32))) (fun h => by rw [Bd.returns] at h; cases h)
      refine ⟨_, _, pre4 _ ?_, hrun, hended, _, _, rfl, ?_, ⟨_, rfl⟩, hW, hsame.mono (by decide) (by decide)⟩
      · show Steps p.tables e below (T3.setTop (mkF m 19 #[.val (.int p0), .val (.int p1), .val (.int (p0 % (12 : Int32))), .unset] [.null])) _
        refine XS.astoreN X3.here hx rfl (hb hby at_19) rfl rfl (l' := #[.val (.int p0), .val (.int p1), .val (.int (p0 % (12 : Int32))), .val .null]) rfl ?_
        show Steps p.tables e below (T3.setTop (mkF m 20 #[.val (.int p0), .val (.int p1), .val (.int (p0 % (12 : Int32))), .val .null] [])) _
        refine XS.aloadN X3.here hx rfl (hb hby at_20) rfl rfl ?_
        show Steps p.tables e below (T3.setTop (mkF m 21 #[.val (.int p0), .val (.int p1), .val (.int (p0 % (12 : Int32))), .val .null] [.null])) _
        refine XS.iloadN X3.here hx rfl (hb hby at_21) rfl ?_
        show Steps p.tables e below (T3.setTop (mkF m 22 #[.val (.int p0), .val (.int p1), .val (.int (p0 % (12 : Int32))), .val .null] [(.int (p0 % (12 : Int32))), .null])) _
        refine st5 _ ?_
        show Steps p.tables e below (T5.setTop (mkF m 25 #[.val (.int p0), .val (.int p1), .val (.int (p0 % (12 : Int32))), .val .null] [r5, .null])) _
        refine Jvm.RoadKit.acmp (g := (mkF m 25 #[.val (.int p0), .val (.int p1), .val (.int (p0 % (12 : Int32))), .val .null] [r5, .null])) X5 hx rfl rfl ir5 (pc0 := 25) (pc' := 30) (same := true) rfl (hb hby at_25) rfl (decide_eq_true hk6) (by decide) (by decide) ?_
        show Steps p.tables e below (T5.setTop (mkF m 30 #[.val (.int p0), .val (.int p1), .val (.int (p0 % (12 : Int32))), .val .null] [])) _
        refine XS.aloadN X5.here hx rfl (hb hby at_30) rfl rfl ?_
        show Steps p.tables e below (T5.setTop (mkF m 31 #[.val (.int p0), .val (.int p1), .val (.int (p0 % (12 : Int32))), .val .null] [.null])) _
        refine XS.ifnullYes X5.here hx rfl (pc0 := 31) (pc' := 42) rfl (hb hby at_31) rfl (by decide) (by decide) ?_
        show Steps p.tables e below (T5.setTop (mkF m 42 #[.val (.int p0), .val (.int p1), .val (.int (p0 % (12 : Int32))), .val .null] [])) _
        refine XS.iconst X5.here hx rfl (hb hby at_42) ?_
        show Steps p.tables e below (T5.setTop (mkF m 43 #[.val (.int p0), .val (.int p1), .val (.int (p0 % (12 : Int32))), .val .null] [(.int (1 : Int32))])) _
        refine XS.goto X5.here hx rfl (pc0 := 43) (pc' := 47) rfl (hb hby at_43) (by decide) (by decide) ?_
        show Steps p.tables e below (T5.setTop (mkF m 47 #[.val (.int p0), .val (.int p1), .val (.int (p0 % (12 : Int32))), .val .null] [(.int (1 : Int32))])) _
        exact retN X5 hx (t := .boolean) Bd.returns (by simp) (hb hby at_47) hr
      · show Qp (some (.int (1 : Int32))) h0 n0 _ T5.heap _
        rw [e5]
        exact ⟨rfl, N5, rfl⟩
    ·
      obtain ⟨r7, hr7⟩ : ∃ z, z = v2 (p0 % (12 : Int32)) w_BY_NUMBER w_PUT_STATIC w_INVOKE_STATIC w_NEW_INVOKE_SPECIAL w_PUT_FIELD w_INVOKE_INTERFACE w_GET_FIELD w_GET_STATIC w_INVOKE_SPECIAL w_INVOKE_VIRTUAL := ⟨_, rfl⟩
      obtain ⟨_, _, ⟨T7, L7, k7, n7⟩, -, X7, ⟨Lc7, hQ7, l7, y7, z7⟩, st7⟩ := Jvm.LawKit.callS X3 hx (y := (⟨"com/example/cafelens/cafelens/ReferenceKindOfPinLaw", "expected", "(I)Lcom/example/cafelens/cafelens/ReferenceKind;"⟩ : MethodName)) hown (mvT hZ (hw _ (List.mem_of_getElem? (i := 4) rfl))) (mvT hZ (hw _ (List.mem_of_getElem? (i := 5) rfl))) (mvT hZ (hw _ (List.mem_of_getElem? (i := 6) rfl))) (mvT hZ (hw _ (List.mem_of_getElem? (i := 7) rfl))) (by decide) (backOf (W := 1) (rm2 l Z ar0 hw [] (p0 % (12 : Int32)) w_BY_NUMBER c_BY_NUMBER w_PUT_STATIC w_INVOKE_STATIC w_NEW_INVOKE_SPECIAL w_PUT_FIELD w_INVOKE_INTERFACE w_GET_FIELD w_GET_STATIC w_INVOKE_SPECIAL w_INVOKE_VIRTUAL h0 n0 Z0 F  r7 hr7) hZ (hw _ (List.mem_of_getElem? (i := 7) rfl)) (hw _ (List.mem_of_getElem? (i := 6) rfl)) (by decide) (by decide)) (g := (mkF m 22 #[.val (.int p0), .val (.int p1), .val (.int (p0 % (12 : Int32))), .val (.ref br3)] [(.int (p0 % (12 : Int32))), (.ref br3)])) rfl (by rw [hml]; rfl) (argsL := [(.int (p0 % (12 : Int32)))]) (rest := [(.ref br3)]) (lenOf pd_0_22 rfl) rfl (by show 2 * 0 + _ ≤ _; exact Nat.le_of_eq rfl) (hb hby at_22) (fun _ _ => ⟨rfl, e3, (by decide : 0 + 0 ≤ _), (by decide : 0 + 0 ≤ _)⟩)
      dsimp only [Pt.U, Pt.locs, Pt.cells, Pt.slots] at X7 l7 y7 z7 st7 hQ7
      subst l7 y7 z7
      obtain ⟨rfl, N7q, e7⟩ := hQ7
      have N7 := Fr.app N3 N7q
      have ir7 : r7.isRef = true := by rw [hr7]; exact v2_ref _ _ _ _ _ _ _ _ _ _ _
      have hk8 : (Value.ref br3) = r7 := by rw [hr7, ← own_key _ w_BY_NUMBER w_PUT_STATIC w_INVOKE_STATIC w_NEW_INVOKE_SPECIAL w_PUT_FIELD w_INVOKE_INTERFACE w_GET_FIELD w_GET_STATIC w_INVOKE_SPECIAL w_INVOKE_VIRTUAL]; exact hr3
      obtain ⟨r9, hr9⟩ : ∃ z, z = v3 br3 w_BY_NUMBER w_PUT_STATIC w_INVOKE_STATIC w_NEW_INVOKE_SPECIAL w_PUT_FIELD w_INVOKE_INTERFACE w_GET_FIELD w_GET_STATIC w_INVOKE_SPECIAL w_INVOKE_VIRTUAL ((p0 % (12 : Int32))) := ⟨_, rfl⟩
      obtain ⟨cq9, kq9, q9a, q9b, q9c⟩ := isOf hZ e7 (show Exa Z h0 br3 "com/example/cafelens/cafelens/ReferenceKind" from (own_of F hr3).1)
      obtain ⟨_, _, ⟨T9, L9, k9, n9⟩, -, X9, ⟨Lc9, hQ9, l9, y9, z9⟩, st9⟩ := X7.virtualBack hx (y := (⟨"com/example/cafelens/cafelens/ReferenceKind", "number", "()I"⟩ : MethodName)) (z := (⟨"com/example/cafelens/cafelens/ReferenceKind", "number", "()I"⟩ : MethodName)) hown (mvT hZ (hw _ (List.mem_of_getElem? (i := 12) rfl))) (mvT hZ (hw _ (List.mem_of_getElem? (i := 13) rfl))) (notFace_of_selects (args := #[]) (mvT hZ (hw _ (List.mem_of_getElem? (i := 15) rfl)))) (mvT hZ (hw _ (List.mem_of_getElem? (i := 15) rfl))) (mvT hZ (hw _ (List.mem_of_getElem? (i := 14) rfl))) (by decide) (backOf (W := 0) (rm3 l Z ar0 hw [] br3 w_BY_NUMBER c_BY_NUMBER w_PUT_STATIC w_INVOKE_STATIC w_NEW_INVOKE_SPECIAL w_PUT_FIELD w_INVOKE_INTERFACE w_GET_FIELD w_GET_STATIC w_INVOKE_SPECIAL w_INVOKE_VIRTUAL h0 n0 Z0 F ((p0 % (12 : Int32))) ((own_of F hr3).2) r9 hr9) hZ (hw _ (List.mem_of_getElem? (i := 16) rfl)) (hw _ (List.mem_of_getElem? (i := 2) rfl)) (by decide) (by decide)) q9a q9c (g := (mkF m 35 #[.val (.int p0), .val (.int p1), .val (.int (p0 % (12 : Int32))), .val (.ref br3)] [(.ref br3)])) rfl (by rw [hml]; rfl) (Steps.refl _) (argsL := []) (rest := []) (lenOf pd_0_35 rfl) rfl (by show 2 * 0 + _ ≤ _; exact Nat.le_of_eq rfl) (hb hby at_35) (fun _ _ => ⟨rfl, e7, (by decide : 0 + 0 ≤ _), (by decide : 0 + 0 ≤ _)⟩)
      dsimp only [Pt.U, Pt.locs, Pt.cells, Pt.slots] at X9 l9 y9 z9 st9 hQ9
      subst l9 y9 z9
      obtain ⟨rfl, N9q, e9⟩ := hQ9
      have N9 := Fr.app N7 N9q
      have hk10 : r9 = (p0 % (12 : Int32)) := by rw [hr9]; rfl
      obtain ⟨fs, hr, hrun, hended, hW, hsame⟩ := X9.leave (v := some (.int (1 : Int32))) (fun h => by rw [Bd.returns] at h; cases h)
      refine ⟨_, _, pre4 _ ?_, hrun, hended, _, _, rfl, ?_, ⟨_, rfl⟩, hW, hsame.mono (by decide) (by decide)⟩
      · show Steps p.tables e below (T3.setTop (mkF m 19 #[.val (.int p0), .val (.int p1), .val (.int (p0 % (12 : Int32))), .unset] [(.ref br3)])) _
        refine XS.astoreN X3.here hx rfl (hb hby at_19) rfl rfl (l' := #[.val (.int p0), .val (.int p1), .val (.int (p0 % (12 : Int32))), .val (.ref br3)]) rfl ?_
        show Steps p.tables e below (T3.setTop (mkF m 20 #[.val (.int p0), .val (.int p1), .val (.int (p0 % (12 : Int32))), .val (.ref br3)] [])) _
        refine XS.aloadN X3.here hx rfl (hb hby at_20) rfl rfl ?_
        show Steps p.tables e below (T3.setTop (mkF m 21 #[.val (.int p0), .val (.int p1), .val (.int (p0 % (12 : Int32))), .val (.ref br3)] [(.ref br3)])) _
        refine XS.iloadN X3.here hx rfl (hb hby at_21) rfl ?_
        show Steps p.tables e below (T3.setTop (mkF m 22 #[.val (.int p0), .val (.int p1), .val (.int (p0 % (12 : Int32))), .val (.ref br3)] [(.int (p0 % (12 : Int32))), (.ref br3)])) _
        refine st7 _ ?_
        show Steps p.tables e below (T7.setTop (mkF m 25 #[.val (.int p0), .val (.int p1), .val (.int (p0 % (12 : Int32))), .val (.ref br3)] [r7, (.ref br3)])) _
        refine Jvm.RoadKit.acmp (g := (mkF m 25 #[.val (.int p0), .val (.int p1), .val (.int (p0 % (12 : Int32))), .val (.ref br3)] [r7, (.ref br3)])) X7 hx rfl rfl ir7 (pc0 := 25) (pc' := 30) (same := true) rfl (hb hby at_25) rfl (decide_eq_true hk8) (by decide) (by decide) ?_
        show Steps p.tables e below (T7.setTop (mkF m 30 #[.val (.int p0), .val (.int p1), .val (.int (p0 % (12 : Int32))), .val (.ref br3)] [])) _
        refine XS.aloadN X7.here hx rfl (hb hby at_30) rfl rfl ?_
        show Steps p.tables e below (T7.setTop (mkF m 31 #[.val (.int p0), .val (.int p1), .val (.int (p0 % (12 : Int32))), .val (.ref br3)] [(.ref br3)])) _
        refine XS.ifnullNo X7.here hx rfl (hb hby at_31) rfl ?_
        show Steps p.tables e below (T7.setTop (mkF m 34 #[.val (.int p0), .val (.int p1), .val (.int (p0 % (12 : Int32))), .val (.ref br3)] [])) _
        refine XS.aloadN X7.here hx rfl (hb hby at_34) rfl rfl ?_
        show Steps p.tables e below (T7.setTop (mkF m 35 #[.val (.int p0), .val (.int p1), .val (.int (p0 % (12 : Int32))), .val (.ref br3)] [(.ref br3)])) _
        refine st9.trans ?_
        show Steps p.tables e below (T9.setTop (mkF m 38 #[.val (.int p0), .val (.int p1), .val (.int (p0 % (12 : Int32))), .val (.ref br3)] [(.int r9)])) _
        refine XS.iloadN X9.here hx rfl (hb hby at_38) rfl ?_
        show Steps p.tables e below (T9.setTop (mkF m 39 #[.val (.int p0), .val (.int p1), .val (.int (p0 % (12 : Int32))), .val (.ref br3)] [(.int (p0 % (12 : Int32))), (.int r9)])) _
        refine XS.icmpNo X9.here hx rfl (hb hby at_39) rfl (teq hk10).2 ?_
        show Steps p.tables e below (T9.setTop (mkF m 42 #[.val (.int p0), .val (.int p1), .val (.int (p0 % (12 : Int32))), .val (.ref br3)] [])) _
        refine XS.iconst X9.here hx rfl (hb hby at_42) ?_
        show Steps p.tables e below (T9.setTop (mkF m 43 #[.val (.int p0), .val (.int p1), .val (.int (p0 % (12 : Int32))), .val (.ref br3)] [(.int (1 : Int32))])) _
        refine XS.goto X9.here hx rfl (pc0 := 43) (pc' := 47) rfl (hb hby at_43) (by decide) (by decide) ?_
        show Steps p.tables e below (T9.setTop (mkF m 47 #[.val (.int p0), .val (.int p1), .val (.int (p0 % (12 : Int32))), .val (.ref br3)] [(.int (1 : Int32))])) _
        exact retN X9 hx (t := .boolean) Bd.returns (by simp) (hb hby at_47) hr
      · show Qp (some (.int (1 : Int32))) h0 n0 _ T9.heap _
        rw [e9]
        exact ⟨rfl, N9, rfl⟩
  ·
    obtain ⟨r11, hr11⟩ : ∃ z, z = v1 p0 w_BY_NUMBER w_PUT_STATIC w_INVOKE_STATIC w_NEW_INVOKE_SPECIAL w_PUT_FIELD w_INVOKE_INTERFACE w_GET_FIELD w_GET_STATIC w_INVOKE_SPECIAL w_INVOKE_VIRTUAL := ⟨_, rfl⟩
    obtain ⟨_, _, ⟨T11, L11, k11, n11⟩, -, X11, ⟨Lc11, hQ11, l11, y11, z11⟩, st11⟩ := Jvm.LawKit.callS X0 hx (y := (⟨"com/example/cafelens/cafelens/ReferenceKind", "of", "(I)Lcom/example/cafelens/cafelens/ReferenceKind;"⟩ : MethodName)) hown (mvT hZ (hw _ (List.mem_of_getElem? (i := 0) rfl))) (mvT hZ (hw _ (List.mem_of_getElem? (i := 1) rfl))) (mvT hZ (hw _ (List.mem_of_getElem? (i := 2) rfl))) (mvT hZ (hw _ (List.mem_of_getElem? (i := 3) rfl))) (by decide) (backOf (W := 0) (rm1 l Z ar0 hw [] p0 w_BY_NUMBER c_BY_NUMBER w_PUT_STATIC w_INVOKE_STATIC w_NEW_INVOKE_SPECIAL w_PUT_FIELD w_INVOKE_INTERFACE w_GET_FIELD w_GET_STATIC w_INVOKE_SPECIAL w_INVOKE_VIRTUAL h0 n0 Z0 F  r11 hr11) hZ (hw _ (List.mem_of_getElem? (i := 3) rfl)) (hw _ (List.mem_of_getElem? (i := 2) rfl)) (by decide) (by decide)) (g := (mkF m 16 #[.val (.int p0), .val (.int p1), .val (.int p0), .unset] [(.int p0)])) rfl (by rw [hml]; rfl) (argsL := [(.int p0)]) (rest := []) (lenOf pd_0_16 rfl) rfl (by show 2 * 0 + _ ≤ _; exact Nat.le_of_eq rfl) (hb hby at_16) (fun _ _ => ⟨rfl, e0, (by decide : 0 + 0 ≤ _), (by decide : 0 + 0 ≤ _)⟩)
    dsimp only [Pt.U, Pt.locs, Pt.cells, Pt.slots] at X11 l11 y11 z11 st11 hQ11
    subst l11 y11 z11
    obtain ⟨rfl, N11q, e11⟩ := hQ11
    have N11 := Fr.app N0 N11q
    have ir11 : r11.isRef = true := by rw [hr11]; exact v1_ref _ _ _ _ _ _ _ _ _ _ _
    have pre12 : ∀ t, Steps p.tables e below (T11.setTop (mkF m 19 #[.val (.int p0), .val (.int p1), .val (.int p0), .unset] [r11])) t → Steps p.tables e below (s₁.setTop (entryFrame m #[(.int p0), (.int p1)] maxLocals)) t := by
      intro t k
      refine pre1 _ ?_
      show Steps p.tables e below (s₁.setTop (mkF m 3 #[.val (.int p0), .val (.int p1), .unset, .unset] [(.int (p1 &&& (1 : Int32)))])) _
      refine XS.ifNo X0.here hx rfl (hb hby at_3) rfl ((if0 _ _).trans (feq hc2).1) ?_
      show Steps p.tables e below (s₁.setTop (mkF m 6 #[.val (.int p0), .val (.int p1), .unset, .unset] [])) _
      refine XS.iloadN X0.here hx rfl (hb hby at_6) rfl ?_
      show Steps p.tables e below (s₁.setTop (mkF m 7 #[.val (.int p0), .val (.int p1), .unset, .unset] [(.int p0)])) _
      refine XS.goto X0.here hx rfl (pc0 := 7) (pc' := 14) rfl (hb hby at_7) (by decide) (by decide) ?_
      show Steps p.tables e below (s₁.setTop (mkF m 14 #[.val (.int p0), .val (.int p1), .unset, .unset] [(.int p0)])) _
      refine XS.istoreN X0.here hx rfl (hb hby at_14) rfl (l' := #[.val (.int p0), .val (.int p1), .val (.int p0), .unset]) rfl ?_
      show Steps p.tables e below (s₁.setTop (mkF m 15 #[.val (.int p0), .val (.int p1), .val (.int p0), .unset] [])) _
      refine XS.iloadN X0.here hx rfl (hb hby at_15) rfl ?_
      show Steps p.tables e below (s₁.setTop (mkF m 16 #[.val (.int p0), .val (.int p1), .val (.int p0), .unset] [(.int p0)])) _
      refine st11 _ ?_
      exact k
    rcases ref_cases ir11 with rfl | ⟨br11, rfl⟩
    ·
      obtain ⟨r13, hr13⟩ : ∃ z, z = v2 p0 w_BY_NUMBER w_PUT_STATIC w_INVOKE_STATIC w_NEW_INVOKE_SPECIAL w_PUT_FIELD w_INVOKE_INTERFACE w_GET_FIELD w_GET_STATIC w_INVOKE_SPECIAL w_INVOKE_VIRTUAL := ⟨_, rfl⟩
      obtain ⟨_, _, ⟨T13, L13, k13, n13⟩, -, X13, ⟨Lc13, hQ13, l13, y13, z13⟩, st13⟩ := Jvm.LawKit.callS X11 hx (y := (⟨"com/example/cafelens/cafelens/ReferenceKindOfPinLaw", "expected", "(I)Lcom/example/cafelens/cafelens/ReferenceKind;"⟩ : MethodName)) hown (mvT hZ (hw _ (List.mem_of_getElem? (i := 4) rfl))) (mvT hZ (hw _ (List.mem_of_getElem? (i := 5) rfl))) (mvT hZ (hw _ (List.mem_of_getElem? (i := 6) rfl))) (mvT hZ (hw _ (List.mem_of_getElem? (i := 7) rfl))) (by decide) (backOf (W := 1) (rm2 l Z ar0 hw [] p0 w_BY_NUMBER c_BY_NUMBER w_PUT_STATIC w_INVOKE_STATIC w_NEW_INVOKE_SPECIAL w_PUT_FIELD w_INVOKE_INTERFACE w_GET_FIELD w_GET_STATIC w_INVOKE_SPECIAL w_INVOKE_VIRTUAL h0 n0 Z0 F  r13 hr13) hZ (hw _ (List.mem_of_getElem? (i := 7) rfl)) (hw _ (List.mem_of_getElem? (i := 6) rfl)) (by decide) (by decide)) (g := (mkF m 22 #[.val (.int p0), .val (.int p1), .val (.int p0), .val .null] [(.int p0), .null])) rfl (by rw [hml]; rfl) (argsL := [(.int p0)]) (rest := [.null]) (lenOf pd_0_22 rfl) rfl (by show 2 * 0 + _ ≤ _; exact Nat.le_of_eq rfl) (hb hby at_22) (fun _ _ => ⟨rfl, e11, (by decide : 0 + 0 ≤ _), (by decide : 0 + 0 ≤ _)⟩)
      dsimp only [Pt.U, Pt.locs, Pt.cells, Pt.slots] at X13 l13 y13 z13 st13 hQ13
      subst l13 y13 z13
      obtain ⟨rfl, N13q, e13⟩ := hQ13
      have N13 := Fr.app N11 N13q
      have ir13 : r13.isRef = true := by rw [hr13]; exact v2_ref _ _ _ _ _ _ _ _ _ _ _
      have hk14 : Value.null = r13 := by rw [hr13, ← own_key _ w_BY_NUMBER w_PUT_STATIC w_INVOKE_STATIC w_NEW_INVOKE_SPECIAL w_PUT_FIELD w_INVOKE_INTERFACE w_GET_FIELD w_GET_STATIC w_INVOKE_SPECIAL w_INVOKE_VIRTUAL]; exact hr11
      obtain ⟨fs, hr, hrun, hended, hW, hsame⟩ := X13.leave (v := some (.int (1 : Int32))) (fun h => by rw [Bd.returns] at h; cases h)
      refine ⟨_, _, pre12 _ ?_, hrun, hended, _, _, rfl, ?_, ⟨_, rfl⟩, hW, hsame.mono (by decide) (by decide)⟩
      · show Steps p.tables e below (T11.setTop (mkF m 19 #[.val (.int p0), .val (.int p1), .val (.int p0), .unset] [.null])) _
        refine XS.astoreN X11.here hx rfl (hb hby at_19) rfl rfl (l' := #[.val (.int p0), .val (.int p1), .val (.int p0), .val .null]) rfl ?_
        show Steps p.tables e below (T11.setTop (mkF m 20 #[.val (.int p0), .val (.int p1), .val (.int p0), .val .null] [])) _
        refine XS.aloadN X11.here hx rfl (hb hby at_20) rfl rfl ?_
        show Steps p.tables e below (T11.setTop (mkF m 21 #[.val (.int p0), .val (.int p1), .val (.int p0), .val .null] [.null])) _
        refine XS.iloadN X11.here hx rfl (hb hby at_21) rfl ?_
        show Steps p.tables e below (T11.setTop (mkF m 22 #[.val (.int p0), .val (.int p1), .val (.int p0), .val .null] [(.int p0), .null])) _
        refine st13 _ ?_
        show Steps p.tables e below (T13.setTop (mkF m 25 #[.val (.int p0), .val (.int p1), .val (.int p0), .val .null] [r13, .null])) _
        refine Jvm.RoadKit.acmp (g := (mkF m 25 #[.val (.int p0), .val (.int p1), .val (.int p0), .val .null] [r13, .null])) X13 hx rfl rfl ir13 (pc0 := 25) (pc' := 30) (same := true) rfl (hb hby at_25) rfl (decide_eq_true hk14) (by decide) (by decide) ?_
        show Steps p.tables e below (T13.setTop (mkF m 30 #[.val (.int p0), .val (.int p1), .val (.int p0), .val .null] [])) _
        refine XS.aloadN X13.here hx rfl (hb hby at_30) rfl rfl ?_
        show Steps p.tables e below (T13.setTop (mkF m 31 #[.val (.int p0), .val (.int p1), .val (.int p0), .val .null] [.null])) _
        refine XS.ifnullYes X13.here hx rfl (pc0 := 31) (pc' := 42) rfl (hb hby at_31) rfl (by decide) (by decide) ?_
        show Steps p.tables e below (T13.setTop (mkF m 42 #[.val (.int p0), .val (.int p1), .val (.int p0), .val .null] [])) _
        refine XS.iconst X13.here hx rfl (hb hby at_42) ?_
        show Steps p.tables e below (T13.setTop (mkF m 43 #[.val (.int p0), .val (.int p1), .val (.int p0), .val .null] [(.int (1 : Int32))])) _
        refine XS.goto X13.here hx rfl (pc0 := 43) (pc' := 47) rfl (hb hby at_43) (by decide) (by decide) ?_
        show Steps p.tables e below (T13.setTop (mkF m 47 #[.val (.int p0), .val (.int p1), .val (.int p0), .val .null] [(.int (1 : Int32))])) _
        exact retN X13 hx (t := .boolean) Bd.returns (by simp) (hb hby at_47) hr
      · show Qp (some (.int (1 : Int32))) h0 n0 _ T13.heap _
        rw [e13]
        exact ⟨rfl, N13, rfl⟩
    ·
      obtain ⟨r15, hr15⟩ : ∃ z, z = v2 p0 w_BY_NUMBER w_PUT_STATIC w_INVOKE_STATIC w_NEW_INVOKE_SPECIAL w_PUT_FIELD w_INVOKE_INTERFACE w_GET_FIELD w_GET_STATIC w_INVOKE_SPECIAL w_INVOKE_VIRTUAL := ⟨_, rfl⟩
      obtain ⟨_, _, ⟨T15, L15, k15, n15⟩, -, X15, ⟨Lc15, hQ15, l15, y15, z15⟩, st15⟩ := Jvm.LawKit.callS X11 hx (y := (⟨"com/example/cafelens/cafelens/ReferenceKindOfPinLaw", "expected", "(I)Lcom/example/cafelens/cafelens/ReferenceKind;"⟩ : MethodName)) hown (mvT hZ (hw _ (List.mem_of_getElem? (i := 4) rfl))) (mvT hZ (hw _ (List.mem_of_getElem? (i := 5) rfl))) (mvT hZ (hw _ (List.mem_of_getElem? (i := 6) rfl))) (mvT hZ (hw _ (List.mem_of_getElem? (i := 7) rfl))) (by decide) (backOf (W := 1) (rm2 l Z ar0 hw [] p0 w_BY_NUMBER c_BY_NUMBER w_PUT_STATIC w_INVOKE_STATIC w_NEW_INVOKE_SPECIAL w_PUT_FIELD w_INVOKE_INTERFACE w_GET_FIELD w_GET_STATIC w_INVOKE_SPECIAL w_INVOKE_VIRTUAL h0 n0 Z0 F  r15 hr15) hZ (hw _ (List.mem_of_getElem? (i := 7) rfl)) (hw _ (List.mem_of_getElem? (i := 6) rfl)) (by decide) (by decide)) (g := (mkF m 22 #[.val (.int p0), .val (.int p1), .val (.int p0), .val (.ref br11)] [(.int p0), (.ref br11)])) rfl (by rw [hml]; rfl) (argsL := [(.int p0)]) (rest := [(.ref br11)]) (lenOf pd_0_22 rfl) rfl (by show 2 * 0 + _ ≤ _; exact Nat.le_of_eq rfl) (hb hby at_22) (fun _ _ => ⟨rfl, e11, (by decide : 0 + 0 ≤ _), (by decide : 0 + 0 ≤ _)⟩)
      dsimp only [Pt.U, Pt.locs, Pt.cells, Pt.slots] at X15 l15 y15 z15 st15 hQ15
      subst l15 y15 z15
      obtain ⟨rfl, N15q, e15⟩ := hQ15
      have N15 := Fr.app N11 N15q
      have ir15 : r15.isRef = true := by rw [hr15]; exact v2_ref _ _ _ _ _ _ _ _ _ _ _
      have hk16 : (Value.ref br11) = r15 := by rw [hr15, ← own_key _ w_BY_NUMBER w_PUT_STATIC w_INVOKE_STATIC w_NEW_INVOKE_SPECIAL w_PUT_FIELD w_INVOKE_INTERFACE w_GET_FIELD w_GET_STATIC w_INVOKE_SPECIAL w_INVOKE_VIRTUAL]; exact hr11
      obtain ⟨r17, hr17⟩ : ∃ z, z = v3 br11 w_BY_NUMBER w_PUT_STATIC w_INVOKE_STATIC w_NEW_INVOKE_SPECIAL w_PUT_FIELD w_INVOKE_INTERFACE w_GET_FIELD w_GET_STATIC w_INVOKE_SPECIAL w_INVOKE_VIRTUAL (p0) := ⟨_, rfl⟩
      obtain ⟨cq17, kq17, q17a, q17b, q17c⟩ := isOf hZ e15 (show Exa Z h0 br11 "com/example/cafelens/cafelens/ReferenceKind" from (own_of F hr11).1)
      obtain ⟨_, _, ⟨T17, L17, k17, n17⟩, -, X17, ⟨Lc17, hQ17, l17, y17, z17⟩, st17⟩ := X15.virtualBack hx (y := (⟨"com/example/cafelens/cafelens/ReferenceKind", "number", "()I"⟩ : MethodName)) (z := (⟨"com/example/cafelens/cafelens/ReferenceKind", "number", "()I"⟩ : MethodName)) hown (mvT hZ (hw _ (List.mem_of_getElem? (i := 12) rfl))) (mvT hZ (hw _ (List.mem_of_getElem? (i := 13) rfl))) (notFace_of_selects (args := #[]) (mvT hZ (hw _ (List.mem_of_getElem? (i := 15) rfl)))) (mvT hZ (hw _ (List.mem_of_getElem? (i := 15) rfl))) (mvT hZ (hw _ (List.mem_of_getElem? (i := 14) rfl))) (by decide) (backOf (W := 0) (rm3 l Z ar0 hw [] br11 w_BY_NUMBER c_BY_NUMBER w_PUT_STATIC w_INVOKE_STATIC w_NEW_INVOKE_SPECIAL w_PUT_FIELD w_INVOKE_INTERFACE w_GET_FIELD w_GET_STATIC w_INVOKE_SPECIAL w_INVOKE_VIRTUAL h0 n0 Z0 F (p0) ((own_of F hr11).2) r17 hr17) hZ (hw _ (List.mem_of_getElem? (i := 16) rfl)) (hw _ (List.mem_of_getElem? (i := 2) rfl)) (by decide) (by decide)) q17a q17c (g := (mkF m 35 #[.val (.int p0), .val (.int p1), .val (.int p0), .val (.ref br11)] [(.ref br11)])) rfl (by rw [hml]; rfl) (Steps.refl _) (argsL := []) (rest := []) (lenOf pd_0_35 rfl) rfl (by show 2 * 0 + _ ≤ _; exact Nat.le_of_eq rfl) (hb hby at_35) (fun _ _ => ⟨rfl, e15, (by decide : 0 + 0 ≤ _), (by decide : 0 + 0 ≤ _)⟩)
      dsimp only [Pt.U, Pt.locs, Pt.cells, Pt.slots] at X17 l17 y17 z17 st17 hQ17
      subst l17 y17 z17
      obtain ⟨rfl, N17q, e17⟩ := hQ17
      have N17 := Fr.app N15 N17q
      have hk18 : r17 = p0 := by rw [hr17]; rfl
      obtain ⟨fs, hr, hrun, hended, hW, hsame⟩ := X17.leave (v := some (.int (1 : Int32))) (fun h => by rw [Bd.returns] at h; cases h)
      refine ⟨_, _, pre12 _ ?_, hrun, hended, _, _, rfl, ?_, ⟨_, rfl⟩, hW, hsame.mono (by decide) (by decide)⟩
      · show Steps p.tables e below (T11.setTop (mkF m 19 #[.val (.int p0), .val (.int p1), .val (.int p0), .unset] [(.ref br11)])) _
        refine XS.astoreN X11.here hx rfl (hb hby at_19) rfl rfl (l' := #[.val (.int p0), .val (.int p1), .val (.int p0), .val (.ref br11)]) rfl ?_
        show Steps p.tables e below (T11.setTop (mkF m 20 #[.val (.int p0), .val (.int p1), .val (.int p0), .val (.ref br11)] [])) _
        refine XS.aloadN X11.here hx rfl (hb hby at_20) rfl rfl ?_
        show Steps p.tables e below (T11.setTop (mkF m 21 #[.val (.int p0), .val (.int p1), .val (.int p0), .val (.ref br11)] [(.ref br11)])) _
        refine XS.iloadN X11.here hx rfl (hb hby at_21) rfl ?_
        show Steps p.tables e below (T11.setTop (mkF m 22 #[.val (.int p0), .val (.int p1), .val (.int p0), .val (.ref br11)] [(.int p0), (.ref br11)])) _
        refine st15 _ ?_
        show Steps p.tables e below (T15.setTop (mkF m 25 #[.val (.int p0), .val (.int p1), .val (.int p0), .val (.ref br11)] [r15, (.ref br11)])) _
        refine Jvm.RoadKit.acmp (g := (mkF m 25 #[.val (.int p0), .val (.int p1), .val (.int p0), .val (.ref br11)] [r15, (.ref br11)])) X15 hx rfl rfl ir15 (pc0 := 25) (pc' := 30) (same := true) rfl (hb hby at_25) rfl (decide_eq_true hk16) (by decide) (by decide) ?_
        show Steps p.tables e below (T15.setTop (mkF m 30 #[.val (.int p0), .val (.int p1), .val (.int p0), .val (.ref br11)] [])) _
        refine XS.aloadN X15.here hx rfl (hb hby at_30) rfl rfl ?_
        show Steps p.tables e below (T15.setTop (mkF m 31 #[.val (.int p0), .val (.int p1), .val (.int p0), .val (.ref br11)] [(.ref br11)])) _
        refine XS.ifnullNo X15.here hx rfl (hb hby at_31) rfl ?_
        show Steps p.tables e below (T15.setTop (mkF m 34 #[.val (.int p0), .val (.int p1), .val (.int p0), .val (.ref br11)] [])) _
        refine XS.aloadN X15.here hx rfl (hb hby at_34) rfl rfl ?_
        show Steps p.tables e below (T15.setTop (mkF m 35 #[.val (.int p0), .val (.int p1), .val (.int p0), .val (.ref br11)] [(.ref br11)])) _
        refine st17.trans ?_
        show Steps p.tables e below (T17.setTop (mkF m 38 #[.val (.int p0), .val (.int p1), .val (.int p0), .val (.ref br11)] [(.int r17)])) _
        refine XS.iloadN X17.here hx rfl (hb hby at_38) rfl ?_
        show Steps p.tables e below (T17.setTop (mkF m 39 #[.val (.int p0), .val (.int p1), .val (.int p0), .val (.ref br11)] [(.int p0), (.int r17)])) _
        refine XS.icmpNo X17.here hx rfl (hb hby at_39) rfl (teq hk18).2 ?_
        show Steps p.tables e below (T17.setTop (mkF m 42 #[.val (.int p0), .val (.int p1), .val (.int p0), .val (.ref br11)] [])) _
        refine XS.iconst X17.here hx rfl (hb hby at_42) ?_
        show Steps p.tables e below (T17.setTop (mkF m 43 #[.val (.int p0), .val (.int p1), .val (.int p0), .val (.ref br11)] [(.int (1 : Int32))])) _
        refine XS.goto X17.here hx rfl (pc0 := 43) (pc' := 47) rfl (hb hby at_43) (by decide) (by decide) ?_
        show Steps p.tables e below (T17.setTop (mkF m 47 #[.val (.int p0), .val (.int p1), .val (.int p0), .val (.ref br11)] [(.int (1 : Int32))])) _
        exact retN X17 hx (t := .boolean) Bd.returns (by simp) (hb hby at_47) hr
      · show Qp (some (.int (1 : Int32))) h0 n0 _ T17.heap _
        rw [e17]
        exact ⟨rfl, N17, rfl⟩

set_option maxRecDepth 65536 in
set_option maxHeartbeats 40000000 in
theorem comes_1 {Post : Tables → Env → Array Value → State → Outcome → State → Prop} (hpost : ∀ tb e args s v u, (limb_1_1.after args s (.returned v) u = true ∧ limb_1_2.after args s (.returned v) u = true ∧ True) → FrameEnd s (.returned v) u (Jvm.fieldLocs frame_1_writes args s ++ Jvm.arrayLocs frame_1_arrays args s ++ Jvm.staticLocs frame_1_statics s) 0 0 → Post tb e args s (.returned v) u) :
    ArmFor flags0 classFile x code maxLocals ret World_1 tables_1 room_1 Calls_1 rest_1 Pre_1 Post := by
  intro l hfl _ _ p e ha hc hk s m args below hf hA hF happ hP
  obtain ⟨hcalls, hrest, hpre⟩ := hP
  obtain ⟨-, -, -, hnamed, -, -, -, hat⟩ := (Spec.applies_iff hf).mp happ
  obtain ⟨hg, hn⟩ := and_e (Cond.before_iff.mp (show (Jvm.Cond.and given_1 narrow_1).before args s = true from hpre))
  obtain ⟨g0, hg⟩ := and_e hg
  obtain ⟨w0, w1, rfl⟩ : ∃ w0 w1 : Value, args = #[w0, w1] := by
    have hs : args.size = 2 := by simpa [Cond.value, given_1] using g0
    obtain ⟨L⟩ := args
    match L, hs with
    | [w0, w1], _ => exact ⟨w0, w1, rfl⟩
  have hw := fun d (hd : d ∈ tables_1) => atoms_spec (ws := Jvm.Cond.code x code maxLocals ret :: tables_1) hat d (List.mem_cons_of_mem _ hd)
  obtain ⟨g1, hg⟩ := and_e hg
  obtain ⟨i0, ei0⟩ := is_v g1
  obtain rfl : w0 = (.int i0) := Option.some.inj ei0
  obtain ⟨i1, ei1⟩ := is_v hg
  obtain rfl : w1 = (.int i1) := Option.some.inj ei1
  obtain ⟨c0, hn⟩ := and_e hn
  obtain ⟨c1, hn⟩ := and_e hn
  obtain ⟨c2, hn⟩ := and_e hn
  obtain ⟨c3, hn⟩ := and_e hn
  obtain ⟨c4, hn⟩ := and_e hn
  obtain ⟨c5, hn⟩ := and_e hn
  obtain ⟨c6, hn⟩ := and_e hn
  obtain ⟨c7, hn⟩ := and_e hn
  obtain ⟨c8, hn⟩ := and_e hn
  obtain ⟨c9, hn⟩ := and_e hn
  obtain ⟨c10, hn⟩ := and_e hn
  obtain ⟨c11, hn⟩ := and_e hn
  obtain ⟨c12, hn⟩ := and_e hn
  obtain ⟨c13, hn⟩ := and_e hn
  obtain ⟨c14, hn⟩ := and_e hn
  obtain ⟨c15, hn⟩ := and_e hn
  obtain ⟨c16, hn⟩ := and_e hn
  obtain ⟨c17, hn⟩ := and_e hn
  obtain ⟨c18, hn⟩ := and_e hn
  obtain ⟨c19, hn⟩ := and_e hn
  obtain ⟨c20, hn⟩ := and_e hn
  obtain ⟨c21, hn⟩ := and_e hn
  obtain ⟨c22, hn⟩ := and_e hn
  obtain ⟨c23, hn⟩ := and_e hn
  obtain ⟨c24, hn⟩ := and_e hn
  obtain ⟨c25, hn⟩ := and_e hn
  obtain ⟨c26, hn⟩ := and_e hn
  obtain ⟨c27, hn⟩ := and_e hn
  have c28 := hn
  obtain ⟨w_BY_NUMBER, ev_BY_NUMBER⟩ := arr_v c0
  have S_BY_NUMBER := Sta.start ev_BY_NUMBER (Or.inr ⟨(hw _ (List.mem_of_getElem? (i := 2) rfl)), (hw _ (List.mem_of_getElem? (i := 9) rfl))⟩)
  obtain ⟨c_BY_NUMBER, A_BY_NUMBER⟩ := Arr.start ev_BY_NUMBER c0
  obtain ⟨w_PUT_STATIC, ev_PUT_STATIC⟩ := exa_v c2
  have S_PUT_STATIC := Sta.start ev_PUT_STATIC (Or.inr ⟨(hw _ (List.mem_of_getElem? (i := 2) rfl)), (hw _ (List.mem_of_getElem? (i := 10) rfl))⟩)
  have E_PUT_STATIC := Exa.start ev_PUT_STATIC c2
  obtain ⟨w_INVOKE_STATIC, ev_INVOKE_STATIC⟩ := exa_v c5
  have S_INVOKE_STATIC := Sta.start ev_INVOKE_STATIC (Or.inr ⟨(hw _ (List.mem_of_getElem? (i := 2) rfl)), (hw _ (List.mem_of_getElem? (i := 19) rfl))⟩)
  have E_INVOKE_STATIC := Exa.start ev_INVOKE_STATIC c5
  obtain ⟨w_NEW_INVOKE_SPECIAL, ev_NEW_INVOKE_SPECIAL⟩ := exa_v c8
  have S_NEW_INVOKE_SPECIAL := Sta.start ev_NEW_INVOKE_SPECIAL (Or.inr ⟨(hw _ (List.mem_of_getElem? (i := 2) rfl)), (hw _ (List.mem_of_getElem? (i := 21) rfl))⟩)
  have E_NEW_INVOKE_SPECIAL := Exa.start ev_NEW_INVOKE_SPECIAL c8
  obtain ⟨w_PUT_FIELD, ev_PUT_FIELD⟩ := exa_v c11
  have S_PUT_FIELD := Sta.start ev_PUT_FIELD (Or.inr ⟨(hw _ (List.mem_of_getElem? (i := 2) rfl)), (hw _ (List.mem_of_getElem? (i := 23) rfl))⟩)
  have E_PUT_FIELD := Exa.start ev_PUT_FIELD c11
  obtain ⟨w_INVOKE_INTERFACE, ev_INVOKE_INTERFACE⟩ := exa_v c14
  have S_INVOKE_INTERFACE := Sta.start ev_INVOKE_INTERFACE (Or.inr ⟨(hw _ (List.mem_of_getElem? (i := 2) rfl)), (hw _ (List.mem_of_getElem? (i := 25) rfl))⟩)
  have E_INVOKE_INTERFACE := Exa.start ev_INVOKE_INTERFACE c14
  obtain ⟨w_GET_FIELD, ev_GET_FIELD⟩ := exa_v c17
  have S_GET_FIELD := Sta.start ev_GET_FIELD (Or.inr ⟨(hw _ (List.mem_of_getElem? (i := 2) rfl)), (hw _ (List.mem_of_getElem? (i := 27) rfl))⟩)
  have E_GET_FIELD := Exa.start ev_GET_FIELD c17
  obtain ⟨w_GET_STATIC, ev_GET_STATIC⟩ := exa_v c20
  have S_GET_STATIC := Sta.start ev_GET_STATIC (Or.inr ⟨(hw _ (List.mem_of_getElem? (i := 2) rfl)), (hw _ (List.mem_of_getElem? (i := 29) rfl))⟩)
  have E_GET_STATIC := Exa.start ev_GET_STATIC c20
  obtain ⟨w_INVOKE_SPECIAL, ev_INVOKE_SPECIAL⟩ := exa_v c23
  have S_INVOKE_SPECIAL := Sta.start ev_INVOKE_SPECIAL (Or.inr ⟨(hw _ (List.mem_of_getElem? (i := 2) rfl)), (hw _ (List.mem_of_getElem? (i := 31) rfl))⟩)
  have E_INVOKE_SPECIAL := Exa.start ev_INVOKE_SPECIAL c23
  obtain ⟨w_INVOKE_VIRTUAL, ev_INVOKE_VIRTUAL⟩ := exa_v c26
  have S_INVOKE_VIRTUAL := Sta.start ev_INVOKE_VIRTUAL (Or.inr ⟨(hw _ (List.mem_of_getElem? (i := 2) rfl)), (hw _ (List.mem_of_getElem? (i := 33) rfl))⟩)
  have E_INVOKE_VIRTUAL := Exa.start ev_INVOKE_VIRTUAL c26
  have L_BY_NUMBER := own_len ev_BY_NUMBER A_BY_NUMBER (k := 9) (by decide) c1
  have T_BY_NUMBER_3 := own_elem ev_BY_NUMBER A_BY_NUMBER (k := 3) (by decide) c3 ev_PUT_STATIC rfl
  have F_number_PUT_STATIC := own_fld ev_PUT_STATIC c4
  have T_BY_NUMBER_5 := own_elem ev_BY_NUMBER A_BY_NUMBER (k := 5) (by decide) c6 ev_INVOKE_STATIC rfl
  have F_number_INVOKE_STATIC := own_fld ev_INVOKE_STATIC c7
  have T_BY_NUMBER_7 := own_elem ev_BY_NUMBER A_BY_NUMBER (k := 7) (by decide) c9 ev_NEW_INVOKE_SPECIAL rfl
  have F_number_NEW_INVOKE_SPECIAL := own_fld ev_NEW_INVOKE_SPECIAL c10
  have T_BY_NUMBER_2 := own_elem ev_BY_NUMBER A_BY_NUMBER (k := 2) (by decide) c12 ev_PUT_FIELD rfl
  have F_number_PUT_FIELD := own_fld ev_PUT_FIELD c13
  have T_BY_NUMBER_8 := own_elem ev_BY_NUMBER A_BY_NUMBER (k := 8) (by decide) c15 ev_INVOKE_INTERFACE rfl
  have F_number_INVOKE_INTERFACE := own_fld ev_INVOKE_INTERFACE c16
  have T_BY_NUMBER_0 := own_elem ev_BY_NUMBER A_BY_NUMBER (k := 0) (by decide) c18 ev_GET_FIELD rfl
  have F_number_GET_FIELD := own_fld ev_GET_FIELD c19
  have T_BY_NUMBER_1 := own_elem ev_BY_NUMBER A_BY_NUMBER (k := 1) (by decide) c21 ev_GET_STATIC rfl
  have F_number_GET_STATIC := own_fld ev_GET_STATIC c22
  have T_BY_NUMBER_6 := own_elem ev_BY_NUMBER A_BY_NUMBER (k := 6) (by decide) c24 ev_INVOKE_SPECIAL rfl
  have F_number_INVOKE_SPECIAL := own_fld ev_INVOKE_SPECIAL c25
  have T_BY_NUMBER_4 := own_elem ev_BY_NUMBER A_BY_NUMBER (k := 4) (by decide) c27 ev_INVOKE_VIRTUAL rfl
  have F_number_INVOKE_VIRTUAL := own_fld ev_INVOKE_VIRTUAL c28
  have F : Fx s s.heap w_BY_NUMBER c_BY_NUMBER w_PUT_STATIC w_INVOKE_STATIC w_NEW_INVOKE_SPECIAL w_PUT_FIELD w_INVOKE_INTERFACE w_GET_FIELD w_GET_STATIC w_INVOKE_SPECIAL w_INVOKE_VIRTUAL := ⟨S_BY_NUMBER, A_BY_NUMBER, L_BY_NUMBER, S_PUT_STATIC, E_PUT_STATIC, T_BY_NUMBER_3, F_number_PUT_STATIC, S_INVOKE_STATIC, E_INVOKE_STATIC, T_BY_NUMBER_5, F_number_INVOKE_STATIC, S_NEW_INVOKE_SPECIAL, E_NEW_INVOKE_SPECIAL, T_BY_NUMBER_7, F_number_NEW_INVOKE_SPECIAL, S_PUT_FIELD, E_PUT_FIELD, T_BY_NUMBER_2, F_number_PUT_FIELD, S_INVOKE_INTERFACE, E_INVOKE_INTERFACE, T_BY_NUMBER_8, F_number_INVOKE_INTERFACE, S_GET_FIELD, E_GET_FIELD, T_BY_NUMBER_0, F_number_GET_FIELD, S_GET_STATIC, E_GET_STATIC, T_BY_NUMBER_1, F_number_GET_STATIC, S_INVOKE_SPECIAL, E_INVOKE_SPECIAL, T_BY_NUMBER_6, F_number_INVOKE_SPECIAL, S_INVOKE_VIRTUAL, E_INVOKE_VIRTUAL, T_BY_NUMBER_4, F_number_INVOKE_VIRTUAL⟩

  obtain ⟨n, o, h1, h2, h3, _, L, rfl, ⟨rfl, N, -⟩, hq⟩ := rm0 l s _ hw tables_1 i0 i1 w_BY_NUMBER c_BY_NUMBER w_PUT_STATIC w_INVOKE_STATIC w_NEW_INVOKE_SPECIAL w_PUT_FIELD w_INVOKE_INTERFACE w_GET_FIELD w_GET_STATIC w_INVOKE_SPECIAL w_INVOKE_VIRTUAL s.heap s.heap.size (Nat.le_refl _) F  p e ha hc hk s m _ below hf ((Spec.applies_iff_loose hf).mp happ).1 ⟨rfl, State.Warmed39.refl s, rfl⟩ trivial
  refine ⟨n, _, h1, h2, h3, hpost _ _ _ _ _ _ ⟨Cond.after_iff.mpr rfl, Cond.after_iff.mpr (eq_i res_at (Term.int_eval (1)) rfl), trivial⟩ ⟨hq.1, hq.2.1, (hq.2.2.sift fun y hy => Or.inr (N y hy)).mono (by decide) (by decide)⟩⟩
theorem main_1_1 : Claimed_1_1 := comes_1 fun _ _ _ _ _ _ h hF => ⟨h.1, hF⟩
theorem main_1_2 : Claimed_1_2 := comes_1 fun _ _ _ _ _ _ h hF => ⟨h.2.1, hF⟩
end Jvm.Pilot.@@N@@
namespace Jvm.Pilot.@@N@@
open Jvm Jvm.ClassFile Sem Op Lib Jvm.Free Jvm.Stand Jvm.Pilot.@@N@@.Jvm.D
/-! MADE BY PROGRAM (witnessworld.py) out of the Statement's table words and the real class files: 13 classes; the members and pool entries that the words name. The judged class is class 1, her method 2. -/
namespace start1
open Jvm.ClassFile
def u (s : String) : CpInfo := .utf8 (stringToUtf16 s)
/-- a pool by its gaps: so many unusable entries, then the entry; so many at the end -/
def gap : Nat → List CpInfo → List CpInfo
  | 0, r => r
  | n + 1, r => .unusable :: gap n r
def poolList (es : List (Nat × CpInfo)) (last : Nat) : List CpInfo := es.foldr (fun e r => gap e.1 (e.2 :: r)) (gap last [])
def pool (es : List (Nat × CpInfo)) (last : Nat) : Array CpInfo := ⟨poolList es last⟩
def fileOf (pool : Array CpInfo) (this : Nat) (attrs : Array Attribute := #[]) (ms : Array MethodInfo := #[]) (fl : Nat := 33) (sup : Nat := 0) (ifs : Array Nat := #[]) (fds : Array FieldInfo := #[]) : ClassFile where
  minorVersion := 0
  majorVersion := 65
  constantPool := pool
  accessFlags := fl
  thisClass := this
  superClass := sup
  interfaces := ifs
  fields := fds
  methods := ms
  attributes := attrs
def plain (name : String) (sup : Option ClassId) : Class where
  name := name
  kind := .ordinary
  loader := none
  accessFlags := 33
  super := sup
  interfaces := #[]
  cf := none
  fields := #[]
  methods := #[]
  instanceTypes := #[]
  staticTypes := #[]
  resolved := #[]
  callSites := []
  init := .initialized
  statics := none
  mirror := none

def pool0 : Array CpInfo := pool [(5, u "<init>"), (0, u "()V"), (1, .class_ 10), (1, u "java/lang/Object")] 113

def k0m0 : Method := { name := "<init>", desc := "()V", sig := { parameters := [], returnType := none }, accessFlags := 1, code := none }
/-- java/lang/Object -/
def k0 : Class := { plain "java/lang/Object" none with
  accessFlags := 33
  interfaces := #[]
  cf := some (fileOf pool0 8 #[] #[{ accessFlags := 1, nameIndex := 5, descriptorIndex := 6, attributes := #[] }] 33 0 #[] #[])
  fields := #[]
  methods := #[k0m0]
  instanceTypes := #[]
  staticTypes := #[]
  resolved := Array.replicate 124 none
  statics := none }

def pool1 : Array CpInfo := pool [(2, .class_ 4), (1, u "java/lang/Object"), (0, u "<init>"), (0, u "()V"), (0, .fieldref 8 9), (0, .class_ 10), (0, .nameAndType 11 12), (0, u "com/example/cafelens/cafelens/ReferenceKind"), (0, u "GET_FIELD"), (0, u "Lcom/example/cafelens/cafelens/ReferenceKind;"), (0, .fieldref 8 14), (0, .nameAndType 15 12), (0, u "GET_STATIC"), (0, .fieldref 8 17), (0, .nameAndType 18 12), (0, u "PUT_FIELD"), (0, .fieldref 8 20), (0, .nameAndType 21 12), (0, u "PUT_STATIC"), (0, .fieldref 8 23), (0, .nameAndType 24 12), (0, u "INVOKE_VIRTUAL"), (0, .fieldref 8 26), (0, .nameAndType 27 12), (0, u "INVOKE_STATIC"), (0, .fieldref 8 29), (0, .nameAndType 30 12), (0, u "INVOKE_SPECIAL"), (0, .fieldref 8 32), (0, .nameAndType 33 12), (0, u "NEW_INVOKE_SPECIAL"), (0, .fieldref 8 35), (0, .nameAndType 36 12), (0, u "INVOKE_INTERFACE"), (0, .methodref 8 38), (0, .nameAndType 39 40), (0, u "of"), (0, u "(I)Lcom/example/cafelens/cafelens/ReferenceKind;"), (0, .methodref 42 43), (0, .class_ 44), (0, .nameAndType 45 40), (0, u "com/example/cafelens/cafelens/ReferenceKindOfPinLaw"), (0, u "expected"), (0, .methodref 8 47), (0, .nameAndType 48 49), (0, u "number"), (0, u "()I"), (3, u "law"), (0, u "(II)Z")] 2

def k1m0 : Method := { name := "<init>", desc := "()V", sig := { parameters := [], returnType := none }, accessFlags := 1, code := none }
def k1c1 : Code := { maxStack := 2, maxLocals := 1, code := method_2_code, exceptionTable := #[], attributes := #[] }
def k1m1 : Method := { name := "expected", desc := "(I)Lcom/example/cafelens/cafelens/ReferenceKind;", sig := { parameters := [.int], returnType := some (.object "com/example/cafelens/cafelens/ReferenceKind") }, accessFlags := 10, code := some k1c1 }
def k1c2 : Code := { maxStack := 2, maxLocals := 4, code := code, exceptionTable := #[], attributes := #[] }
def k1m2 : Method := { name := "law", desc := "(II)Z", sig := { parameters := [.int, .int], returnType := some .boolean }, accessFlags := 9, code := some k1c2 }
/-- com/example/cafelens/cafelens/ReferenceKindOfPinLaw -/
def k1 : Class := { plain "com/example/cafelens/cafelens/ReferenceKindOfPinLaw" (some 0) with
  accessFlags := 49
  interfaces := #[]
  cf := some (fileOf pool1 42 #[] #[{ accessFlags := 1, nameIndex := 5, descriptorIndex := 6, attributes := #[] }, { accessFlags := 10, nameIndex := 45, descriptorIndex := 40, attributes := #[] }, { accessFlags := 9, nameIndex := 53, descriptorIndex := 54, attributes := #[] }] 49 2 #[] #[])
  fields := #[]
  methods := #[k1m0, k1m1, k1m2]
  instanceTypes := #[]
  staticTypes := #[]
  resolved := Array.replicate 57 none
  statics := none }

def pool2 : Array CpInfo := pool [(1, .class_ 2), (0, u "java/lang/constant/Constable"), (0, .class_ 4), (0, u "java/lang/Object")] 6

/-- java/lang/constant/Constable -/
def k2 : Class := { plain "java/lang/constant/Constable" (some 0) with
  accessFlags := 1537
  interfaces := #[]
  cf := some (fileOf pool2 1 #[] #[] 1537 3 #[] #[])
  fields := #[]
  methods := #[]
  instanceTypes := #[]
  staticTypes := #[]
  resolved := Array.replicate 11 none
  statics := none }

def pool3 : Array CpInfo := pool [(1, .class_ 2), (0, u "java/lang/Comparable"), (0, .class_ 4), (0, u "java/lang/Object")] 7

/-- java/lang/Comparable -/
def k3 : Class := { plain "java/lang/Comparable" (some 0) with
  accessFlags := 1537
  interfaces := #[]
  cf := some (fileOf pool3 1 #[] #[] 1537 3 #[] #[])
  fields := #[]
  methods := #[]
  instanceTypes := #[]
  staticTypes := #[]
  resolved := Array.replicate 12 none
  statics := none }

def pool4 : Array CpInfo := pool [(1, .class_ 2), (0, u "java/io/Serializable"), (0, .class_ 4), (0, u "java/lang/Object")] 2

/-- java/io/Serializable -/
def k4 : Class := { plain "java/io/Serializable" (some 0) with
  accessFlags := 1537
  interfaces := #[]
  cf := some (fileOf pool4 1 #[] #[] 1537 3 #[] #[])
  fields := #[]
  methods := #[]
  instanceTypes := #[]
  staticTypes := #[]
  resolved := Array.replicate 7 none
  statics := none }

def pool5 : Array CpInfo := pool [(2, .class_ 4), (1, u "java/lang/Enum"), (0, u "name"), (0, u "Ljava/lang/String;"), (2, u "ordinal"), (0, u "I"), (1, .class_ 14), (1, u "java/lang/Object"), (4, u "hash"), (86, .class_ 108), (1, u "java/lang/Enum$EnumDesc"), (2, .class_ 112), (0, u "java/lang/constant/Constable"), (0, .class_ 114), (0, u "java/lang/Comparable"), (0, .class_ 116), (0, u "java/io/Serializable")] 87

/-- java/lang/Enum -/
def k5 : Class := { plain "java/lang/Enum" (some 0) with
  accessFlags := 1057
  interfaces := #[2, 3, 4]
  cf := some (fileOf pool5 2 #[.nestMembers #[106]] #[] 1057 12 #[111, 113, 115] #[{ accessFlags := 18, nameIndex := 5, descriptorIndex := 6, attributes := #[] }, { accessFlags := 18, nameIndex := 9, descriptorIndex := 10, attributes := #[] }, { accessFlags := 2, nameIndex := 19, descriptorIndex := 10, attributes := #[] }])
  fields := #[{ name := "name", type := (.object "java/lang/String"), accessFlags := 18, slot := 0, constantValue := 0 }, { name := "ordinal", type := .int, accessFlags := 18, slot := 1, constantValue := 0 }, { name := "hash", type := .int, accessFlags := 2, slot := 2, constantValue := 0 }]
  methods := #[]
  instanceTypes := #[(.object "java/lang/String"), .int, .int]
  staticTypes := #[]
  resolved := Array.replicate 204 none
  statics := none }

def pool6 : Array CpInfo := pool [(1, .class_ 2), (0, u "com/example/cafelens/cafelens/ReferenceKind"), (2, u "GET_FIELD"), (0, u "Lcom/example/cafelens/cafelens/ReferenceKind;"), (2, u "GET_STATIC"), (2, u "PUT_FIELD"), (2, u "PUT_STATIC"), (2, u "INVOKE_VIRTUAL"), (2, u "INVOKE_STATIC"), (2, u "INVOKE_SPECIAL"), (2, u "NEW_INVOKE_SPECIAL"), (2, u "INVOKE_INTERFACE"), (2, u "$VALUES"), (0, u "[Lcom/example/cafelens/cafelens/ReferenceKind;"), (6, .class_ 43), (1, u "java/lang/Enum"), (6, .fieldref 1 51), (0, .nameAndType 52 53), (0, u "number"), (0, u "I"), (2, u "formatName"), (0, u "Ljava/lang/String;"), (4, u "of"), (3, u "targets"), (0, u "Ljava/util/List;"), (0, .fieldref 1 69), (0, .nameAndType 70 34), (0, u "BY_NUMBER"), (56, u "()I"), (3, u "(I)Lcom/example/cafelens/cafelens/ReferenceKind;")] 6

def k6c0 : Code := { maxStack := 1, maxLocals := 1, code := prog_88_method_4_code, exceptionTable := #[], attributes := #[] }
def k6m0 : Method := { name := "number", desc := "()I", sig := { parameters := [], returnType := some .int }, accessFlags := 1, code := some k6c0 }
def k6c1 : Code := { maxStack := 3, maxLocals := 1, code := prog_88_method_7_code, exceptionTable := #[], attributes := #[] }
def k6m1 : Method := { name := "of", desc := "(I)Lcom/example/cafelens/cafelens/ReferenceKind;", sig := { parameters := [.int], returnType := some (.object "com/example/cafelens/cafelens/ReferenceKind") }, accessFlags := 9, code := some k6c1 }
/-- com/example/cafelens/cafelens/ReferenceKind -/
def k6 : Class := { plain "com/example/cafelens/cafelens/ReferenceKind" (some 5) with
  accessFlags := 16433
  interfaces := #[]
  cf := some (fileOf pool6 1 #[] #[{ accessFlags := 1, nameIndex := 52, descriptorIndex := 127, attributes := #[] }, { accessFlags := 9, nameIndex := 62, descriptorIndex := 131, attributes := #[] }] 16433 41 #[] #[{ accessFlags := 16409, nameIndex := 5, descriptorIndex := 6, attributes := #[] }, { accessFlags := 16409, nameIndex := 9, descriptorIndex := 6, attributes := #[] }, { accessFlags := 16409, nameIndex := 12, descriptorIndex := 6, attributes := #[] }, { accessFlags := 16409, nameIndex := 15, descriptorIndex := 6, attributes := #[] }, { accessFlags := 16409, nameIndex := 18, descriptorIndex := 6, attributes := #[] }, { accessFlags := 16409, nameIndex := 21, descriptorIndex := 6, attributes := #[] }, { accessFlags := 16409, nameIndex := 24, descriptorIndex := 6, attributes := #[] }, { accessFlags := 16409, nameIndex := 27, descriptorIndex := 6, attributes := #[] }, { accessFlags := 16409, nameIndex := 30, descriptorIndex := 6, attributes := #[] }, { accessFlags := 26, nameIndex := 70, descriptorIndex := 34, attributes := #[] }, { accessFlags := 18, nameIndex := 52, descriptorIndex := 53, attributes := #[] }, { accessFlags := 18, nameIndex := 56, descriptorIndex := 57, attributes := #[] }, { accessFlags := 18, nameIndex := 66, descriptorIndex := 67, attributes := #[] }, { accessFlags := 4122, nameIndex := 33, descriptorIndex := 34, attributes := #[] }])
  fields := #[{ name := "GET_FIELD", type := (.object "com/example/cafelens/cafelens/ReferenceKind"), accessFlags := 16409, slot := 0, constantValue := 0 }, { name := "GET_STATIC", type := (.object "com/example/cafelens/cafelens/ReferenceKind"), accessFlags := 16409, slot := 1, constantValue := 0 }, { name := "PUT_FIELD", type := (.object "com/example/cafelens/cafelens/ReferenceKind"), accessFlags := 16409, slot := 2, constantValue := 0 }, { name := "PUT_STATIC", type := (.object "com/example/cafelens/cafelens/ReferenceKind"), accessFlags := 16409, slot := 3, constantValue := 0 }, { name := "INVOKE_VIRTUAL", type := (.object "com/example/cafelens/cafelens/ReferenceKind"), accessFlags := 16409, slot := 4, constantValue := 0 }, { name := "INVOKE_STATIC", type := (.object "com/example/cafelens/cafelens/ReferenceKind"), accessFlags := 16409, slot := 5, constantValue := 0 }, { name := "INVOKE_SPECIAL", type := (.object "com/example/cafelens/cafelens/ReferenceKind"), accessFlags := 16409, slot := 6, constantValue := 0 }, { name := "NEW_INVOKE_SPECIAL", type := (.object "com/example/cafelens/cafelens/ReferenceKind"), accessFlags := 16409, slot := 7, constantValue := 0 }, { name := "INVOKE_INTERFACE", type := (.object "com/example/cafelens/cafelens/ReferenceKind"), accessFlags := 16409, slot := 8, constantValue := 0 }, { name := "BY_NUMBER", type := (.array (.object "com/example/cafelens/cafelens/ReferenceKind")), accessFlags := 26, slot := 9, constantValue := 0 }, { name := "number", type := .int, accessFlags := 18, slot := 3, constantValue := 0 }, { name := "formatName", type := (.object "java/lang/String"), accessFlags := 18, slot := 4, constantValue := 0 }, { name := "targets", type := (.object "java/util/List"), accessFlags := 18, slot := 5, constantValue := 0 }, { name := "$VALUES", type := (.array (.object "com/example/cafelens/cafelens/ReferenceKind")), accessFlags := 4122, slot := 10, constantValue := 0 }]
  methods := #[k6m0, k6m1]
  instanceTypes := #[(.object "java/lang/String"), .int, .int, .int, (.object "java/lang/String"), (.object "java/util/List")]
  staticTypes := #[(.object "com/example/cafelens/cafelens/ReferenceKind"), (.object "com/example/cafelens/cafelens/ReferenceKind"), (.object "com/example/cafelens/cafelens/ReferenceKind"), (.object "com/example/cafelens/cafelens/ReferenceKind"), (.object "com/example/cafelens/cafelens/ReferenceKind"), (.object "com/example/cafelens/cafelens/ReferenceKind"), (.object "com/example/cafelens/cafelens/ReferenceKind"), (.object "com/example/cafelens/cafelens/ReferenceKind"), (.object "com/example/cafelens/cafelens/ReferenceKind"), (.array (.object "com/example/cafelens/cafelens/ReferenceKind")), (.array (.object "com/example/cafelens/cafelens/ReferenceKind"))]
  resolved := Array.replicate 138 none
  statics := some 0 }

def pool7 : Array CpInfo := pool [(1, u "java/lang/Cloneable"), (0, .class_ 1), (0, u "java/lang/Object"), (0, .class_ 3)] 3

/-- java/lang/Cloneable -/
def k7 : Class := { plain "java/lang/Cloneable" (some 0) with
  accessFlags := 1537
  interfaces := #[]
  cf := some (fileOf pool7 2 #[] #[] 1537 4 #[] #[])
  fields := #[]
  methods := #[]
  instanceTypes := #[]
  staticTypes := #[]
  resolved := Array.replicate 8 none
  statics := none }

/-- the primitive byte -/
def k8 : Class := { plain "byte" none with kind := .primitive 'B', accessFlags := 0x411 }
/-- [B -/
def k9 : Class := { plain "[B" (some 0) with kind := .array 8 .byte, interfaces := #[7, 4], accessFlags := 1041 }

/-- the primitive int -/
def k10 : Class := { plain "int" none with kind := .primitive 'I', accessFlags := 0x411 }
/-- [I -/
def k11 : Class := { plain "[I" (some 0) with kind := .array 10 .int, interfaces := #[7, 4], accessFlags := 1041 }

/-- [Lcom/example/cafelens/cafelens/ReferenceKind; -/
def k12 : Class := { plain "[Lcom/example/cafelens/cafelens/ReferenceKind;" (some 0) with kind := .array 6 (.object "com/example/cafelens/cafelens/ReferenceKind"), interfaces := #[7, 4], accessFlags := 1041 }

def heap : Heap := #[{ cls := 6, slots := #[.ref 7, .ref 8, .ref 5, .ref 2, .ref 10, .ref 3, .ref 9, .ref 4, .ref 6, .ref 1, .null], vm := .statics 6 },
  { cls := 12, slots := #[.ref 7, .ref 8, .ref 5, .ref 2, .ref 10, .ref 3, .ref 9, .ref 4, .ref 6], vm := .none },
  { cls := 6, slots := #[.null, .int 0, .int 0, .int 4, .null, .null], vm := .none },
  { cls := 6, slots := #[.null, .int 0, .int 0, .int 6, .null, .null], vm := .none },
  { cls := 6, slots := #[.null, .int 0, .int 0, .int 8, .null, .null], vm := .none },
  { cls := 6, slots := #[.null, .int 0, .int 0, .int 3, .null, .null], vm := .none },
  { cls := 6, slots := #[.null, .int 0, .int 0, .int 9, .null, .null], vm := .none },
  { cls := 6, slots := #[.null, .int 0, .int 0, .int 1, .null, .null], vm := .none },
  { cls := 6, slots := #[.null, .int 0, .int 0, .int 2, .null, .null], vm := .none },
  { cls := 6, slots := #[.null, .int 0, .int 0, .int 7, .null, .null], vm := .none },
  { cls := 6, slots := #[.null, .int 0, .int 0, .int 5, .null, .null], vm := .none }]
def classes : Array Class := #[k0, k1, k2, k3, k4, k5, k6, k7, k8, k9, k10, k11, k12]
def interned : List (Array UInt16 × Addr) := []
def slotsUsed : Nat := 74
def theMethod : MethodId := ⟨1, 2⟩
def args0 : Array Value := #[.int 5, .int 6]
def aboutOver (below : List Frame) : State where
  vm := { classes := classes, interned := interned.toArray }
  heap := heap
  slotsUsed := slotsUsed
  threads := #[{ frames := .invoking theMethod args0 :: below }]
def below0 : List Frame := [.native { method := ⟨0, 0⟩, args := #[] }]
def about1 : State := aboutOver below0
def p0 : Program := .bare "" "" ""
def e0 : Env := launch0.env 0 0 0
theorem w_frames : about1.frames = Frame.invoking theMethod args0 :: below0 := rfl
set_option maxRecDepth 65536 in
theorem w_args : argsFit about1.vm theMethod args0 = true := by decide +kernel
set_option maxRecDepth 65536 in
theorem w_heap : heapFits about1 = true := by decide +kernel
set_option maxRecDepth 65536 in
theorem w_runnable : about1.curStatus? = some .runnable := by decide +kernel
set_option maxRecDepth 65536 in
theorem w_alone : about1.alone = true := by decide +kernel
set_option maxRecDepth 65536 in
theorem w_named : about1.methodNamed? x = some theMethod := by decide +kernel
set_option maxRecDepth 65536 in
theorem w_hears : about1.hears theMethod below0 = true := by decide +kernel
set_option maxRecDepth 65536 in
theorem w_ripe : about1.ripe theMethod args0 below0 = true := by decide +kernel
theorem w_running : about1.status = .running := rfl
set_option maxRecDepth 65536 in
theorem w_room : about1.hasRoom e0.platform room_1 = true :=
  launch0.hasRoom_least _ room_1 (by decide +kernel) (by decide +kernel) (by decide +kernel) (by decide +kernel) (by decide +kernel) (by decide +kernel)
theorem allAtoms_all (ts : List Jvm.Cond) (a : Array Jvm.Value) (st : Jvm.State) : (allAtoms ts).before a st = ts.all (fun c => c.before a st) := by
  induction ts with
  | nil => rfl
  | cons c t ih =>
    show (Jvm.Cond.and c (allAtoms t)).before a st = _
    rw [Jvm.Cond.before_and, ih, List.all_cons]
def words1 : List Jvm.Cond := Jvm.Cond.code x code maxLocals ret :: tables_1
/-- a 'code' word, met by the world's own term for the bytes: nothing is compared byte by byte -/
theorem code_word {y : MethodName} {bytes : ByteArray} {mx : Nat} {rt : Option FieldType} {a : Array Value} {s : State} {m : MethodId} {meth : Method} {c : Code} (h1 : s.methodNamed? y = some m) (h2 : s.vm.method? m = some meth) (h3 : meth.code = some c) (h4 : c.code = bytes)
    (h5 : (c.maxLocals == mx && c.exceptionTable.isEmpty && decide (c.maxStack ≤ mostOperands) && decide (meth.sig.returnType = rt) && !meth.locks && decide (parseMethodDescriptor y.desc = some meth.sig)) = true) : (Jvm.Cond.code y bytes mx rt).before a s = true := by
  simp only [Bool.and_eq_true, beq_iff_eq, Bool.not_eq_true', decide_eq_true_eq] at h5
  obtain ⟨⟨⟨⟨⟨g1, g2⟩, g3⟩, g4⟩, g5⟩, g6⟩ := h5
  simp [Cond.before, Cond.holds, Cond.value, h1, h2, h3, h4, g1, g2, g3, g4, g5, g6]
def isCode : Jvm.Cond → Bool
  | .code _ _ _ _ => true
  | _ => false
theorem all_split {L : List Jvm.Cond} {P : Jvm.Cond → Bool} (h1 : L.all (fun c => isCode c || P c) = true) (h2 : ∀ c ∈ L.filter isCode, P c = true) : L.all P = true := by
  refine List.all_eq_true.mpr fun c hc => ?_
  have h := List.all_eq_true.mp h1 c hc
  rcases Bool.eq_false_or_eq_true (isCode c) with hi | hi
  · exact h2 c (List.mem_filter.mpr ⟨hc, hi⟩)
  · simpa [hi] using h
set_option maxRecDepth 65536 in
theorem w_c0 : (Jvm.Cond.code x code maxLocals ret).before args0 about1 = true := code_word (m := ⟨1, 2⟩) (meth := k1m2) (c := k1c2) (by decide +kernel) rfl rfl rfl (by decide +kernel)
set_option maxRecDepth 65536 in
theorem w_c1 : (Jvm.Cond.code ({ cls := "com/example/cafelens/cafelens/ReferenceKind", name := "of", desc := "(I)Lcom/example/cafelens/cafelens/ReferenceKind;" } : Jvm.MethodName) prog_88_method_7_code (1 : Nat) (Option.some (Jvm.ClassFile.FieldType.object "com/example/cafelens/cafelens/ReferenceKind"))).before args0 about1 = true := code_word (m := ⟨6, 1⟩) (meth := k6m1) (c := k6c1) (by decide +kernel) rfl rfl rfl (by decide +kernel)
set_option maxRecDepth 65536 in
theorem w_c2 : (Jvm.Cond.code ({ cls := "com/example/cafelens/cafelens/ReferenceKindOfPinLaw", name := "expected", desc := "(I)Lcom/example/cafelens/cafelens/ReferenceKind;" } : Jvm.MethodName) method_2_code (1 : Nat) (Option.some (Jvm.ClassFile.FieldType.object "com/example/cafelens/cafelens/ReferenceKind"))).before args0 about1 = true := code_word (m := ⟨1, 1⟩) (meth := k1m1) (c := k1c1) (by decide +kernel) rfl rfl rfl (by decide +kernel)
set_option maxRecDepth 65536 in
theorem w_c3 : (Jvm.Cond.code ({ cls := "com/example/cafelens/cafelens/ReferenceKind", name := "number", desc := "()I" } : Jvm.MethodName) prog_88_method_4_code (1 : Nat) (Option.some Jvm.ClassFile.FieldType.int)).before args0 about1 = true := code_word (m := ⟨6, 0⟩) (meth := k6m0) (c := k6c0) (by decide +kernel) rfl rfl rfl (by decide +kernel)
def codes1 : List Jvm.Cond := [Jvm.Cond.code x code maxLocals ret, Jvm.Cond.code ({ cls := "com/example/cafelens/cafelens/ReferenceKind", name := "of", desc := "(I)Lcom/example/cafelens/cafelens/ReferenceKind;" } : Jvm.MethodName) prog_88_method_7_code (1 : Nat) (Option.some (Jvm.ClassFile.FieldType.object "com/example/cafelens/cafelens/ReferenceKind")), Jvm.Cond.code ({ cls := "com/example/cafelens/cafelens/ReferenceKindOfPinLaw", name := "expected", desc := "(I)Lcom/example/cafelens/cafelens/ReferenceKind;" } : Jvm.MethodName) method_2_code (1 : Nat) (Option.some (Jvm.ClassFile.FieldType.object "com/example/cafelens/cafelens/ReferenceKind")), Jvm.Cond.code ({ cls := "com/example/cafelens/cafelens/ReferenceKind", name := "number", desc := "()I" } : Jvm.MethodName) prog_88_method_4_code (1 : Nat) (Option.some Jvm.ClassFile.FieldType.int)]
set_option maxRecDepth 65536 in
theorem codes_eq : words1.filter isCode = codes1 := rfl
theorem w_codes : ∀ c ∈ words1.filter isCode, c.before args0 about1 = true := by
  rw [codes_eq]
  intro c hc
  simp only [codes1, List.mem_cons, List.not_mem_nil, or_false] at hc
  rcases hc with rfl | rfl | rfl | rfl
  · exact w_c0
  · exact w_c1
  · exact w_c2
  · exact w_c3
set_option maxRecDepth 65536 in
theorem w_t1 : (words1.take 24).all (fun c => isCode c || c.before args0 about1) = true := by decide +kernel
set_option maxRecDepth 65536 in
theorem w_t2 : (words1.drop 24).all (fun c => isCode c || c.before args0 about1) = true := by decide +kernel
theorem w_tables : (allAtoms (Jvm.Cond.code x code maxLocals ret :: tables_1)).before args0 about1 = true := by
  rw [allAtoms_all]
  show words1.all (fun c => c.before args0 about1) = true
  refine all_split ?_ w_codes
  rw [← List.take_append_drop 24 words1, List.all_append, w_t1, w_t2]
  rfl
set_option maxRecDepth 65536 in
theorem w_case : (Jvm.Cond.and given_1 narrow_1).before args0 about1 = true := by decide +kernel
theorem w_applies : (headSpec (Jvm.Cond.code x code maxLocals ret :: tables_1) room_1).applies x e0.platform about1 = true :=
  (Spec.applies_iff w_frames).mpr ⟨w_running, w_runnable, w_alone, w_named, w_hears, w_ripe, w_room, w_tables⟩
theorem atStart : AtStart classFile x code maxLocals ret World_1 tables_1 room_1 Calls_1 rest_1 Pre_1 launch0 p0 e0 about1 theMethod args0 below0 :=
  ⟨lists_1, trivial, launch0.admits_env _ _ _, launch0.least_env, fairChoices_fair.cas, fairChoices_fair.clock, w_frames, w_args, w_heap, w_applies, trivial, trivial, w_case⟩
end start1
theorem witness_1 : WitnessClaimed_1 := ⟨start1.p0, start1.e0, start1.about1, start1.theMethod, start1.args0, start1.below0, start1.atStart⟩
end Jvm.Pilot.@@N@@
