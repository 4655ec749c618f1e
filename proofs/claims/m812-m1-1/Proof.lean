import JvmDerived
import JvmDerived.Pilot.@@N@@Statement
import JvmDerived.Pilot.@@N@@Code
set_option linter.unusedVariables false
set_option linter.unusedSimpArgs false
@@BLOCK:NumsL.lean.txt@@
namespace Jvm.RoadKit
open Sem ClassFile Op Lib Jvm.Stand Jvm.Free Jvm.LawKit
section New
variable {p : Program} {l : Launch} {e : Env} {R : Room} {s : State} {m : MethodId} {args : Array Value} {below : List Frame} {meth : Method} {c : Code} {T : State} {locs : List Loc} {cells slots : Nat}
theorem retI (X : Stand p l e R s m args below meth c T locs cells slots) (hx : p.tables.exec = Jvm.exec) {pc : Nat} {Ls : Array Slot} {z : Int32} {rest : List Value} (hret : meth.sig.returnType = some .int) (hd : decode c.code pc = .ok (.ireturn, 1)) {fs : List Frame}
    (hl : ∀ (f : JFrame) (acts : List Action), f.method = m → f.locked = none → f.entered = [] → (doReturn e (T.setTop f) acts (some (.int z))).1 = T.setFrames fs) : Steps p.tables e below (T.setTop (mkF m pc Ls (.int z :: rest))) (T.setFrames fs) := by
  have hm' : T.vm.method? m = some meth := X.method'
  have hn : narrow .int (.int z) = .int z := rfl
  show Steps p.tables e below (T.setTop { method := m, pc := pc, locals := Ls, stack := _ :: rest, locked := none }) _
  jvm_step X.here [X.here.top, hx, hd, hm', hret, hn]
  first | (intro acts; rw [hl _ acts rfl rfl rfl]) | rw [hl _ _ rfl rfl rfl]
  exact Steps.refl _
end New
end Jvm.RoadKit
namespace Jvm.Pilot.@@N@@
open Jvm Jvm.ClassFile Sem Op Lib Jvm.Free Jvm.Stand Jvm.LawKit Jvm.RoadKit Bundle Jvm.Pilot.@@N@@.Jvm.D
section OwnWords
variable {args : Array Value} {Z : State}
theorem own_eqI {t : Term} {k : Int32} (h : (Cond.eq t (.int k)).value args Z none Z [] = some true) : t.eval args Z none [] Z = some (.int k) := by
  simp only [Cond.value, Term.int_eval] at h
  cases ht : t.eval args Z none [] Z with
  | none => simp [ht] at h
  | some x => cases x <;> simp [ht] at h ⊢; exact h
theorem own_eqT {t u : Term} {a : Addr} (h : (Cond.eq t u).value args Z none Z [] = some true) (hu : u.eval args Z none [] Z = some (.ref a)) : t.eval args Z none [] Z = some (.ref a) := by
  simp only [Cond.value, hu] at h
  cases ht : t.eval args Z none [] Z with
  | none => simp [ht] at h
  | some x => cases x <;> simp [ht] at h ⊢; exact h
theorem own_sta {C n d K : String} (h : (Cond.exactly (.static C n d) K).value args Z none Z [] = some true) (hi : (Cond.initialized C).before args Z = true) (hl : (Cond.laysStatic C n d).before args Z = true) :
    ∃ a, (Term.static C n d).eval args Z none [] Z = some (.ref a) ∧ Sta Z Z.heap C n d (.ref a) ∧ Exa Z Z.heap a K := by
  obtain ⟨a, ea⟩ := exa_v h
  exact ⟨a, ea, Sta.start ea (Or.inr ⟨hi, hl⟩), Exa.start ea h⟩
theorem own_fldI {t : Term} {C n d : String} {a : Addr} {k : Int32} (ea : t.eval args Z none [] Z = some (.ref a)) (h : (Cond.eq (.field t C n d) (.int k)).value args Z none Z [] = some true) : Z.fieldOf? a C n d = some (.int k) := by
  have e1 := own_eqI h
  rw [fld_at ea] at e1
  exact e1
theorem own_ne {t t' : Term} {C n d : String} {a b : Addr} {k k' : Int32} (ea : t.eval args Z none [] Z = some (.ref a)) (eb : t'.eval args Z none [] Z = some (.ref b))
    (h : (Cond.eq (.field t C n d) (.int k)).value args Z none Z [] = some true) (h' : (Cond.eq (.field t' C n d) (.int k')).value args Z none Z [] = some true) (hk : k ≠ k') : ¬ a = b := fun q => by
  subst q
  have e1 := own_fldI ea h
  have e2 := own_fldI eb h'
  exact hk (Value.int.inj (Option.some.inj (e1.symm.trans e2)))
end OwnWords
theorem own_kext {h h' : Heap} (K : Keep h h' []) : Ext h h' := ⟨K.1, fun a c q => K.2.1 a c q nin0⟩
section OwnWords2
variable {args : Array Value} {Z : State}
theorem own_fldT {t u : Term} {C n d : String} {a b : Addr} (ea : t.eval args Z none [] Z = some (.ref a)) (h : (Cond.eq (.field t C n d) u).value args Z none Z [] = some true) (hu : u.eval args Z none [] Z = some (.ref b)) : Fld Z Z.heap a C n d (.ref b) := by
  have e1 := own_eqT h hu
  rw [fld_at ea] at e1
  exact Fld.start e1
theorem own_fldK {t : Term} {C n d : String} {a : Addr} {k : Int32} (ea : t.eval args Z none [] Z = some (.ref a)) (h : (Cond.eq (.field t C n d) (.int k)).value args Z none Z [] = some true) : Fld Z Z.heap a C n d (.int k) := Fld.start (own_fldI ea h)
theorem own_fldN {t : Term} {C n d : String} {a : Addr} (ea : t.eval args Z none [] Z = some (.ref a)) (h : (Cond.eq (.field t C n d) .null).value args Z none Z [] = some true) : Fld Z Z.heap a C n d .null := by
  have e1 := null_v h
  rw [fld_at ea] at e1
  exact Fld.start e1
theorem own_fldX {t : Term} {C n d K : String} {a : Addr} (ea : t.eval args Z none [] Z = some (.ref a)) (h : (Cond.exactly (.field t C n d) K).value args Z none Z [] = some true) :
    ∃ b, (Term.field t C n d).eval args Z none [] Z = some (.ref b) ∧ Fld Z Z.heap a C n d (.ref b) ∧ Exa Z Z.heap b K := by
  obtain ⟨b, eb⟩ := exa_v h
  have e1 := eb
  rw [fld_at ea] at e1
  exact ⟨b, eb, Fld.start e1, Exa.start eb h⟩
theorem own_fldA {t : Term} {C n d : String} {a : Addr} {ty : FieldType} (ea : t.eval args Z none [] Z = some (.ref a)) (h : (Cond.arrayOf (.field t C n d) ty).value args Z none Z [] = some true) :
    ∃ b c, (Term.field t C n d).eval args Z none [] Z = some (.ref b) ∧ Fld Z Z.heap a C n d (.ref b) ∧ Arr Z Z.heap b c ty := by
  obtain ⟨b, eb⟩ := arr_v h
  obtain ⟨c, A⟩ := Arr.start eb h
  have e1 := eb
  rw [fld_at ea] at e1
  exact ⟨b, c, eb, Fld.start e1, A⟩
theorem own_len {t : Term} {a : Addr} {cl : Cell} {ty : FieldType} {k : Int32} (ea : t.eval args Z none [] Z = some (.ref a)) (A : Arr Z Z.heap a cl ty) (h : (Cond.eq (.length t) (.int k)).value args Z none Z [] = some true) : cl.slots.size = k.toNatClampNeg ∧ ¬ k < 0 := by
  have e1 := own_eqI h
  have e2 := A.fin (Vm.Alike.refl _)
  by_cases hn : cl.slots.size < 2 ^ 31
  · rw [len_f ea e2 hn] at e1
    have e3 : cl.slots.size.toInt32 = k := Value.int.inj (Option.some.inj e1)
    refine ⟨by rw [← e3]; simp only [Int32.toNatClampNeg, len_toInt hn]; rfl, ?_⟩
    rw [← e3, Int32.lt_iff_toInt_lt, len_toInt hn]
    have : (0 : Int32).toInt = 0 := rfl
    omega
  · simp [Term.eval, ea, e2] at e1
    omega
end OwnWords2
section OwnNums
theorem own_and31 (x : Int32) : 0 ≤ (x &&& (2147483647 : Int32)).toInt := by
  have e : (x &&& (2147483647 : Int32)).toInt = x.toInt % 2 ^ 31 := Jvm.Kit.i32_mask x 2147483647 (k := 31) (by decide) (by decide)
  omega
theorem own_rem {x m : Int32} (hx : 0 ≤ x.toInt) (hm : 0 < m.toInt) : (x - (x / m) * m).toInt = x.toInt % m.toInt := by
  have a := x.toInt_lt
  have e1 : (x / m).toInt = x.toInt / m.toInt := by rw [Jvm.Kit.i32_div (by omega), Int.tdiv_eq_ediv_of_nonneg hx]
  have q0 : 0 ≤ x.toInt / m.toInt * m.toInt := Int.mul_nonneg (Int.ediv_nonneg hx (Int.le_of_lt hm)) (Int.le_of_lt hm)
  have q1 : x.toInt / m.toInt * m.toInt ≤ x.toInt := Int.ediv_mul_le _ (by omega)
  have e2 : ((x / m) * m).toInt = x.toInt / m.toInt * m.toInt := by rw [Jvm.Kit.i32_mul (by rw [e1]; omega) (by rw [e1]; omega), e1]
  rw [Jvm.Kit.i32_sub (by rw [e2]; omega) (by rw [e2]; omega), e2, Int.emod_def, Int.mul_comm]
end OwnNums
theorem own_sub0 {x y : Int32} (h : x - y = 0) : x = y := by
  have e : x - y + y = 0 + y := by rw [h]
  simpa [Int32.sub_add_cancel] using e
section OwnPows
def own_powL : List Int64 := [1, 10, 100, 1000, 10000, 100000, 1000000, 10000000, 100000000, 1000000000, 10000000000, 100000000000, 1000000000000, 10000000000000, 100000000000000, 1000000000000000, 10000000000000000, 100000000000000000, 1000000000000000000]
def own_pow (n : Nat) : Int64 := own_powL.getD n 0
def own_pows : List Value := [(.long (1 : Int64)), (.long (10 : Int64)), (.long (100 : Int64)), (.long (1000 : Int64)), (.long (10000 : Int64)), (.long (100000 : Int64)), (.long (1000000 : Int64)), (.long (10000000 : Int64)), (.long (100000000 : Int64)), (.long (1000000000 : Int64)), (.long (10000000000 : Int64)), (.long (100000000000 : Int64)), (.long (1000000000000 : Int64)), (.long (10000000000000 : Int64)), (.long (100000000000000 : Int64)), (.long (1000000000000000 : Int64)), (.long (10000000000000000 : Int64)), (.long (100000000000000000 : Int64)), (.long (1000000000000000000 : Int64))]
theorem own_powsMap : own_pows = own_powL.map Value.long := rfl
theorem own_powsAt (n : Nat) : own_pows.getD n (.long (0 : Int64)) = .long (own_pow n) := by
  rw [own_powsMap, own_pow, List.getD_eq_getElem?_getD, List.getD_eq_getElem?_getD, List.getElem?_map]
  cases own_powL[n]? <;> rfl
theorem own_powFacts : ∀ n : Fin 19, ((1000000000000000000 : Int64) - 1) / own_pow n.val = own_pow (18 - n.val) - 1 ∧ 0 < (own_pow n.val).toInt ∧ 0 < (own_pow (18 - n.val)).toInt ∧ (own_pow (18 - n.val)).toInt ≤ 1000000000000000000 := by decide +kernel
/-- a number between 0 and 18 -/
theorem own_dBounds {d : Int32} (h0 : 0 ≤ d.toInt) (h1 : ¬ (18 : Int32) < d) : d.toNatClampNeg < 19 ∧ ¬ d < 0 ∧ d < 19 ∧ ¬ ((18 : Int32) - d) < 0 ∧ ((18 : Int32) - d) < 19 ∧ ((18 : Int32) - d).toNatClampNeg = 18 - d.toNatClampNeg := by
  rw [Int32.lt_iff_toInt_lt] at h1
  have e18 : (18 : Int32).toInt = 18 := rfl
  have e19 : (19 : Int32).toInt = 19 := rfl
  have e0 : (0 : Int32).toInt = 0 := rfl
  have es : ((18 : Int32) - d).toInt = 18 - d.toInt := by rw [Jvm.Kit.i32_sub (by omega) (by omega), e18]
  simp only [Int32.lt_iff_toInt_lt, Int32.toNatClampNeg, es, e19, e0]
  omega
theorem own_inb19 {j : Int32} {cl : Cell} (h0 : ¬ j < 0) (h1 : j < 19) (S : cl.slots.size = (19 : Int32).toNatClampNeg) : ¬ (j < 0 ∨ cl.slots.size ≤ j.toNatClampNeg) := inb_of S ⟨h0, h1⟩
theorem own_diff (f d : Int32) : f + d - f = d := by rw [Int32.add_comm]; exact Int32.add_sub_cancel d f
/-- how the two comparisons with the limit stand -/
theorem own_cmp {u P : Int64} (h1 : 0 < P.toInt) (h2 : P.toInt ≤ 1000000000000000000) :
    (lcmpW u (-(P - 1)) < 0 → lcmpW u P < 0 ∧ ¬ 0 < lcmpW u (-P)) ∧ (0 < lcmpW u (P - 1) → ¬ lcmpW u P < 0) ∧ (¬ lcmpW u (-(P - 1)) < 0 → ¬ 0 < lcmpW u (P - 1) → lcmpW u P < 0 ∧ 0 < lcmpW u (-P)) := by
  have e1 : (1 : Int64).toInt = 1 := rfl
  have a1 : (P - 1).toInt = P.toInt - 1 := by rw [Jvm.Kit.i64_sub (by omega) (by omega), e1]
  have a2 : (-(P - 1)).toInt = -(P.toInt - 1) := by rw [Jvm.Kit.i64_neg (by omega), a1]
  have a3 : (-P).toInt = -P.toInt := Jvm.Kit.i64_neg (by omega)
  simp only [lw_lt, lw_gt, Int64.lt_iff_toInt_lt, a1, a2, a3]
  omega
theorem own_elemL {args : Array Value} {Z : State} {t : Term} {a : Addr} {cl : Cell} {ty : FieldType} {i : Int32} {v : Int64} (ea : t.eval args Z none [] Z = some (.ref a)) (A : Arr Z Z.heap a cl ty) (h : (Cond.eq (.elem t (.int i)) (.long v)).value args Z none Z [] = some true) : cl.slots[i.toNatClampNeg]? = some (.long v) := by
  obtain ⟨x, y, e1, e2, -, k⟩ := cmp_v (Or.inl h)
  have e3 : (Term.long v).eval args Z none [] Z = some (.long v) := rfl
  cases e2.symm.trans e3
  obtain ⟨z, rfl⟩ := k
  have q := gotT (eq_L e1 e3) h
  subst q
  exact (elem_in e1 ea rfl A.1).2
end OwnPows
def own_Q (r : Value) (h0 : Heap) (n0 : Nat) (v : Option Value) (h : Heap) (L : List Loc) : Prop := v = some r ∧ Fr n0 L ∧ h = h0
theorem d1_0 : decode method_2_code 0 = .ok (.bipush 19, 2) := by decide +kernel
theorem d1_2 : decode method_2_code 2 = .ok (.newarray .long, 2) := by decide +kernel
theorem d1_4 : decode method_2_code 4 = .ok (.dup, 1) := by decide +kernel
theorem d1_5 : decode method_2_code 5 = .ok (.iconst 0, 1) := by decide +kernel
theorem d1_6 : decode method_2_code 6 = .ok (.lconst 1, 1) := by decide +kernel
theorem d1_7 : decode method_2_code 7 = .ok (.lastore, 1) := by decide +kernel
theorem d1_8 : decode method_2_code 8 = .ok (.dup, 1) := by decide +kernel
theorem d1_9 : decode method_2_code 9 = .ok (.iconst 1, 1) := by decide +kernel
theorem d1_10 : decode method_2_code 10 = .ok (.ldc2_w 7, 3) := by decide +kernel
theorem d1_13 : decode method_2_code 13 = .ok (.lastore, 1) := by decide +kernel
theorem d1_14 : decode method_2_code 14 = .ok (.dup, 1) := by decide +kernel
theorem d1_15 : decode method_2_code 15 = .ok (.iconst 2, 1) := by decide +kernel
theorem d1_16 : decode method_2_code 16 = .ok (.ldc2_w 9, 3) := by decide +kernel
theorem d1_19 : decode method_2_code 19 = .ok (.lastore, 1) := by decide +kernel
theorem d1_20 : decode method_2_code 20 = .ok (.dup, 1) := by decide +kernel
theorem d1_21 : decode method_2_code 21 = .ok (.iconst 3, 1) := by decide +kernel
theorem d1_22 : decode method_2_code 22 = .ok (.ldc2_w 11, 3) := by decide +kernel
theorem d1_25 : decode method_2_code 25 = .ok (.lastore, 1) := by decide +kernel
theorem d1_26 : decode method_2_code 26 = .ok (.dup, 1) := by decide +kernel
theorem d1_27 : decode method_2_code 27 = .ok (.iconst 4, 1) := by decide +kernel
theorem d1_28 : decode method_2_code 28 = .ok (.ldc2_w 13, 3) := by decide +kernel
theorem d1_31 : decode method_2_code 31 = .ok (.lastore, 1) := by decide +kernel
theorem d1_32 : decode method_2_code 32 = .ok (.dup, 1) := by decide +kernel
theorem d1_33 : decode method_2_code 33 = .ok (.iconst 5, 1) := by decide +kernel
theorem d1_34 : decode method_2_code 34 = .ok (.ldc2_w 15, 3) := by decide +kernel
theorem d1_37 : decode method_2_code 37 = .ok (.lastore, 1) := by decide +kernel
theorem d1_38 : decode method_2_code 38 = .ok (.dup, 1) := by decide +kernel
theorem d1_39 : decode method_2_code 39 = .ok (.bipush 6, 2) := by decide +kernel
theorem d1_41 : decode method_2_code 41 = .ok (.ldc2_w 17, 3) := by decide +kernel
theorem d1_44 : decode method_2_code 44 = .ok (.lastore, 1) := by decide +kernel
theorem d1_45 : decode method_2_code 45 = .ok (.dup, 1) := by decide +kernel
theorem d1_46 : decode method_2_code 46 = .ok (.bipush 7, 2) := by decide +kernel
theorem d1_48 : decode method_2_code 48 = .ok (.ldc2_w 19, 3) := by decide +kernel
theorem d1_51 : decode method_2_code 51 = .ok (.lastore, 1) := by decide +kernel
theorem d1_52 : decode method_2_code 52 = .ok (.dup, 1) := by decide +kernel
theorem d1_53 : decode method_2_code 53 = .ok (.bipush 8, 2) := by decide +kernel
theorem d1_55 : decode method_2_code 55 = .ok (.ldc2_w 21, 3) := by decide +kernel
theorem d1_58 : decode method_2_code 58 = .ok (.lastore, 1) := by decide +kernel
theorem d1_59 : decode method_2_code 59 = .ok (.dup, 1) := by decide +kernel
theorem d1_60 : decode method_2_code 60 = .ok (.bipush 9, 2) := by decide +kernel
theorem d1_62 : decode method_2_code 62 = .ok (.ldc2_w 23, 3) := by decide +kernel
theorem d1_65 : decode method_2_code 65 = .ok (.lastore, 1) := by decide +kernel
theorem d1_66 : decode method_2_code 66 = .ok (.dup, 1) := by decide +kernel
theorem d1_67 : decode method_2_code 67 = .ok (.bipush 10, 2) := by decide +kernel
theorem d1_69 : decode method_2_code 69 = .ok (.ldc2_w 25, 3) := by decide +kernel
theorem d1_72 : decode method_2_code 72 = .ok (.lastore, 1) := by decide +kernel
theorem d1_73 : decode method_2_code 73 = .ok (.dup, 1) := by decide +kernel
theorem d1_74 : decode method_2_code 74 = .ok (.bipush 11, 2) := by decide +kernel
theorem d1_76 : decode method_2_code 76 = .ok (.ldc2_w 27, 3) := by decide +kernel
theorem d1_79 : decode method_2_code 79 = .ok (.lastore, 1) := by decide +kernel
theorem d1_80 : decode method_2_code 80 = .ok (.dup, 1) := by decide +kernel
theorem d1_81 : decode method_2_code 81 = .ok (.bipush 12, 2) := by decide +kernel
theorem d1_83 : decode method_2_code 83 = .ok (.ldc2_w 29, 3) := by decide +kernel
theorem d1_86 : decode method_2_code 86 = .ok (.lastore, 1) := by decide +kernel
theorem d1_87 : decode method_2_code 87 = .ok (.dup, 1) := by decide +kernel
theorem d1_88 : decode method_2_code 88 = .ok (.bipush 13, 2) := by decide +kernel
theorem d1_90 : decode method_2_code 90 = .ok (.ldc2_w 31, 3) := by decide +kernel
theorem d1_93 : decode method_2_code 93 = .ok (.lastore, 1) := by decide +kernel
theorem d1_94 : decode method_2_code 94 = .ok (.dup, 1) := by decide +kernel
theorem d1_95 : decode method_2_code 95 = .ok (.bipush 14, 2) := by decide +kernel
theorem d1_97 : decode method_2_code 97 = .ok (.ldc2_w 33, 3) := by decide +kernel
theorem d1_100 : decode method_2_code 100 = .ok (.lastore, 1) := by decide +kernel
theorem d1_101 : decode method_2_code 101 = .ok (.dup, 1) := by decide +kernel
theorem d1_102 : decode method_2_code 102 = .ok (.bipush 15, 2) := by decide +kernel
theorem d1_104 : decode method_2_code 104 = .ok (.ldc2_w 35, 3) := by decide +kernel
theorem d1_107 : decode method_2_code 107 = .ok (.lastore, 1) := by decide +kernel
theorem d1_108 : decode method_2_code 108 = .ok (.dup, 1) := by decide +kernel
theorem d1_109 : decode method_2_code 109 = .ok (.bipush 16, 2) := by decide +kernel
theorem d1_111 : decode method_2_code 111 = .ok (.ldc2_w 37, 3) := by decide +kernel
theorem d1_114 : decode method_2_code 114 = .ok (.lastore, 1) := by decide +kernel
theorem d1_115 : decode method_2_code 115 = .ok (.dup, 1) := by decide +kernel
theorem d1_116 : decode method_2_code 116 = .ok (.bipush 17, 2) := by decide +kernel
theorem d1_118 : decode method_2_code 118 = .ok (.ldc2_w 39, 3) := by decide +kernel
theorem d1_121 : decode method_2_code 121 = .ok (.lastore, 1) := by decide +kernel
theorem d1_122 : decode method_2_code 122 = .ok (.dup, 1) := by decide +kernel
theorem d1_123 : decode method_2_code 123 = .ok (.bipush 18, 2) := by decide +kernel
theorem d1_125 : decode method_2_code 125 = .ok (.ldc2_w 41, 3) := by decide +kernel
theorem d1_128 : decode method_2_code 128 = .ok (.lastore, 1) := by decide +kernel
theorem d1_129 : decode method_2_code 129 = .ok (.astore_n 1, 1) := by decide +kernel
theorem d1_130 : decode method_2_code 130 = .ok (.aload_n 1, 1) := by decide +kernel
theorem d1_131 : decode method_2_code 131 = .ok (.iload_n 0, 1) := by decide +kernel
theorem d1_132 : decode method_2_code 132 = .ok (.laload, 1) := by decide +kernel
theorem d1_133 : decode method_2_code 133 = .ok (.lreturn, 1) := by decide +kernel
theorem pn_1 : plainName "com/example/tollwise/tollwise/DecimalsRescaledPinLaw" = true := by first | (simp [plainName, overriddenIn]; done) | decide +kernel
theorem ef_1 (m : MethodId) (x0 : Int32) : entryFrame m #[(.int x0)] 2 = mkF m 0 #[.val (.int x0), .unset] [] := by first | (simp [entryFrame, mkF, argsToLocals, Value.category]; done) | rfl
def Q1 (Z : State) (p1 : Int32) (w22 : Int64) (h0 : Heap) (n0 : Nat) (v : Option Value) (h : Heap) (L : List Loc) : Prop := v = some (.long w22) ∧ Fr n0 L ∧ Keep h0 h []
set_option maxRecDepth 65536 in
set_option maxHeartbeats 40000000 in
theorem rm1 (l : Launch) (Z : State) (a0 : Array Value) (hw : ∀ d ∈ tables_1, d.before a0 Z = true) (ws : List Jvm.Cond) (p1 : Int32) (w22 : Int64) (h0 : Heap) (n0 : Nat) (Z0 : n0 ≤ h0.size) (hp : ¬ p1 < 0 ∧ p1 < (19 : Int32)) (hv : own_pows.getD p1.toNatClampNeg (.long (0 : Int64)) = .long w22) :
    MetFree l (⟨"com/example/tollwise/tollwise/DecimalsRescaledPinLaw", "pow10", "(I)J"⟩ : MethodName) (head1 (Jvm.Cond.code (⟨"com/example/tollwise/tollwise/DecimalsRescaledPinLaw", "pow10", "(I)J"⟩ : MethodName) method_2_code 2 (some .long) :: ws) ({ frames := 0, cells := 1, slots := 19, locals := 0 } : Room)) (fun a U => a = #[(.int p1)] ∧ Z.Warmed39 U.vm ∧ U.heap = h0) (fun _ _ _ _ _ => True) (fun _ U o U' => ∃ v L, o = .returned v ∧ Q1 Z p1 w22 h0 n0 v U'.heap L ∧ FrameEnd U o U' L ({ frames := 0, cells := 1, slots := 19, locals := 0 } : Room).cells ({ frames := 0, cells := 1, slots := 19, locals := 0 } : Room).slots) := by
  refine MetFree.of_bodySF (plainFor_of_name pn_1) hisR ?_
  intro p e s m args below meth c s₁ Bd hml0 hP hK
  obtain ⟨rfl, hZ, hh⟩ := hP
  have hx := Bd.exec
  have hby := Bd.bytes
  have hml : c.maxLocals = 2 := hml0
  have hown : s.vm.findClass "com/example/tollwise/tollwise/DecimalsRescaledPinLaw" = some m.cls := findClass_of_methodNamed Bd.named
  have hnm := (name_of_methodNamed Bd.named Bd.method).1
  have X0 : Stand p l e ({ frames := 0, cells := 1, slots := 19, locals := 0 } : Room) s m #[(.int p1)] below meth c s₁ [] 0 0 := Stand.of_body Bd
  have e0 : s₁.heap = h0 := by rw [← hh, Bd.state]; rfl
  have N0 := Fr.nil n0
  have pre0 : ∀ t, Steps p.tables e below (s₁.setTop (mkF m 0 #[.val (.int p1), .unset] [])) t → Steps p.tables e below (s₁.setTop (entryFrame m #[(.int p1)] 2)) t := fun t k => castTop (ef_1 m p1) k
  obtain ⟨T2, h2, k2, X2, e2, E2, A2, st2⟩ := newP X0 hx hZ (hw _ (List.mem_of_getElem? (i := 6) rfl)) e0 (g := (mkF m 2 #[.val (.int p1), .unset] [(.int (19 : Int32))])) rfl (hb hby d1_2) rfl (by decide) (cap := 19) (by decide) (by decide) (by decide) (by decide)
  obtain ⟨b2, g2⟩ : ∃ z, z = h0.size := ⟨_, rfl⟩
  rw [← g2] at A2 st2
  have V_b2 : Arv Z h2 b2 k2 .long (19 : Int32) [(.long (0 : Int64)), (.long (0 : Int64)), (.long (0 : Int64)), (.long (0 : Int64)), (.long (0 : Int64)), (.long (0 : Int64)), (.long (0 : Int64)), (.long (0 : Int64)), (.long (0 : Int64)), (.long (0 : Int64)), (.long (0 : Int64)), (.long (0 : Int64)), (.long (0 : Int64)), (.long (0 : Int64)), (.long (0 : Int64)), (.long (0 : Int64)), (.long (0 : Int64)), (.long (0 : Int64)), (.long (0 : Int64))] (.long (0 : Int64)) := (Arv.new A2 (by decide)).pad (pad_rep [] (.long (0 : Int64)) 19)
  have g_b2 : n0 ≤ b2 := Nat.le_trans Z0 (Nat.le_of_eq g2.symm)
  have sz_b2 : h0.size ≤ b2 := (Nat.le_trans (Keep.refl h0 []).1 (Nat.le_of_eq g2.symm))
  have K2 : Keep h0 h2 [] := (Keep.refl h0 []).ext E2
  obtain ⟨cl_b2_7, Ar_b2, q_b2, S_b2, N_b2, H_b2, G_b2⟩ := V_b2
  have hin7 : ¬ ((0 : Int32) < 0 ∨ cl_b2_7.slots.size ≤ ((0 : Int32)).toNatClampNeg) := inb_of S_b2 ⟨by decide, by decide⟩
  obtain ⟨T3, h3, X3, e3, W3, st3⟩ := stJ X2 hx hZ e2 Ar_b2 (j := (0 : Int32)) hin7 (g := (mkF m 7 #[.val (.int p1), .unset] [(.long (1 : Int64)), (.int (0 : Int32)), (.ref b2), (.ref b2)])) rfl rfl (hb hby d1_7)
  have V_b2_3 := Arv.set Ar_b2 q_b2 S_b2 N_b2 H_b2 G_b2 rfl W3 0 rfl (Nat.le_of_ble_eq_true rfl)
  have K3 : Keep h0 h3 [] := K2.wr W3 (Or.inr sz_b2)
  have N3 := Fr.snoc X3 N0 g_b2
  obtain ⟨cl_b2_13, Ar_b2, q_b2, S_b2, N_b2, H_b2, G_b2⟩ := V_b2_3
  have hin13 : ¬ ((1 : Int32) < 0 ∨ cl_b2_13.slots.size ≤ ((1 : Int32)).toNatClampNeg) := inb_of S_b2 ⟨by decide, by decide⟩
  obtain ⟨T4, h4, X4, e4, W4, st4⟩ := stJ X3 hx hZ e3 Ar_b2 (j := (1 : Int32)) hin13 (g := (mkF m 13 #[.val (.int p1), .unset] [(.long (10 : Int64)), (.int (1 : Int32)), (.ref b2), (.ref b2)])) rfl rfl (hb hby d1_13)
  have V_b2_4 := Arv.set Ar_b2 q_b2 S_b2 N_b2 H_b2 G_b2 rfl W4 1 rfl (Nat.le_of_ble_eq_true rfl)
  have K4 : Keep h0 h4 [] := K3.wr W4 (Or.inr sz_b2)
  have N4 := Fr.snoc X4 N3 g_b2
  obtain ⟨cl_b2_19, Ar_b2, q_b2, S_b2, N_b2, H_b2, G_b2⟩ := V_b2_4
  have hin19 : ¬ ((2 : Int32) < 0 ∨ cl_b2_19.slots.size ≤ ((2 : Int32)).toNatClampNeg) := inb_of S_b2 ⟨by decide, by decide⟩
  obtain ⟨T5, h5, X5, e5, W5, st5⟩ := stJ X4 hx hZ e4 Ar_b2 (j := (2 : Int32)) hin19 (g := (mkF m 19 #[.val (.int p1), .unset] [(.long (100 : Int64)), (.int (2 : Int32)), (.ref b2), (.ref b2)])) rfl rfl (hb hby d1_19)
  have V_b2_5 := Arv.set Ar_b2 q_b2 S_b2 N_b2 H_b2 G_b2 rfl W5 2 rfl (Nat.le_of_ble_eq_true rfl)
  have K5 : Keep h0 h5 [] := K4.wr W5 (Or.inr sz_b2)
  have N5 := Fr.snoc X5 N4 g_b2
  obtain ⟨cl_b2_25, Ar_b2, q_b2, S_b2, N_b2, H_b2, G_b2⟩ := V_b2_5
  have hin25 : ¬ ((3 : Int32) < 0 ∨ cl_b2_25.slots.size ≤ ((3 : Int32)).toNatClampNeg) := inb_of S_b2 ⟨by decide, by decide⟩
  obtain ⟨T6, h6, X6, e6, W6, st6⟩ := stJ X5 hx hZ e5 Ar_b2 (j := (3 : Int32)) hin25 (g := (mkF m 25 #[.val (.int p1), .unset] [(.long (1000 : Int64)), (.int (3 : Int32)), (.ref b2), (.ref b2)])) rfl rfl (hb hby d1_25)
  have V_b2_6 := Arv.set Ar_b2 q_b2 S_b2 N_b2 H_b2 G_b2 rfl W6 3 rfl (Nat.le_of_ble_eq_true rfl)
  have K6 : Keep h0 h6 [] := K5.wr W6 (Or.inr sz_b2)
  have N6 := Fr.snoc X6 N5 g_b2
  obtain ⟨cl_b2_31, Ar_b2, q_b2, S_b2, N_b2, H_b2, G_b2⟩ := V_b2_6
  have hin31 : ¬ ((4 : Int32) < 0 ∨ cl_b2_31.slots.size ≤ ((4 : Int32)).toNatClampNeg) := inb_of S_b2 ⟨by decide, by decide⟩
  obtain ⟨T7, h7, X7, e7, W7, st7⟩ := stJ X6 hx hZ e6 Ar_b2 (j := (4 : Int32)) hin31 (g := (mkF m 31 #[.val (.int p1), .unset] [(.long (10000 : Int64)), (.int (4 : Int32)), (.ref b2), (.ref b2)])) rfl rfl (hb hby d1_31)
  have V_b2_7 := Arv.set Ar_b2 q_b2 S_b2 N_b2 H_b2 G_b2 rfl W7 4 rfl (Nat.le_of_ble_eq_true rfl)
  have K7 : Keep h0 h7 [] := K6.wr W7 (Or.inr sz_b2)
  have N7 := Fr.snoc X7 N6 g_b2
  obtain ⟨cl_b2_37, Ar_b2, q_b2, S_b2, N_b2, H_b2, G_b2⟩ := V_b2_7
  have hin37 : ¬ ((5 : Int32) < 0 ∨ cl_b2_37.slots.size ≤ ((5 : Int32)).toNatClampNeg) := inb_of S_b2 ⟨by decide, by decide⟩
  obtain ⟨T8, h8, X8, e8, W8, st8⟩ := stJ X7 hx hZ e7 Ar_b2 (j := (5 : Int32)) hin37 (g := (mkF m 37 #[.val (.int p1), .unset] [(.long (100000 : Int64)), (.int (5 : Int32)), (.ref b2), (.ref b2)])) rfl rfl (hb hby d1_37)
  have V_b2_8 := Arv.set Ar_b2 q_b2 S_b2 N_b2 H_b2 G_b2 rfl W8 5 rfl (Nat.le_of_ble_eq_true rfl)
  have K8 : Keep h0 h8 [] := K7.wr W8 (Or.inr sz_b2)
  have N8 := Fr.snoc X8 N7 g_b2
  obtain ⟨cl_b2_44, Ar_b2, q_b2, S_b2, N_b2, H_b2, G_b2⟩ := V_b2_8
  have hin44 : ¬ ((6 : Int32) < 0 ∨ cl_b2_44.slots.size ≤ ((6 : Int32)).toNatClampNeg) := inb_of S_b2 ⟨by decide, by decide⟩
  obtain ⟨T9, h9, X9, e9, W9, st9⟩ := stJ X8 hx hZ e8 Ar_b2 (j := (6 : Int32)) hin44 (g := (mkF m 44 #[.val (.int p1), .unset] [(.long (1000000 : Int64)), (.int (6 : Int32)), (.ref b2), (.ref b2)])) rfl rfl (hb hby d1_44)
  have V_b2_9 := Arv.set Ar_b2 q_b2 S_b2 N_b2 H_b2 G_b2 rfl W9 6 rfl (Nat.le_of_ble_eq_true rfl)
  have K9 : Keep h0 h9 [] := K8.wr W9 (Or.inr sz_b2)
  have N9 := Fr.snoc X9 N8 g_b2
  obtain ⟨cl_b2_51, Ar_b2, q_b2, S_b2, N_b2, H_b2, G_b2⟩ := V_b2_9
  have hin51 : ¬ ((7 : Int32) < 0 ∨ cl_b2_51.slots.size ≤ ((7 : Int32)).toNatClampNeg) := inb_of S_b2 ⟨by decide, by decide⟩
  obtain ⟨T10, h10, X10, e10, W10, st10⟩ := stJ X9 hx hZ e9 Ar_b2 (j := (7 : Int32)) hin51 (g := (mkF m 51 #[.val (.int p1), .unset] [(.long (10000000 : Int64)), (.int (7 : Int32)), (.ref b2), (.ref b2)])) rfl rfl (hb hby d1_51)
  have V_b2_10 := Arv.set Ar_b2 q_b2 S_b2 N_b2 H_b2 G_b2 rfl W10 7 rfl (Nat.le_of_ble_eq_true rfl)
  have K10 : Keep h0 h10 [] := K9.wr W10 (Or.inr sz_b2)
  have N10 := Fr.snoc X10 N9 g_b2
  obtain ⟨cl_b2_58, Ar_b2, q_b2, S_b2, N_b2, H_b2, G_b2⟩ := V_b2_10
  have hin58 : ¬ ((8 : Int32) < 0 ∨ cl_b2_58.slots.size ≤ ((8 : Int32)).toNatClampNeg) := inb_of S_b2 ⟨by decide, by decide⟩
  obtain ⟨T11, h11, X11, e11, W11, st11⟩ := stJ X10 hx hZ e10 Ar_b2 (j := (8 : Int32)) hin58 (g := (mkF m 58 #[.val (.int p1), .unset] [(.long (100000000 : Int64)), (.int (8 : Int32)), (.ref b2), (.ref b2)])) rfl rfl (hb hby d1_58)
  have V_b2_11 := Arv.set Ar_b2 q_b2 S_b2 N_b2 H_b2 G_b2 rfl W11 8 rfl (Nat.le_of_ble_eq_true rfl)
  have K11 : Keep h0 h11 [] := K10.wr W11 (Or.inr sz_b2)
  have N11 := Fr.snoc X11 N10 g_b2
  obtain ⟨cl_b2_65, Ar_b2, q_b2, S_b2, N_b2, H_b2, G_b2⟩ := V_b2_11
  have hin65 : ¬ ((9 : Int32) < 0 ∨ cl_b2_65.slots.size ≤ ((9 : Int32)).toNatClampNeg) := inb_of S_b2 ⟨by decide, by decide⟩
  obtain ⟨T12, h12, X12, e12, W12, st12⟩ := stJ X11 hx hZ e11 Ar_b2 (j := (9 : Int32)) hin65 (g := (mkF m 65 #[.val (.int p1), .unset] [(.long (1000000000 : Int64)), (.int (9 : Int32)), (.ref b2), (.ref b2)])) rfl rfl (hb hby d1_65)
  have V_b2_12 := Arv.set Ar_b2 q_b2 S_b2 N_b2 H_b2 G_b2 rfl W12 9 rfl (Nat.le_of_ble_eq_true rfl)
  have K12 : Keep h0 h12 [] := K11.wr W12 (Or.inr sz_b2)
  have N12 := Fr.snoc X12 N11 g_b2
  obtain ⟨cl_b2_72, Ar_b2, q_b2, S_b2, N_b2, H_b2, G_b2⟩ := V_b2_12
  have hin72 : ¬ ((10 : Int32) < 0 ∨ cl_b2_72.slots.size ≤ ((10 : Int32)).toNatClampNeg) := inb_of S_b2 ⟨by decide, by decide⟩
  obtain ⟨T13, h13, X13, e13, W13, st13⟩ := stJ X12 hx hZ e12 Ar_b2 (j := (10 : Int32)) hin72 (g := (mkF m 72 #[.val (.int p1), .unset] [(.long (10000000000 : Int64)), (.int (10 : Int32)), (.ref b2), (.ref b2)])) rfl rfl (hb hby d1_72)
  have V_b2_13 := Arv.set Ar_b2 q_b2 S_b2 N_b2 H_b2 G_b2 rfl W13 10 rfl (Nat.le_of_ble_eq_true rfl)
  have K13 : Keep h0 h13 [] := K12.wr W13 (Or.inr sz_b2)
  have N13 := Fr.snoc X13 N12 g_b2
  obtain ⟨cl_b2_79, Ar_b2, q_b2, S_b2, N_b2, H_b2, G_b2⟩ := V_b2_13
  have hin79 : ¬ ((11 : Int32) < 0 ∨ cl_b2_79.slots.size ≤ ((11 : Int32)).toNatClampNeg) := inb_of S_b2 ⟨by decide, by decide⟩
  obtain ⟨T14, h14, X14, e14, W14, st14⟩ := stJ X13 hx hZ e13 Ar_b2 (j := (11 : Int32)) hin79 (g := (mkF m 79 #[.val (.int p1), .unset] [(.long (100000000000 : Int64)), (.int (11 : Int32)), (.ref b2), (.ref b2)])) rfl rfl (hb hby d1_79)
  have V_b2_14 := Arv.set Ar_b2 q_b2 S_b2 N_b2 H_b2 G_b2 rfl W14 11 rfl (Nat.le_of_ble_eq_true rfl)
  have K14 : Keep h0 h14 [] := K13.wr W14 (Or.inr sz_b2)
  have N14 := Fr.snoc X14 N13 g_b2
  obtain ⟨cl_b2_86, Ar_b2, q_b2, S_b2, N_b2, H_b2, G_b2⟩ := V_b2_14
  have hin86 : ¬ ((12 : Int32) < 0 ∨ cl_b2_86.slots.size ≤ ((12 : Int32)).toNatClampNeg) := inb_of S_b2 ⟨by decide, by decide⟩
  obtain ⟨T15, h15, X15, e15, W15, st15⟩ := stJ X14 hx hZ e14 Ar_b2 (j := (12 : Int32)) hin86 (g := (mkF m 86 #[.val (.int p1), .unset] [(.long (1000000000000 : Int64)), (.int (12 : Int32)), (.ref b2), (.ref b2)])) rfl rfl (hb hby d1_86)
  have V_b2_15 := Arv.set Ar_b2 q_b2 S_b2 N_b2 H_b2 G_b2 rfl W15 12 rfl (Nat.le_of_ble_eq_true rfl)
  have K15 : Keep h0 h15 [] := K14.wr W15 (Or.inr sz_b2)
  have N15 := Fr.snoc X15 N14 g_b2
  obtain ⟨cl_b2_93, Ar_b2, q_b2, S_b2, N_b2, H_b2, G_b2⟩ := V_b2_15
  have hin93 : ¬ ((13 : Int32) < 0 ∨ cl_b2_93.slots.size ≤ ((13 : Int32)).toNatClampNeg) := inb_of S_b2 ⟨by decide, by decide⟩
  obtain ⟨T16, h16, X16, e16, W16, st16⟩ := stJ X15 hx hZ e15 Ar_b2 (j := (13 : Int32)) hin93 (g := (mkF m 93 #[.val (.int p1), .unset] [(.long (10000000000000 : Int64)), (.int (13 : Int32)), (.ref b2), (.ref b2)])) rfl rfl (hb hby d1_93)
  have V_b2_16 := Arv.set Ar_b2 q_b2 S_b2 N_b2 H_b2 G_b2 rfl W16 13 rfl (Nat.le_of_ble_eq_true rfl)
  have K16 : Keep h0 h16 [] := K15.wr W16 (Or.inr sz_b2)
  have N16 := Fr.snoc X16 N15 g_b2
  obtain ⟨cl_b2_100, Ar_b2, q_b2, S_b2, N_b2, H_b2, G_b2⟩ := V_b2_16
  have hin100 : ¬ ((14 : Int32) < 0 ∨ cl_b2_100.slots.size ≤ ((14 : Int32)).toNatClampNeg) := inb_of S_b2 ⟨by decide, by decide⟩
  obtain ⟨T17, h17, X17, e17, W17, st17⟩ := stJ X16 hx hZ e16 Ar_b2 (j := (14 : Int32)) hin100 (g := (mkF m 100 #[.val (.int p1), .unset] [(.long (100000000000000 : Int64)), (.int (14 : Int32)), (.ref b2), (.ref b2)])) rfl rfl (hb hby d1_100)
  have V_b2_17 := Arv.set Ar_b2 q_b2 S_b2 N_b2 H_b2 G_b2 rfl W17 14 rfl (Nat.le_of_ble_eq_true rfl)
  have K17 : Keep h0 h17 [] := K16.wr W17 (Or.inr sz_b2)
  have N17 := Fr.snoc X17 N16 g_b2
  obtain ⟨cl_b2_107, Ar_b2, q_b2, S_b2, N_b2, H_b2, G_b2⟩ := V_b2_17
  have hin107 : ¬ ((15 : Int32) < 0 ∨ cl_b2_107.slots.size ≤ ((15 : Int32)).toNatClampNeg) := inb_of S_b2 ⟨by decide, by decide⟩
  obtain ⟨T18, h18, X18, e18, W18, st18⟩ := stJ X17 hx hZ e17 Ar_b2 (j := (15 : Int32)) hin107 (g := (mkF m 107 #[.val (.int p1), .unset] [(.long (1000000000000000 : Int64)), (.int (15 : Int32)), (.ref b2), (.ref b2)])) rfl rfl (hb hby d1_107)
  have V_b2_18 := Arv.set Ar_b2 q_b2 S_b2 N_b2 H_b2 G_b2 rfl W18 15 rfl (Nat.le_of_ble_eq_true rfl)
  have K18 : Keep h0 h18 [] := K17.wr W18 (Or.inr sz_b2)
  have N18 := Fr.snoc X18 N17 g_b2
  obtain ⟨cl_b2_114, Ar_b2, q_b2, S_b2, N_b2, H_b2, G_b2⟩ := V_b2_18
  have hin114 : ¬ ((16 : Int32) < 0 ∨ cl_b2_114.slots.size ≤ ((16 : Int32)).toNatClampNeg) := inb_of S_b2 ⟨by decide, by decide⟩
  obtain ⟨T19, h19, X19, e19, W19, st19⟩ := stJ X18 hx hZ e18 Ar_b2 (j := (16 : Int32)) hin114 (g := (mkF m 114 #[.val (.int p1), .unset] [(.long (10000000000000000 : Int64)), (.int (16 : Int32)), (.ref b2), (.ref b2)])) rfl rfl (hb hby d1_114)
  have V_b2_19 := Arv.set Ar_b2 q_b2 S_b2 N_b2 H_b2 G_b2 rfl W19 16 rfl (Nat.le_of_ble_eq_true rfl)
  have K19 : Keep h0 h19 [] := K18.wr W19 (Or.inr sz_b2)
  have N19 := Fr.snoc X19 N18 g_b2
  obtain ⟨cl_b2_121, Ar_b2, q_b2, S_b2, N_b2, H_b2, G_b2⟩ := V_b2_19
  have hin121 : ¬ ((17 : Int32) < 0 ∨ cl_b2_121.slots.size ≤ ((17 : Int32)).toNatClampNeg) := inb_of S_b2 ⟨by decide, by decide⟩
  obtain ⟨T20, h20, X20, e20, W20, st20⟩ := stJ X19 hx hZ e19 Ar_b2 (j := (17 : Int32)) hin121 (g := (mkF m 121 #[.val (.int p1), .unset] [(.long (100000000000000000 : Int64)), (.int (17 : Int32)), (.ref b2), (.ref b2)])) rfl rfl (hb hby d1_121)
  have V_b2_20 := Arv.set Ar_b2 q_b2 S_b2 N_b2 H_b2 G_b2 rfl W20 17 rfl (Nat.le_of_ble_eq_true rfl)
  have K20 : Keep h0 h20 [] := K19.wr W20 (Or.inr sz_b2)
  have N20 := Fr.snoc X20 N19 g_b2
  obtain ⟨cl_b2_128, Ar_b2, q_b2, S_b2, N_b2, H_b2, G_b2⟩ := V_b2_20
  have hin128 : ¬ ((18 : Int32) < 0 ∨ cl_b2_128.slots.size ≤ ((18 : Int32)).toNatClampNeg) := inb_of S_b2 ⟨by decide, by decide⟩
  obtain ⟨T21, h21, X21, e21, W21, st21⟩ := stJ X20 hx hZ e20 Ar_b2 (j := (18 : Int32)) hin128 (g := (mkF m 128 #[.val (.int p1), .unset] [(.long (1000000000000000000 : Int64)), (.int (18 : Int32)), (.ref b2), (.ref b2)])) rfl rfl (hb hby d1_128)
  have V_b2_21 := Arv.set Ar_b2 q_b2 S_b2 N_b2 H_b2 G_b2 rfl W21 18 rfl (Nat.le_of_ble_eq_true rfl)
  have K21 : Keep h0 h21 [] := K20.wr W21 (Or.inr sz_b2)
  have N21 := Fr.snoc X21 N20 g_b2
  obtain ⟨cl_b2_132, Ar_b2, q_b2, S_b2, N_b2, H_b2, G_b2⟩ := V_b2_21
  have hin132 : ¬ (p1 < 0 ∨ cl_b2_132.slots.size ≤ p1.toNatClampNeg) := inb_of S_b2 hp
  have hat132 : cl_b2_132.slots[p1.toNatClampNeg]? = some (.long w22) := Has.at H_b2 hin132 hv
  obtain ⟨fs, hr, hrun, hended, hW, hsame⟩ := X21.leave (v := some (.long w22)) (fun h => by rw [Bd.returns] at h; cases h)
  refine ⟨_, _, pre0 _ ?_, hrun, hended, _, _, rfl, ?_, ⟨_, rfl⟩, hW, hsame.mono (by decide) (by decide)⟩
  · show Steps p.tables e below (s₁.setTop (mkF m 0 #[.val (.int p1), .unset] [])) _
    refine XS.bipush X0.here hx rfl (hb hby d1_0) ?_
    show Steps p.tables e below (s₁.setTop (mkF m 2 #[.val (.int p1), .unset] [(.int (19 : Int32))])) _
    refine st2 _ ?_
    show Steps p.tables e below (T2.setTop (mkF m 4 #[.val (.int p1), .unset] [(.ref b2)])) _
    refine XS.dup X2.here hx rfl (hb hby d1_4) rfl rfl ?_
    show Steps p.tables e below (T2.setTop (mkF m 5 #[.val (.int p1), .unset] [(.ref b2), (.ref b2)])) _
    refine XS.iconst X2.here hx rfl (hb hby d1_5) ?_
    show Steps p.tables e below (T2.setTop (mkF m 6 #[.val (.int p1), .unset] [(.int (0 : Int32)), (.ref b2), (.ref b2)])) _
    refine XS.lconst X2.here hx rfl (hb hby d1_6) ?_
    show Steps p.tables e below (T2.setTop (mkF m 7 #[.val (.int p1), .unset] [(.long (1 : Int64)), (.int (0 : Int32)), (.ref b2), (.ref b2)])) _
    refine st3 _ ?_
    show Steps p.tables e below (T3.setTop (mkF m 8 #[.val (.int p1), .unset] [(.ref b2)])) _
    refine XS.dup X3.here hx rfl (hb hby d1_8) rfl rfl ?_
    show Steps p.tables e below (T3.setTop (mkF m 9 #[.val (.int p1), .unset] [(.ref b2), (.ref b2)])) _
    refine XS.iconst X3.here hx rfl (hb hby d1_9) ?_
    show Steps p.tables e below (T3.setTop (mkF m 10 #[.val (.int p1), .unset] [(.int (1 : Int32)), (.ref b2), (.ref b2)])) _
    refine X3.ldc2Long hx hown (mvT hZ (hw _ (List.mem_of_getElem? (i := 7) rfl))) (g := (mkF m 10 #[.val (.int p1), .unset] [(.int (1 : Int32)), (.ref b2), (.ref b2)])) rfl (hb hby d1_10) _ ?_
    show Steps p.tables e below (T3.setTop (mkF m 13 #[.val (.int p1), .unset] [(.long (10 : Int64)), (.int (1 : Int32)), (.ref b2), (.ref b2)])) _
    refine st4 _ ?_
    show Steps p.tables e below (T4.setTop (mkF m 14 #[.val (.int p1), .unset] [(.ref b2)])) _
    refine XS.dup X4.here hx rfl (hb hby d1_14) rfl rfl ?_
    show Steps p.tables e below (T4.setTop (mkF m 15 #[.val (.int p1), .unset] [(.ref b2), (.ref b2)])) _
    refine XS.iconst X4.here hx rfl (hb hby d1_15) ?_
    show Steps p.tables e below (T4.setTop (mkF m 16 #[.val (.int p1), .unset] [(.int (2 : Int32)), (.ref b2), (.ref b2)])) _
    refine X4.ldc2Long hx hown (mvT hZ (hw _ (List.mem_of_getElem? (i := 8) rfl))) (g := (mkF m 16 #[.val (.int p1), .unset] [(.int (2 : Int32)), (.ref b2), (.ref b2)])) rfl (hb hby d1_16) _ ?_
    show Steps p.tables e below (T4.setTop (mkF m 19 #[.val (.int p1), .unset] [(.long (100 : Int64)), (.int (2 : Int32)), (.ref b2), (.ref b2)])) _
    refine st5 _ ?_
    show Steps p.tables e below (T5.setTop (mkF m 20 #[.val (.int p1), .unset] [(.ref b2)])) _
    refine XS.dup X5.here hx rfl (hb hby d1_20) rfl rfl ?_
    show Steps p.tables e below (T5.setTop (mkF m 21 #[.val (.int p1), .unset] [(.ref b2), (.ref b2)])) _
    refine XS.iconst X5.here hx rfl (hb hby d1_21) ?_
    show Steps p.tables e below (T5.setTop (mkF m 22 #[.val (.int p1), .unset] [(.int (3 : Int32)), (.ref b2), (.ref b2)])) _
    refine X5.ldc2Long hx hown (mvT hZ (hw _ (List.mem_of_getElem? (i := 9) rfl))) (g := (mkF m 22 #[.val (.int p1), .unset] [(.int (3 : Int32)), (.ref b2), (.ref b2)])) rfl (hb hby d1_22) _ ?_
    show Steps p.tables e below (T5.setTop (mkF m 25 #[.val (.int p1), .unset] [(.long (1000 : Int64)), (.int (3 : Int32)), (.ref b2), (.ref b2)])) _
    refine st6 _ ?_
    show Steps p.tables e below (T6.setTop (mkF m 26 #[.val (.int p1), .unset] [(.ref b2)])) _
    refine XS.dup X6.here hx rfl (hb hby d1_26) rfl rfl ?_
    show Steps p.tables e below (T6.setTop (mkF m 27 #[.val (.int p1), .unset] [(.ref b2), (.ref b2)])) _
    refine XS.iconst X6.here hx rfl (hb hby d1_27) ?_
    show Steps p.tables e below (T6.setTop (mkF m 28 #[.val (.int p1), .unset] [(.int (4 : Int32)), (.ref b2), (.ref b2)])) _
    refine X6.ldc2Long hx hown (mvT hZ (hw _ (List.mem_of_getElem? (i := 10) rfl))) (g := (mkF m 28 #[.val (.int p1), .unset] [(.int (4 : Int32)), (.ref b2), (.ref b2)])) rfl (hb hby d1_28) _ ?_
    show Steps p.tables e below (T6.setTop (mkF m 31 #[.val (.int p1), .unset] [(.long (10000 : Int64)), (.int (4 : Int32)), (.ref b2), (.ref b2)])) _
    refine st7 _ ?_
    show Steps p.tables e below (T7.setTop (mkF m 32 #[.val (.int p1), .unset] [(.ref b2)])) _
    refine XS.dup X7.here hx rfl (hb hby d1_32) rfl rfl ?_
    show Steps p.tables e below (T7.setTop (mkF m 33 #[.val (.int p1), .unset] [(.ref b2), (.ref b2)])) _
    refine XS.iconst X7.here hx rfl (hb hby d1_33) ?_
    show Steps p.tables e below (T7.setTop (mkF m 34 #[.val (.int p1), .unset] [(.int (5 : Int32)), (.ref b2), (.ref b2)])) _
    refine X7.ldc2Long hx hown (mvT hZ (hw _ (List.mem_of_getElem? (i := 11) rfl))) (g := (mkF m 34 #[.val (.int p1), .unset] [(.int (5 : Int32)), (.ref b2), (.ref b2)])) rfl (hb hby d1_34) _ ?_
    show Steps p.tables e below (T7.setTop (mkF m 37 #[.val (.int p1), .unset] [(.long (100000 : Int64)), (.int (5 : Int32)), (.ref b2), (.ref b2)])) _
    refine st8 _ ?_
    show Steps p.tables e below (T8.setTop (mkF m 38 #[.val (.int p1), .unset] [(.ref b2)])) _
    refine XS.dup X8.here hx rfl (hb hby d1_38) rfl rfl ?_
    show Steps p.tables e below (T8.setTop (mkF m 39 #[.val (.int p1), .unset] [(.ref b2), (.ref b2)])) _
    refine XS.bipush X8.here hx rfl (hb hby d1_39) ?_
    show Steps p.tables e below (T8.setTop (mkF m 41 #[.val (.int p1), .unset] [(.int (6 : Int32)), (.ref b2), (.ref b2)])) _
    refine X8.ldc2Long hx hown (mvT hZ (hw _ (List.mem_of_getElem? (i := 12) rfl))) (g := (mkF m 41 #[.val (.int p1), .unset] [(.int (6 : Int32)), (.ref b2), (.ref b2)])) rfl (hb hby d1_41) _ ?_
    show Steps p.tables e below (T8.setTop (mkF m 44 #[.val (.int p1), .unset] [(.long (1000000 : Int64)), (.int (6 : Int32)), (.ref b2), (.ref b2)])) _
    refine st9 _ ?_
    show Steps p.tables e below (T9.setTop (mkF m 45 #[.val (.int p1), .unset] [(.ref b2)])) _
    refine XS.dup X9.here hx rfl (hb hby d1_45) rfl rfl ?_
    show Steps p.tables e below (T9.setTop (mkF m 46 #[.val (.int p1), .unset] [(.ref b2), (.ref b2)])) _
    refine XS.bipush X9.here hx rfl (hb hby d1_46) ?_
    show Steps p.tables e below (T9.setTop (mkF m 48 #[.val (.int p1), .unset] [(.int (7 : Int32)), (.ref b2), (.ref b2)])) _
    refine X9.ldc2Long hx hown (mvT hZ (hw _ (List.mem_of_getElem? (i := 13) rfl))) (g := (mkF m 48 #[.val (.int p1), .unset] [(.int (7 : Int32)), (.ref b2), (.ref b2)])) rfl (hb hby d1_48) _ ?_
    show Steps p.tables e below (T9.setTop (mkF m 51 #[.val (.int p1), .unset] [(.long (10000000 : Int64)), (.int (7 : Int32)), (.ref b2), (.ref b2)])) _
    refine st10 _ ?_
    show Steps p.tables e below (T10.setTop (mkF m 52 #[.val (.int p1), .unset] [(.ref b2)])) _
    refine XS.dup X10.here hx rfl (hb hby d1_52) rfl rfl ?_
    show Steps p.tables e below (T10.setTop (mkF m 53 #[.val (.int p1), .unset] [(.ref b2), (.ref b2)])) _
    refine XS.bipush X10.here hx rfl (hb hby d1_53) ?_
    show Steps p.tables e below (T10.setTop (mkF m 55 #[.val (.int p1), .unset] [(.int (8 : Int32)), (.ref b2), (.ref b2)])) _
    refine X10.ldc2Long hx hown (mvT hZ (hw _ (List.mem_of_getElem? (i := 14) rfl))) (g := (mkF m 55 #[.val (.int p1), .unset] [(.int (8 : Int32)), (.ref b2), (.ref b2)])) rfl (hb hby d1_55) _ ?_
    show Steps p.tables e below (T10.setTop (mkF m 58 #[.val (.int p1), .unset] [(.long (100000000 : Int64)), (.int (8 : Int32)), (.ref b2), (.ref b2)])) _
    refine st11 _ ?_
    show Steps p.tables e below (T11.setTop (mkF m 59 #[.val (.int p1), .unset] [(.ref b2)])) _
    refine XS.dup X11.here hx rfl (hb hby d1_59) rfl rfl ?_
    show Steps p.tables e below (T11.setTop (mkF m 60 #[.val (.int p1), .unset] [(.ref b2), (.ref b2)])) _
    refine XS.bipush X11.here hx rfl (hb hby d1_60) ?_
    show Steps p.tables e below (T11.setTop (mkF m 62 #[.val (.int p1), .unset] [(.int (9 : Int32)), (.ref b2), (.ref b2)])) _
    refine X11.ldc2Long hx hown (mvT hZ (hw _ (List.mem_of_getElem? (i := 15) rfl))) (g := (mkF m 62 #[.val (.int p1), .unset] [(.int (9 : Int32)), (.ref b2), (.ref b2)])) rfl (hb hby d1_62) _ ?_
    show Steps p.tables e below (T11.setTop (mkF m 65 #[.val (.int p1), .unset] [(.long (1000000000 : Int64)), (.int (9 : Int32)), (.ref b2), (.ref b2)])) _
    refine st12 _ ?_
    show Steps p.tables e below (T12.setTop (mkF m 66 #[.val (.int p1), .unset] [(.ref b2)])) _
    refine XS.dup X12.here hx rfl (hb hby d1_66) rfl rfl ?_
    show Steps p.tables e below (T12.setTop (mkF m 67 #[.val (.int p1), .unset] [(.ref b2), (.ref b2)])) _
    refine XS.bipush X12.here hx rfl (hb hby d1_67) ?_
    show Steps p.tables e below (T12.setTop (mkF m 69 #[.val (.int p1), .unset] [(.int (10 : Int32)), (.ref b2), (.ref b2)])) _
    refine X12.ldc2Long hx hown (mvT hZ (hw _ (List.mem_of_getElem? (i := 16) rfl))) (g := (mkF m 69 #[.val (.int p1), .unset] [(.int (10 : Int32)), (.ref b2), (.ref b2)])) rfl (hb hby d1_69) _ ?_
    show Steps p.tables e below (T12.setTop (mkF m 72 #[.val (.int p1), .unset] [(.long (10000000000 : Int64)), (.int (10 : Int32)), (.ref b2), (.ref b2)])) _
    refine st13 _ ?_
    show Steps p.tables e below (T13.setTop (mkF m 73 #[.val (.int p1), .unset] [(.ref b2)])) _
    refine XS.dup X13.here hx rfl (hb hby d1_73) rfl rfl ?_
    show Steps p.tables e below (T13.setTop (mkF m 74 #[.val (.int p1), .unset] [(.ref b2), (.ref b2)])) _
    refine XS.bipush X13.here hx rfl (hb hby d1_74) ?_
    show Steps p.tables e below (T13.setTop (mkF m 76 #[.val (.int p1), .unset] [(.int (11 : Int32)), (.ref b2), (.ref b2)])) _
    refine X13.ldc2Long hx hown (mvT hZ (hw _ (List.mem_of_getElem? (i := 17) rfl))) (g := (mkF m 76 #[.val (.int p1), .unset] [(.int (11 : Int32)), (.ref b2), (.ref b2)])) rfl (hb hby d1_76) _ ?_
    show Steps p.tables e below (T13.setTop (mkF m 79 #[.val (.int p1), .unset] [(.long (100000000000 : Int64)), (.int (11 : Int32)), (.ref b2), (.ref b2)])) _
    refine st14 _ ?_
    show Steps p.tables e below (T14.setTop (mkF m 80 #[.val (.int p1), .unset] [(.ref b2)])) _
    refine XS.dup X14.here hx rfl (hb hby d1_80) rfl rfl ?_
    show Steps p.tables e below (T14.setTop (mkF m 81 #[.val (.int p1), .unset] [(.ref b2), (.ref b2)])) _
    refine XS.bipush X14.here hx rfl (hb hby d1_81) ?_
    show Steps p.tables e below (T14.setTop (mkF m 83 #[.val (.int p1), .unset] [(.int (12 : Int32)), (.ref b2), (.ref b2)])) _
    refine X14.ldc2Long hx hown (mvT hZ (hw _ (List.mem_of_getElem? (i := 18) rfl))) (g := (mkF m 83 #[.val (.int p1), .unset] [(.int (12 : Int32)), (.ref b2), (.ref b2)])) rfl (hb hby d1_83) _ ?_
    show Steps p.tables e below (T14.setTop (mkF m 86 #[.val (.int p1), .unset] [(.long (1000000000000 : Int64)), (.int (12 : Int32)), (.ref b2), (.ref b2)])) _
    refine st15 _ ?_
    show Steps p.tables e below (T15.setTop (mkF m 87 #[.val (.int p1), .unset] [(.ref b2)])) _
    refine XS.dup X15.here hx rfl (hb hby d1_87) rfl rfl ?_
    show Steps p.tables e below (T15.setTop (mkF m 88 #[.val (.int p1), .unset] [(.ref b2), (.ref b2)])) _
    refine XS.bipush X15.here hx rfl (hb hby d1_88) ?_
    show Steps p.tables e below (T15.setTop (mkF m 90 #[.val (.int p1), .unset] [(.int (13 : Int32)), (.ref b2), (.ref b2)])) _
    refine X15.ldc2Long hx hown (mvT hZ (hw _ (List.mem_of_getElem? (i := 19) rfl))) (g := (mkF m 90 #[.val (.int p1), .unset] [(.int (13 : Int32)), (.ref b2), (.ref b2)])) rfl (hb hby d1_90) _ ?_
    show Steps p.tables e below (T15.setTop (mkF m 93 #[.val (.int p1), .unset] [(.long (10000000000000 : Int64)), (.int (13 : Int32)), (.ref b2), (.ref b2)])) _
    refine st16 _ ?_
    show Steps p.tables e below (T16.setTop (mkF m 94 #[.val (.int p1), .unset] [(.ref b2)])) _
    refine XS.dup X16.here hx rfl (hb hby d1_94) rfl rfl ?_
    show Steps p.tables e below (T16.setTop (mkF m 95 #[.val (.int p1), .unset] [(.ref b2), (.ref b2)])) _
    refine XS.bipush X16.here hx rfl (hb hby d1_95) ?_
    show Steps p.tables e below (T16.setTop (mkF m 97 #[.val (.int p1), .unset] [(.int (14 : Int32)), (.ref b2), (.ref b2)])) _
    refine X16.ldc2Long hx hown (mvT hZ (hw _ (List.mem_of_getElem? (i := 20) rfl))) (g := (mkF m 97 #[.val (.int p1), .unset] [(.int (14 : Int32)), (.ref b2), (.ref b2)])) rfl (hb hby d1_97) _ ?_
    show Steps p.tables e below (T16.setTop (mkF m 100 #[.val (.int p1), .unset] [(.long (100000000000000 : Int64)), (.int (14 : Int32)), (.ref b2), (.ref b2)])) _
    refine st17 _ ?_
    show Steps p.tables e below (T17.setTop (mkF m 101 #[.val (.int p1), .unset] [(.ref b2)])) _
    refine XS.dup X17.here hx rfl (hb hby d1_101) rfl rfl ?_
    show Steps p.tables e below (T17.setTop (mkF m 102 #[.val (.int p1), .unset] [(.ref b2), (.ref b2)])) _
    refine XS.bipush X17.here hx rfl (hb hby d1_102) ?_
    show Steps p.tables e below (T17.setTop (mkF m 104 #[.val (.int p1), .unset] [(.int (15 : Int32)), (.ref b2), (.ref b2)])) _
    refine X17.ldc2Long hx hown (mvT hZ (hw _ (List.mem_of_getElem? (i := 21) rfl))) (g := (mkF m 104 #[.val (.int p1), .unset] [(.int (15 : Int32)), (.ref b2), (.ref b2)])) rfl (hb hby d1_104) _ ?_
    show Steps p.tables e below (T17.setTop (mkF m 107 #[.val (.int p1), .unset] [(.long (1000000000000000 : Int64)), (.int (15 : Int32)), (.ref b2), (.ref b2)])) _
    refine st18 _ ?_
    show Steps p.tables e below (T18.setTop (mkF m 108 #[.val (.int p1), .unset] [(.ref b2)])) _
    refine XS.dup X18.here hx rfl (hb hby d1_108) rfl rfl ?_
    show Steps p.tables e below (T18.setTop (mkF m 109 #[.val (.int p1), .unset] [(.ref b2), (.ref b2)])) _
    refine XS.bipush X18.here hx rfl (hb hby d1_109) ?_
    show Steps p.tables e below (T18.setTop (mkF m 111 #[.val (.int p1), .unset] [(.int (16 : Int32)), (.ref b2), (.ref b2)])) _
    refine X18.ldc2Long hx hown (mvT hZ (hw _ (List.mem_of_getElem? (i := 22) rfl))) (g := (mkF m 111 #[.val (.int p1), .unset] [(.int (16 : Int32)), (.ref b2), (.ref b2)])) rfl (hb hby d1_111) _ ?_
    show Steps p.tables e below (T18.setTop (mkF m 114 #[.val (.int p1), .unset] [(.long (10000000000000000 : Int64)), (.int (16 : Int32)), (.ref b2), (.ref b2)])) _
    refine st19 _ ?_
    show Steps p.tables e below (T19.setTop (mkF m 115 #[.val (.int p1), .unset] [(.ref b2)])) _
    refine XS.dup X19.here hx rfl (hb hby d1_115) rfl rfl ?_
    show Steps p.tables e below (T19.setTop (mkF m 116 #[.val (.int p1), .unset] [(.ref b2), (.ref b2)])) _
    refine XS.bipush X19.here hx rfl (hb hby d1_116) ?_
    show Steps p.tables e below (T19.setTop (mkF m 118 #[.val (.int p1), .unset] [(.int (17 : Int32)), (.ref b2), (.ref b2)])) _
    refine X19.ldc2Long hx hown (mvT hZ (hw _ (List.mem_of_getElem? (i := 23) rfl))) (g := (mkF m 118 #[.val (.int p1), .unset] [(.int (17 : Int32)), (.ref b2), (.ref b2)])) rfl (hb hby d1_118) _ ?_
    show Steps p.tables e below (T19.setTop (mkF m 121 #[.val (.int p1), .unset] [(.long (100000000000000000 : Int64)), (.int (17 : Int32)), (.ref b2), (.ref b2)])) _
    refine st20 _ ?_
    show Steps p.tables e below (T20.setTop (mkF m 122 #[.val (.int p1), .unset] [(.ref b2)])) _
    refine XS.dup X20.here hx rfl (hb hby d1_122) rfl rfl ?_
    show Steps p.tables e below (T20.setTop (mkF m 123 #[.val (.int p1), .unset] [(.ref b2), (.ref b2)])) _
    refine XS.bipush X20.here hx rfl (hb hby d1_123) ?_
    show Steps p.tables e below (T20.setTop (mkF m 125 #[.val (.int p1), .unset] [(.int (18 : Int32)), (.ref b2), (.ref b2)])) _
    refine X20.ldc2Long hx hown (mvT hZ (hw _ (List.mem_of_getElem? (i := 24) rfl))) (g := (mkF m 125 #[.val (.int p1), .unset] [(.int (18 : Int32)), (.ref b2), (.ref b2)])) rfl (hb hby d1_125) _ ?_
    show Steps p.tables e below (T20.setTop (mkF m 128 #[.val (.int p1), .unset] [(.long (1000000000000000000 : Int64)), (.int (18 : Int32)), (.ref b2), (.ref b2)])) _
    refine st21 _ ?_
    show Steps p.tables e below (T21.setTop (mkF m 129 #[.val (.int p1), .unset] [(.ref b2)])) _
    refine XS.astoreN X21.here hx rfl (hb hby d1_129) rfl rfl (l' := #[.val (.int p1), .val (.ref b2)]) rfl ?_
    show Steps p.tables e below (T21.setTop (mkF m 130 #[.val (.int p1), .val (.ref b2)] [])) _
    refine XS.aloadN X21.here hx rfl (hb hby d1_130) rfl rfl ?_
    show Steps p.tables e below (T21.setTop (mkF m 131 #[.val (.int p1), .val (.ref b2)] [(.ref b2)])) _
    refine XS.iloadN X21.here hx rfl (hb hby d1_131) rfl ?_
    show Steps p.tables e below (T21.setTop (mkF m 132 #[.val (.int p1), .val (.ref b2)] [(.int p1), (.ref b2)])) _
    refine X21.laload hx (j := p1) (v := (.long w22)) (by rw [e21]; exact Ar_b2.1) (State.isArrayOf_alike hZ.alike Ar_b2.2.1) Ar_b2.2.2 hin132 hat132 (g := (mkF m 132 #[.val (.int p1), .val (.ref b2)] [(.int p1), (.ref b2)])) rfl rfl (hb hby d1_132) _ ?_
    show Steps p.tables e below (T21.setTop (mkF m 133 #[.val (.int p1), .val (.ref b2)] [(.long w22)])) _
    jvm_step X21.here [X21.here.top, hx, (hb hby d1_133), X21.method', Bd.returns, narrow]
    first | (intro acts; rw [hr _ acts rfl rfl rfl]) | rw [hr _ _ rfl rfl rfl]
    exact Steps.refl _
  · show Q1 Z p1 w22 h0 n0 _ T21.heap _
    rw [e21]
    exact ⟨rfl, N21, K21⟩
theorem d2_0 : decode prog_8_method_15_code 0 = .ok (.iload_n 3, 1) := by decide +kernel
theorem d2_1 : decode prog_8_method_15_code 1 = .ok (.iload_n 2, 1) := by decide +kernel
theorem d2_2 : decode prog_8_method_15_code 2 = .ok (.isub, 1) := by decide +kernel
theorem d2_3 : decode prog_8_method_15_code 3 = .ok (.istore 4, 2) := by decide +kernel
theorem d2_5 : decode prog_8_method_15_code 5 = .ok (.iload 4, 2) := by decide +kernel
theorem d2_7 : decode prog_8_method_15_code 7 = .ok (.bipush 18, 2) := by decide +kernel
theorem d2_9 : decode prog_8_method_15_code 9 = .ok (.if_icmp .le 7, 3) := by decide +kernel
theorem d2_12 : decode prog_8_method_15_code 12 = .ok (.ldc2_w 152, 3) := by decide +kernel
theorem d2_15 : decode prog_8_method_15_code 15 = .ok (.lreturn, 1) := by decide +kernel
theorem pn_2 : plainName "com/example/tollwise/tollwise/Decimals" = true := by first | (simp [plainName, overriddenIn]; done) | decide +kernel
theorem ef_2 (m : MethodId) (x0 : Int64) (x1 : Int32) (x2 : Int32) : entryFrame m #[(.long x0), (.int x1), (.int x2)] 7 = mkF m 0 #[.val (.long x0), .second, .val (.int x1), .val (.int x2), .unset, .unset, .unset] [] := by first | (simp [entryFrame, mkF, argsToLocals, Value.category]; done) | rfl
def Q2_f (Z : State) (q1 : Int64) (p2 : Int32) (p3 : Int32) (h0 : Heap) (n0 : Nat) (v : Option Value) (h : Heap) (L : List Loc) : Prop := v = some (.long (-9223372036854775808 : Int64)) ∧ Fr n0 L ∧ h = h0
set_option maxRecDepth 65536 in
set_option maxHeartbeats 40000000 in
theorem rm2_f (l : Launch) (Z : State) (a0 : Array Value) (hw : ∀ d ∈ tables_1, d.before a0 Z = true) (ws : List Jvm.Cond) (q1 : Int64) (p2 : Int32) (p3 : Int32) (h0 : Heap) (n0 : Nat) (Z0 : n0 ≤ h0.size) (hc9 : (18 : Int32) < (p3 - p2)) :
    MetFree l (⟨"com/example/tollwise/tollwise/Decimals", "rescaled", "(JII)J"⟩ : MethodName) (head1 (Jvm.Cond.code (⟨"com/example/tollwise/tollwise/Decimals", "rescaled", "(JII)J"⟩ : MethodName) prog_8_method_15_code 7 (some .long) :: ws) ({ frames := 0, cells := 0, slots := 0, locals := 0 } : Room)) (fun a U => a = #[(.long q1), (.int p2), (.int p3)] ∧ Z.Warmed39 U.vm ∧ U.heap = h0) (fun _ _ _ _ _ => True) (fun _ U o U' => ∃ v L, o = .returned v ∧ Q2_f Z q1 p2 p3 h0 n0 v U'.heap L ∧ FrameEnd U o U' L ({ frames := 0, cells := 0, slots := 0, locals := 0 } : Room).cells ({ frames := 0, cells := 0, slots := 0, locals := 0 } : Room).slots) := by
  refine MetFree.of_bodySF (plainFor_of_name pn_2) hisR ?_
  intro p e s m args below meth c s₁ Bd hml0 hP hK
  obtain ⟨rfl, hZ, hh⟩ := hP
  have hx := Bd.exec
  have hby := Bd.bytes
  have hml : c.maxLocals = 7 := hml0
  have hown : s.vm.findClass "com/example/tollwise/tollwise/Decimals" = some m.cls := findClass_of_methodNamed Bd.named
  have hnm := (name_of_methodNamed Bd.named Bd.method).1
  have X0 : Stand p l e ({ frames := 0, cells := 0, slots := 0, locals := 0 } : Room) s m #[(.long q1), (.int p2), (.int p3)] below meth c s₁ [] 0 0 := Stand.of_body Bd
  have e0 : s₁.heap = h0 := by rw [← hh, Bd.state]; rfl
  have N0 := Fr.nil n0
  have pre0 : ∀ t, Steps p.tables e below (s₁.setTop (mkF m 0 #[.val (.long q1), .second, .val (.int p2), .val (.int p3), .unset, .unset, .unset] [])) t → Steps p.tables e below (s₁.setTop (entryFrame m #[(.long q1), (.int p2), (.int p3)] 7)) t := fun t k => castTop (ef_2 m q1 p2 p3) k

  obtain ⟨fs, hr, hrun, hended, hW, hsame⟩ := X0.leave (v := some (.long (-9223372036854775808 : Int64))) (fun h => by rw [Bd.returns] at h; cases h)
  refine ⟨_, _, pre0 _ ?_, hrun, hended, _, _, rfl, ?_, ⟨_, rfl⟩, hW, hsame.mono (by decide) (by decide)⟩
  · show Steps p.tables e below (s₁.setTop (mkF m 0 #[.val (.long q1), .second, .val (.int p2), .val (.int p3), .unset, .unset, .unset] [])) _
    refine XS.iloadN X0.here hx rfl (hb hby d2_0) rfl ?_
    show Steps p.tables e below (s₁.setTop (mkF m 1 #[.val (.long q1), .second, .val (.int p2), .val (.int p3), .unset, .unset, .unset] [(.int p3)])) _
    refine XS.iloadN X0.here hx rfl (hb hby d2_1) rfl ?_
    show Steps p.tables e below (s₁.setTop (mkF m 2 #[.val (.long q1), .second, .val (.int p2), .val (.int p3), .unset, .unset, .unset] [(.int p2), (.int p3)])) _
    refine XS.isub X0.here hx rfl (hb hby d2_2) rfl ?_
    show Steps p.tables e below (s₁.setTop (mkF m 3 #[.val (.long q1), .second, .val (.int p2), .val (.int p3), .unset, .unset, .unset] [(.int (p3 - p2))])) _
    refine XS.istore X0.here hx rfl (hb hby d2_3) rfl (l' := #[.val (.long q1), .second, .val (.int p2), .val (.int p3), .val (.int (p3 - p2)), .unset, .unset]) rfl ?_
    show Steps p.tables e below (s₁.setTop (mkF m 5 #[.val (.long q1), .second, .val (.int p2), .val (.int p3), .val (.int (p3 - p2)), .unset, .unset] [])) _
    refine XS.iload X0.here hx rfl (hb hby d2_5) rfl ?_
    show Steps p.tables e below (s₁.setTop (mkF m 7 #[.val (.long q1), .second, .val (.int p2), .val (.int p3), .val (.int (p3 - p2)), .unset, .unset] [(.int (p3 - p2))])) _
    refine XS.bipush X0.here hx rfl (hb hby d2_7) ?_
    show Steps p.tables e below (s₁.setTop (mkF m 9 #[.val (.long q1), .second, .val (.int p2), .val (.int p3), .val (.int (p3 - p2)), .unset, .unset] [(.int (18 : Int32)), (.int (p3 - p2))])) _
    refine XS.icmpNo X0.here hx rfl (hb hby d2_9) rfl (tlt hc9).2.2.2 ?_
    show Steps p.tables e below (s₁.setTop (mkF m 12 #[.val (.long q1), .second, .val (.int p2), .val (.int p3), .val (.int (p3 - p2)), .unset, .unset] [])) _
    refine X0.ldc2Long hx hown (mvT hZ (hw _ (List.mem_of_getElem? (i := 32) rfl))) (g := (mkF m 12 #[.val (.long q1), .second, .val (.int p2), .val (.int p3), .val (.int (p3 - p2)), .unset, .unset] [])) rfl (hb hby d2_12) _ ?_
    show Steps p.tables e below (s₁.setTop (mkF m 15 #[.val (.long q1), .second, .val (.int p2), .val (.int p3), .val (.int (p3 - p2)), .unset, .unset] [(.long (-9223372036854775808 : Int64))])) _
    jvm_step X0.here [X0.here.top, hx, (hb hby d2_15), X0.method', Bd.returns, narrow]
    first | (intro acts; rw [hr _ acts rfl rfl rfl]) | rw [hr _ _ rfl rfl rfl]
    exact Steps.refl _
  · show Q2_f Z q1 p2 p3 h0 n0 _ s₁.heap _
    rw [e0]
    exact ⟨rfl, N0, rfl⟩
theorem d2_16 : decode prog_8_method_15_code 16 = .ok (.getstatic 148, 3) := by decide +kernel
theorem d2_19 : decode prog_8_method_15_code 19 = .ok (.bipush 18, 2) := by decide +kernel
theorem d2_21 : decode prog_8_method_15_code 21 = .ok (.iload 4, 2) := by decide +kernel
theorem d2_23 : decode prog_8_method_15_code 23 = .ok (.isub, 1) := by decide +kernel
theorem d2_24 : decode prog_8_method_15_code 24 = .ok (.laload, 1) := by decide +kernel
theorem d2_25 : decode prog_8_method_15_code 25 = .ok (.lstore 5, 2) := by decide +kernel
theorem d2_27 : decode prog_8_method_15_code 27 = .ok (.lload_n 0, 1) := by decide +kernel
theorem d2_28 : decode prog_8_method_15_code 28 = .ok (.lload 5, 2) := by decide +kernel
theorem d2_30 : decode prog_8_method_15_code 30 = .ok (.lcmp, 1) := by decide +kernel
theorem d2_31 : decode prog_8_method_15_code 31 = .ok (.ifCond .ge 22, 3) := by decide +kernel
theorem d2_53 : decode prog_8_method_15_code 53 = .ok (.ldc2_w 152, 3) := by decide +kernel
theorem d2_56 : decode prog_8_method_15_code 56 = .ok (.lreturn, 1) := by decide +kernel
def Q2_tt (Z : State) (q1 : Int64) (p2 : Int32) (p3 : Int32) (wT : Addr) (w5 : Int64) (cl_wT : Cell) (h0 : Heap) (n0 : Nat) (v : Option Value) (h : Heap) (L : List Loc) : Prop := v = some (.long (-9223372036854775808 : Int64)) ∧ Fr n0 L ∧ h = h0
set_option maxRecDepth 65536 in
set_option maxHeartbeats 40000000 in
theorem rm2_tt (l : Launch) (Z : State) (a0 : Array Value) (hw : ∀ d ∈ tables_1, d.before a0 Z = true) (ws : List Jvm.Cond) (q1 : Int64) (p2 : Int32) (p3 : Int32) (wT : Addr) (w5 : Int64) (cl_wT : Cell) (h0 : Heap) (n0 : Nat) (Z0 : n0 ≤ h0.size) (S_Decimals_TEN_TO_THE : Sta Z h0 "com/example/tollwise/tollwise/Decimals" "TEN_TO_THE" "[J" (.ref wT)) (Ar_wT : Arr Z h0 wT cl_wT .long) (hin24 : ¬ (((18 : Int32) - (p3 - p2)) < 0 ∨ cl_wT.slots.size ≤ (((18 : Int32) - (p3 - p2))).toNatClampNeg)) (hat24 : cl_wT.slots[(((18 : Int32) - (p3 - p2))).toNatClampNeg]? = some (.long w5)) (hc9 : ¬ ((18 : Int32) < (p3 - p2))) (hc31 : ¬ ((lcmpW q1 w5) < (0 : Int32))) :
    MetFree l (⟨"com/example/tollwise/tollwise/Decimals", "rescaled", "(JII)J"⟩ : MethodName) (head1 (Jvm.Cond.code (⟨"com/example/tollwise/tollwise/Decimals", "rescaled", "(JII)J"⟩ : MethodName) prog_8_method_15_code 7 (some .long) :: ws) ({ frames := 0, cells := 0, slots := 0, locals := 0 } : Room)) (fun a U => a = #[(.long q1), (.int p2), (.int p3)] ∧ Z.Warmed39 U.vm ∧ U.heap = h0) (fun _ _ _ _ _ => True) (fun _ U o U' => ∃ v L, o = .returned v ∧ Q2_tt Z q1 p2 p3 wT w5 cl_wT h0 n0 v U'.heap L ∧ FrameEnd U o U' L ({ frames := 0, cells := 0, slots := 0, locals := 0 } : Room).cells ({ frames := 0, cells := 0, slots := 0, locals := 0 } : Room).slots) := by
  refine MetFree.of_bodySF (plainFor_of_name pn_2) hisR ?_
  intro p e s m args below meth c s₁ Bd hml0 hP hK
  obtain ⟨rfl, hZ, hh⟩ := hP
  have hx := Bd.exec
  have hby := Bd.bytes
  have hml : c.maxLocals = 7 := hml0
  have hown : s.vm.findClass "com/example/tollwise/tollwise/Decimals" = some m.cls := findClass_of_methodNamed Bd.named
  have hnm := (name_of_methodNamed Bd.named Bd.method).1
  have X0 : Stand p l e ({ frames := 0, cells := 0, slots := 0, locals := 0 } : Room) s m #[(.long q1), (.int p2), (.int p3)] below meth c s₁ [] 0 0 := Stand.of_body Bd
  have e0 : s₁.heap = h0 := by rw [← hh, Bd.state]; rfl
  have N0 := Fr.nil n0
  have pre0 : ∀ t, Steps p.tables e below (s₁.setTop (mkF m 0 #[.val (.long q1), .second, .val (.int p2), .val (.int p3), .unset, .unset, .unset] [])) t → Steps p.tables e below (s₁.setTop (entryFrame m #[(.long q1), (.int p2), (.int p3)] 7)) t := fun t k => castTop (ef_2 m q1 p2 p3) k
  obtain ⟨T4, X4, e4, st4⟩ := getS2 X0 hx hZ hown (host := "") (Or.inl (hw _ (List.mem_of_getElem? (i := 29) rfl))) Via.refl e0 S_Decimals_TEN_TO_THE (g := (mkF m 16 #[.val (.long q1), .second, .val (.int p2), .val (.int p3), .val (.int (p3 - p2)), .unset, .unset] [])) rfl (hb hby d2_16)
  obtain ⟨fs, hr, hrun, hended, hW, hsame⟩ := X4.leave (v := some (.long (-9223372036854775808 : Int64))) (fun h => by rw [Bd.returns] at h; cases h)
  refine ⟨_, _, pre0 _ ?_, hrun, hended, _, _, rfl, ?_, ⟨_, rfl⟩, hW, hsame.mono (by decide) (by decide)⟩
  · show Steps p.tables e below (s₁.setTop (mkF m 0 #[.val (.long q1), .second, .val (.int p2), .val (.int p3), .unset, .unset, .unset] [])) _
    refine XS.iloadN X0.here hx rfl (hb hby d2_0) rfl ?_
    show Steps p.tables e below (s₁.setTop (mkF m 1 #[.val (.long q1), .second, .val (.int p2), .val (.int p3), .unset, .unset, .unset] [(.int p3)])) _
    refine XS.iloadN X0.here hx rfl (hb hby d2_1) rfl ?_
    show Steps p.tables e below (s₁.setTop (mkF m 2 #[.val (.long q1), .second, .val (.int p2), .val (.int p3), .unset, .unset, .unset] [(.int p2), (.int p3)])) _
    refine XS.isub X0.here hx rfl (hb hby d2_2) rfl ?_
    show Steps p.tables e below (s₁.setTop (mkF m 3 #[.val (.long q1), .second, .val (.int p2), .val (.int p3), .unset, .unset, .unset] [(.int (p3 - p2))])) _
    refine XS.istore X0.here hx rfl (hb hby d2_3) rfl (l' := #[.val (.long q1), .second, .val (.int p2), .val (.int p3), .val (.int (p3 - p2)), .unset, .unset]) rfl ?_
    show Steps p.tables e below (s₁.setTop (mkF m 5 #[.val (.long q1), .second, .val (.int p2), .val (.int p3), .val (.int (p3 - p2)), .unset, .unset] [])) _
    refine XS.iload X0.here hx rfl (hb hby d2_5) rfl ?_
    show Steps p.tables e below (s₁.setTop (mkF m 7 #[.val (.long q1), .second, .val (.int p2), .val (.int p3), .val (.int (p3 - p2)), .unset, .unset] [(.int (p3 - p2))])) _
    refine XS.bipush X0.here hx rfl (hb hby d2_7) ?_
    show Steps p.tables e below (s₁.setTop (mkF m 9 #[.val (.long q1), .second, .val (.int p2), .val (.int p3), .val (.int (p3 - p2)), .unset, .unset] [(.int (18 : Int32)), (.int (p3 - p2))])) _
    refine XS.icmpYes X0.here hx rfl (pc0 := 9) (pc' := 16) rfl (hb hby d2_9) rfl (flt hc9).2.2.2 (by decide) (by decide) ?_
    show Steps p.tables e below (s₁.setTop (mkF m 16 #[.val (.long q1), .second, .val (.int p2), .val (.int p3), .val (.int (p3 - p2)), .unset, .unset] [])) _
    refine st4 _ ?_
    show Steps p.tables e below (T4.setTop (mkF m 19 #[.val (.long q1), .second, .val (.int p2), .val (.int p3), .val (.int (p3 - p2)), .unset, .unset] [(.ref wT)])) _
    refine XS.bipush X4.here hx rfl (hb hby d2_19) ?_
    show Steps p.tables e below (T4.setTop (mkF m 21 #[.val (.long q1), .second, .val (.int p2), .val (.int p3), .val (.int (p3 - p2)), .unset, .unset] [(.int (18 : Int32)), (.ref wT)])) _
    refine XS.iload X4.here hx rfl (hb hby d2_21) rfl ?_
    show Steps p.tables e below (T4.setTop (mkF m 23 #[.val (.long q1), .second, .val (.int p2), .val (.int p3), .val (.int (p3 - p2)), .unset, .unset] [(.int (p3 - p2)), (.int (18 : Int32)), (.ref wT)])) _
    refine XS.isub X4.here hx rfl (hb hby d2_23) rfl ?_
    show Steps p.tables e below (T4.setTop (mkF m 24 #[.val (.long q1), .second, .val (.int p2), .val (.int p3), .val (.int (p3 - p2)), .unset, .unset] [(.int ((18 : Int32) - (p3 - p2))), (.ref wT)])) _
    refine X4.laload hx (j := ((18 : Int32) - (p3 - p2))) (v := (.long w5)) (by rw [e4]; exact Ar_wT.1) (State.isArrayOf_alike hZ.alike Ar_wT.2.1) Ar_wT.2.2 hin24 hat24 (g := (mkF m 24 #[.val (.long q1), .second, .val (.int p2), .val (.int p3), .val (.int (p3 - p2)), .unset, .unset] [(.int ((18 : Int32) - (p3 - p2))), (.ref wT)])) rfl rfl (hb hby d2_24) _ ?_
    show Steps p.tables e below (T4.setTop (mkF m 25 #[.val (.long q1), .second, .val (.int p2), .val (.int p3), .val (.int (p3 - p2)), .unset, .unset] [(.long w5)])) _
    refine XS.lstore X4.here hx rfl (hb hby d2_25) rfl (l' := #[.val (.long q1), .second, .val (.int p2), .val (.int p3), .val (.int (p3 - p2)), .val (.long w5), .second]) rfl ?_
    show Steps p.tables e below (T4.setTop (mkF m 27 #[.val (.long q1), .second, .val (.int p2), .val (.int p3), .val (.int (p3 - p2)), .val (.long w5), .second] [])) _
    refine XS.lloadN X4.here hx rfl (hb hby d2_27) rfl ?_
    show Steps p.tables e below (T4.setTop (mkF m 28 #[.val (.long q1), .second, .val (.int p2), .val (.int p3), .val (.int (p3 - p2)), .val (.long w5), .second] [(.long q1)])) _
    refine XS.lload X4.here hx rfl (hb hby d2_28) rfl ?_
    show Steps p.tables e below (T4.setTop (mkF m 30 #[.val (.long q1), .second, .val (.int p2), .val (.int p3), .val (.int (p3 - p2)), .val (.long w5), .second] [(.long w5), (.long q1)])) _
    refine XS.lcmp X4.here hx rfl (hb hby d2_30) rfl ?_
    show Steps p.tables e below (T4.setTop (mkF m 31 #[.val (.long q1), .second, .val (.int p2), .val (.int p3), .val (.int (p3 - p2)), .val (.long w5), .second] [(.int (lcmpW q1 w5))])) _
    refine XS.ifYes X4.here hx rfl (pc0 := 31) (pc' := 53) rfl (hb hby d2_31) rfl ((if0 _ _).trans (flt hc31).2.1) (by decide) (by decide) ?_
    show Steps p.tables e below (T4.setTop (mkF m 53 #[.val (.long q1), .second, .val (.int p2), .val (.int p3), .val (.int (p3 - p2)), .val (.long w5), .second] [])) _
    refine X4.ldc2Long hx hown (mvT hZ (hw _ (List.mem_of_getElem? (i := 32) rfl))) (g := (mkF m 53 #[.val (.long q1), .second, .val (.int p2), .val (.int p3), .val (.int (p3 - p2)), .val (.long w5), .second] [])) rfl (hb hby d2_53) _ ?_
    show Steps p.tables e below (T4.setTop (mkF m 56 #[.val (.long q1), .second, .val (.int p2), .val (.int p3), .val (.int (p3 - p2)), .val (.long w5), .second] [(.long (-9223372036854775808 : Int64))])) _
    jvm_step X4.here [X4.here.top, hx, (hb hby d2_56), X4.method', Bd.returns, narrow]
    first | (intro acts; rw [hr _ acts rfl rfl rfl]) | rw [hr _ _ rfl rfl rfl]
    exact Steps.refl _
  · show Q2_tt Z q1 p2 p3 wT w5 cl_wT h0 n0 _ T4.heap _
    rw [e4]
    exact ⟨rfl, N0, rfl⟩
theorem d2_34 : decode prog_8_method_15_code 34 = .ok (.lload_n 0, 1) := by decide +kernel
theorem d2_35 : decode prog_8_method_15_code 35 = .ok (.lload 5, 2) := by decide +kernel
theorem d2_37 : decode prog_8_method_15_code 37 = .ok (.lneg, 1) := by decide +kernel
theorem d2_38 : decode prog_8_method_15_code 38 = .ok (.lcmp, 1) := by decide +kernel
theorem d2_39 : decode prog_8_method_15_code 39 = .ok (.ifCond .le 14, 3) := by decide +kernel
def Q2_tft (Z : State) (q1 : Int64) (p2 : Int32) (p3 : Int32) (wT : Addr) (w5 : Int64) (cl_wT : Cell) (h0 : Heap) (n0 : Nat) (v : Option Value) (h : Heap) (L : List Loc) : Prop := v = some (.long (-9223372036854775808 : Int64)) ∧ Fr n0 L ∧ h = h0
set_option maxRecDepth 65536 in
set_option maxHeartbeats 40000000 in
theorem rm2_tft (l : Launch) (Z : State) (a0 : Array Value) (hw : ∀ d ∈ tables_1, d.before a0 Z = true) (ws : List Jvm.Cond) (q1 : Int64) (p2 : Int32) (p3 : Int32) (wT : Addr) (w5 : Int64) (cl_wT : Cell) (h0 : Heap) (n0 : Nat) (Z0 : n0 ≤ h0.size) (S_Decimals_TEN_TO_THE : Sta Z h0 "com/example/tollwise/tollwise/Decimals" "TEN_TO_THE" "[J" (.ref wT)) (Ar_wT : Arr Z h0 wT cl_wT .long) (hin24 : ¬ (((18 : Int32) - (p3 - p2)) < 0 ∨ cl_wT.slots.size ≤ (((18 : Int32) - (p3 - p2))).toNatClampNeg)) (hat24 : cl_wT.slots[(((18 : Int32) - (p3 - p2))).toNatClampNeg]? = some (.long w5)) (hc9 : ¬ ((18 : Int32) < (p3 - p2))) (hc31 : (lcmpW q1 w5) < (0 : Int32)) (hc39 : ¬ ((0 : Int32) < (lcmpW q1 (-w5)))) :
    MetFree l (⟨"com/example/tollwise/tollwise/Decimals", "rescaled", "(JII)J"⟩ : MethodName) (head1 (Jvm.Cond.code (⟨"com/example/tollwise/tollwise/Decimals", "rescaled", "(JII)J"⟩ : MethodName) prog_8_method_15_code 7 (some .long) :: ws) ({ frames := 0, cells := 0, slots := 0, locals := 0 } : Room)) (fun a U => a = #[(.long q1), (.int p2), (.int p3)] ∧ Z.Warmed39 U.vm ∧ U.heap = h0) (fun _ _ _ _ _ => True) (fun _ U o U' => ∃ v L, o = .returned v ∧ Q2_tft Z q1 p2 p3 wT w5 cl_wT h0 n0 v U'.heap L ∧ FrameEnd U o U' L ({ frames := 0, cells := 0, slots := 0, locals := 0 } : Room).cells ({ frames := 0, cells := 0, slots := 0, locals := 0 } : Room).slots) := by
  refine MetFree.of_bodySF (plainFor_of_name pn_2) hisR ?_
  intro p e s m args below meth c s₁ Bd hml0 hP hK
  obtain ⟨rfl, hZ, hh⟩ := hP
  have hx := Bd.exec
  have hby := Bd.bytes
  have hml : c.maxLocals = 7 := hml0
  have hown : s.vm.findClass "com/example/tollwise/tollwise/Decimals" = some m.cls := findClass_of_methodNamed Bd.named
  have hnm := (name_of_methodNamed Bd.named Bd.method).1
  have X0 : Stand p l e ({ frames := 0, cells := 0, slots := 0, locals := 0 } : Room) s m #[(.long q1), (.int p2), (.int p3)] below meth c s₁ [] 0 0 := Stand.of_body Bd
  have e0 : s₁.heap = h0 := by rw [← hh, Bd.state]; rfl
  have N0 := Fr.nil n0
  have pre0 : ∀ t, Steps p.tables e below (s₁.setTop (mkF m 0 #[.val (.long q1), .second, .val (.int p2), .val (.int p3), .unset, .unset, .unset] [])) t → Steps p.tables e below (s₁.setTop (entryFrame m #[(.long q1), (.int p2), (.int p3)] 7)) t := fun t k => castTop (ef_2 m q1 p2 p3) k
  obtain ⟨T4, X4, e4, st4⟩ := getS2 X0 hx hZ hown (host := "") (Or.inl (hw _ (List.mem_of_getElem? (i := 29) rfl))) Via.refl e0 S_Decimals_TEN_TO_THE (g := (mkF m 16 #[.val (.long q1), .second, .val (.int p2), .val (.int p3), .val (.int (p3 - p2)), .unset, .unset] [])) rfl (hb hby d2_16)
  obtain ⟨fs, hr, hrun, hended, hW, hsame⟩ := X4.leave (v := some (.long (-9223372036854775808 : Int64))) (fun h => by rw [Bd.returns] at h; cases h)
  refine ⟨_, _, pre0 _ ?_, hrun, hended, _, _, rfl, ?_, ⟨_, rfl⟩, hW, hsame.mono (by decide) (by decide)⟩
  · show Steps p.tables e below (s₁.setTop (mkF m 0 #[.val (.long q1), .second, .val (.int p2), .val (.int p3), .unset, .unset, .unset] [])) _
    refine XS.iloadN X0.here hx rfl (hb hby d2_0) rfl ?_
    show Steps p.tables e below (s₁.setTop (mkF m 1 #[.val (.long q1), .second, .val (.int p2), .val (.int p3), .unset, .unset, .unset] [(.int p3)])) _
    refine XS.iloadN X0.here hx rfl (hb hby d2_1) rfl ?_
    show Steps p.tables e below (s₁.setTop (mkF m 2 #[.val (.long q1), .second, .val (.int p2), .val (.int p3), .unset, .unset, .unset] [(.int p2), (.int p3)])) _
    refine XS.isub X0.here hx rfl (hb hby d2_2) rfl ?_
    show Steps p.tables e below (s₁.setTop (mkF m 3 #[.val (.long q1), .second, .val (.int p2), .val (.int p3), .unset, .unset, .unset] [(.int (p3 - p2))])) _
    refine XS.istore X0.here hx rfl (hb hby d2_3) rfl (l' := #[.val (.long q1), .second, .val (.int p2), .val (.int p3), .val (.int (p3 - p2)), .unset, .unset]) rfl ?_
    show Steps p.tables e below (s₁.setTop (mkF m 5 #[.val (.long q1), .second, .val (.int p2), .val (.int p3), .val (.int (p3 - p2)), .unset, .unset] [])) _
    refine XS.iload X0.here hx rfl (hb hby d2_5) rfl ?_
    show Steps p.tables e below (s₁.setTop (mkF m 7 #[.val (.long q1), .second, .val (.int p2), .val (.int p3), .val (.int (p3 - p2)), .unset, .unset] [(.int (p3 - p2))])) _
    refine XS.bipush X0.here hx rfl (hb hby d2_7) ?_
    show Steps p.tables e below (s₁.setTop (mkF m 9 #[.val (.long q1), .second, .val (.int p2), .val (.int p3), .val (.int (p3 - p2)), .unset, .unset] [(.int (18 : Int32)), (.int (p3 - p2))])) _
    refine XS.icmpYes X0.here hx rfl (pc0 := 9) (pc' := 16) rfl (hb hby d2_9) rfl (flt hc9).2.2.2 (by decide) (by decide) ?_
    show Steps p.tables e below (s₁.setTop (mkF m 16 #[.val (.long q1), .second, .val (.int p2), .val (.int p3), .val (.int (p3 - p2)), .unset, .unset] [])) _
    refine st4 _ ?_
    show Steps p.tables e below (T4.setTop (mkF m 19 #[.val (.long q1), .second, .val (.int p2), .val (.int p3), .val (.int (p3 - p2)), .unset, .unset] [(.ref wT)])) _
    refine XS.bipush X4.here hx rfl (hb hby d2_19) ?_
    show Steps p.tables e below (T4.setTop (mkF m 21 #[.val (.long q1), .second, .val (.int p2), .val (.int p3), .val (.int (p3 - p2)), .unset, .unset] [(.int (18 : Int32)), (.ref wT)])) _
    refine XS.iload X4.here hx rfl (hb hby d2_21) rfl ?_
    show Steps p.tables e below (T4.setTop (mkF m 23 #[.val (.long q1), .second, .val (.int p2), .val (.int p3), .val (.int (p3 - p2)), .unset, .unset] [(.int (p3 - p2)), (.int (18 : Int32)), (.ref wT)])) _
    refine XS.isub X4.here hx rfl (hb hby d2_23) rfl ?_
    show Steps p.tables e below (T4.setTop (mkF m 24 #[.val (.long q1), .second, .val (.int p2), .val (.int p3), .val (.int (p3 - p2)), .unset, .unset] [(.int ((18 : Int32) - (p3 - p2))), (.ref wT)])) _
    refine X4.laload hx (j := ((18 : Int32) - (p3 - p2))) (v := (.long w5)) (by rw [e4]; exact Ar_wT.1) (State.isArrayOf_alike hZ.alike Ar_wT.2.1) Ar_wT.2.2 hin24 hat24 (g := (mkF m 24 #[.val (.long q1), .second, .val (.int p2), .val (.int p3), .val (.int (p3 - p2)), .unset, .unset] [(.int ((18 : Int32) - (p3 - p2))), (.ref wT)])) rfl rfl (hb hby d2_24) _ ?_
    show Steps p.tables e below (T4.setTop (mkF m 25 #[.val (.long q1), .second, .val (.int p2), .val (.int p3), .val (.int (p3 - p2)), .unset, .unset] [(.long w5)])) _
    refine XS.lstore X4.here hx rfl (hb hby d2_25) rfl (l' := #[.val (.long q1), .second, .val (.int p2), .val (.int p3), .val (.int (p3 - p2)), .val (.long w5), .second]) rfl ?_
    show Steps p.tables e below (T4.setTop (mkF m 27 #[.val (.long q1), .second, .val (.int p2), .val (.int p3), .val (.int (p3 - p2)), .val (.long w5), .second] [])) _
    refine XS.lloadN X4.here hx rfl (hb hby d2_27) rfl ?_
    show Steps p.tables e below (T4.setTop (mkF m 28 #[.val (.long q1), .second, .val (.int p2), .val (.int p3), .val (.int (p3 - p2)), .val (.long w5), .second] [(.long q1)])) _
    refine XS.lload X4.here hx rfl (hb hby d2_28) rfl ?_
    show Steps p.tables e below (T4.setTop (mkF m 30 #[.val (.long q1), .second, .val (.int p2), .val (.int p3), .val (.int (p3 - p2)), .val (.long w5), .second] [(.long w5), (.long q1)])) _
    refine XS.lcmp X4.here hx rfl (hb hby d2_30) rfl ?_
    show Steps p.tables e below (T4.setTop (mkF m 31 #[.val (.long q1), .second, .val (.int p2), .val (.int p3), .val (.int (p3 - p2)), .val (.long w5), .second] [(.int (lcmpW q1 w5))])) _
    refine XS.ifNo X4.here hx rfl (hb hby d2_31) rfl ((if0 _ _).trans (tlt hc31).2.1) ?_
    show Steps p.tables e below (T4.setTop (mkF m 34 #[.val (.long q1), .second, .val (.int p2), .val (.int p3), .val (.int (p3 - p2)), .val (.long w5), .second] [])) _
    refine XS.lloadN X4.here hx rfl (hb hby d2_34) rfl ?_
    show Steps p.tables e below (T4.setTop (mkF m 35 #[.val (.long q1), .second, .val (.int p2), .val (.int p3), .val (.int (p3 - p2)), .val (.long w5), .second] [(.long q1)])) _
    refine XS.lload X4.here hx rfl (hb hby d2_35) rfl ?_
    show Steps p.tables e below (T4.setTop (mkF m 37 #[.val (.long q1), .second, .val (.int p2), .val (.int p3), .val (.int (p3 - p2)), .val (.long w5), .second] [(.long w5), (.long q1)])) _
    refine XS.lneg X4.here hx rfl (hb hby d2_37) rfl ?_
    show Steps p.tables e below (T4.setTop (mkF m 38 #[.val (.long q1), .second, .val (.int p2), .val (.int p3), .val (.int (p3 - p2)), .val (.long w5), .second] [(.long (-w5)), (.long q1)])) _
    refine XS.lcmp X4.here hx rfl (hb hby d2_38) rfl ?_
    show Steps p.tables e below (T4.setTop (mkF m 39 #[.val (.long q1), .second, .val (.int p2), .val (.int p3), .val (.int (p3 - p2)), .val (.long w5), .second] [(.int (lcmpW q1 (-w5)))])) _
    refine XS.ifYes X4.here hx rfl (pc0 := 39) (pc' := 53) rfl (hb hby d2_39) rfl ((if0 _ _).trans (flt hc39).2.2.2) (by decide) (by decide) ?_
    show Steps p.tables e below (T4.setTop (mkF m 53 #[.val (.long q1), .second, .val (.int p2), .val (.int p3), .val (.int (p3 - p2)), .val (.long w5), .second] [])) _
    refine X4.ldc2Long hx hown (mvT hZ (hw _ (List.mem_of_getElem? (i := 32) rfl))) (g := (mkF m 53 #[.val (.long q1), .second, .val (.int p2), .val (.int p3), .val (.int (p3 - p2)), .val (.long w5), .second] [])) rfl (hb hby d2_53) _ ?_
    show Steps p.tables e below (T4.setTop (mkF m 56 #[.val (.long q1), .second, .val (.int p2), .val (.int p3), .val (.int (p3 - p2)), .val (.long w5), .second] [(.long (-9223372036854775808 : Int64))])) _
    jvm_step X4.here [X4.here.top, hx, (hb hby d2_56), X4.method', Bd.returns, narrow]
    first | (intro acts; rw [hr _ acts rfl rfl rfl]) | rw [hr _ _ rfl rfl rfl]
    exact Steps.refl _
  · show Q2_tft Z q1 p2 p3 wT w5 cl_wT h0 n0 _ T4.heap _
    rw [e4]
    exact ⟨rfl, N0, rfl⟩
theorem d2_42 : decode prog_8_method_15_code 42 = .ok (.lload_n 0, 1) := by decide +kernel
theorem d2_43 : decode prog_8_method_15_code 43 = .ok (.getstatic 148, 3) := by decide +kernel
theorem d2_46 : decode prog_8_method_15_code 46 = .ok (.iload 4, 2) := by decide +kernel
theorem d2_48 : decode prog_8_method_15_code 48 = .ok (.laload, 1) := by decide +kernel
theorem d2_49 : decode prog_8_method_15_code 49 = .ok (.lmul, 1) := by decide +kernel
theorem d2_50 : decode prog_8_method_15_code 50 = .ok (.goto 6, 3) := by decide +kernel
def Q2_tff (Z : State) (q1 : Int64) (p2 : Int32) (p3 : Int32) (wT : Addr) (w5 : Int64) (cl_wT : Cell) (w7 : Int64) (h0 : Heap) (n0 : Nat) (v : Option Value) (h : Heap) (L : List Loc) : Prop := v = some (.long (q1 * w7)) ∧ Fr n0 L ∧ h = h0
set_option maxRecDepth 65536 in
set_option maxHeartbeats 40000000 in
theorem rm2_tff (l : Launch) (Z : State) (a0 : Array Value) (hw : ∀ d ∈ tables_1, d.before a0 Z = true) (ws : List Jvm.Cond) (q1 : Int64) (p2 : Int32) (p3 : Int32) (wT : Addr) (w5 : Int64) (cl_wT : Cell) (w7 : Int64) (h0 : Heap) (n0 : Nat) (Z0 : n0 ≤ h0.size) (S_Decimals_TEN_TO_THE : Sta Z h0 "com/example/tollwise/tollwise/Decimals" "TEN_TO_THE" "[J" (.ref wT)) (Ar_wT : Arr Z h0 wT cl_wT .long) (hin24 : ¬ (((18 : Int32) - (p3 - p2)) < 0 ∨ cl_wT.slots.size ≤ (((18 : Int32) - (p3 - p2))).toNatClampNeg)) (hat24 : cl_wT.slots[(((18 : Int32) - (p3 - p2))).toNatClampNeg]? = some (.long w5)) (hin48 : ¬ ((p3 - p2) < 0 ∨ cl_wT.slots.size ≤ ((p3 - p2)).toNatClampNeg)) (hat48 : cl_wT.slots[((p3 - p2)).toNatClampNeg]? = some (.long w7)) (hc9 : ¬ ((18 : Int32) < (p3 - p2))) (hc31 : (lcmpW q1 w5) < (0 : Int32)) (hc39 : (0 : Int32) < (lcmpW q1 (-w5))) :
    MetFree l (⟨"com/example/tollwise/tollwise/Decimals", "rescaled", "(JII)J"⟩ : MethodName) (head1 (Jvm.Cond.code (⟨"com/example/tollwise/tollwise/Decimals", "rescaled", "(JII)J"⟩ : MethodName) prog_8_method_15_code 7 (some .long) :: ws) ({ frames := 0, cells := 0, slots := 0, locals := 0 } : Room)) (fun a U => a = #[(.long q1), (.int p2), (.int p3)] ∧ Z.Warmed39 U.vm ∧ U.heap = h0) (fun _ _ _ _ _ => True) (fun _ U o U' => ∃ v L, o = .returned v ∧ Q2_tff Z q1 p2 p3 wT w5 cl_wT w7 h0 n0 v U'.heap L ∧ FrameEnd U o U' L ({ frames := 0, cells := 0, slots := 0, locals := 0 } : Room).cells ({ frames := 0, cells := 0, slots := 0, locals := 0 } : Room).slots) := by
  refine MetFree.of_bodySF (plainFor_of_name pn_2) hisR ?_
  intro p e s m args below meth c s₁ Bd hml0 hP hK
  obtain ⟨rfl, hZ, hh⟩ := hP
  have hx := Bd.exec
  have hby := Bd.bytes
  have hml : c.maxLocals = 7 := hml0
  have hown : s.vm.findClass "com/example/tollwise/tollwise/Decimals" = some m.cls := findClass_of_methodNamed Bd.named
  have hnm := (name_of_methodNamed Bd.named Bd.method).1
  have X0 : Stand p l e ({ frames := 0, cells := 0, slots := 0, locals := 0 } : Room) s m #[(.long q1), (.int p2), (.int p3)] below meth c s₁ [] 0 0 := Stand.of_body Bd
  have e0 : s₁.heap = h0 := by rw [← hh, Bd.state]; rfl
  have N0 := Fr.nil n0
  have pre0 : ∀ t, Steps p.tables e below (s₁.setTop (mkF m 0 #[.val (.long q1), .second, .val (.int p2), .val (.int p3), .unset, .unset, .unset] [])) t → Steps p.tables e below (s₁.setTop (entryFrame m #[(.long q1), (.int p2), (.int p3)] 7)) t := fun t k => castTop (ef_2 m q1 p2 p3) k
  obtain ⟨T4, X4, e4, st4⟩ := getS2 X0 hx hZ hown (host := "") (Or.inl (hw _ (List.mem_of_getElem? (i := 29) rfl))) Via.refl e0 S_Decimals_TEN_TO_THE (g := (mkF m 16 #[.val (.long q1), .second, .val (.int p2), .val (.int p3), .val (.int (p3 - p2)), .unset, .unset] [])) rfl (hb hby d2_16)
  obtain ⟨T6, X6, e6, st6⟩ := getS2 X4 hx hZ hown (host := "") (Or.inl (hw _ (List.mem_of_getElem? (i := 29) rfl))) Via.refl e4 S_Decimals_TEN_TO_THE (g := (mkF m 43 #[.val (.long q1), .second, .val (.int p2), .val (.int p3), .val (.int (p3 - p2)), .val (.long w5), .second] [(.long q1)])) rfl (hb hby d2_43)
  obtain ⟨fs, hr, hrun, hended, hW, hsame⟩ := X6.leave (v := some (.long (q1 * w7))) (fun h => by rw [Bd.returns] at h; cases h)
  refine ⟨_, _, pre0 _ ?_, hrun, hended, _, _, rfl, ?_, ⟨_, rfl⟩, hW, hsame.mono (by decide) (by decide)⟩
  · show Steps p.tables e below (s₁.setTop (mkF m 0 #[.val (.long q1), .second, .val (.int p2), .val (.int p3), .unset, .unset, .unset] [])) _
    refine XS.iloadN X0.here hx rfl (hb hby d2_0) rfl ?_
    show Steps p.tables e below (s₁.setTop (mkF m 1 #[.val (.long q1), .second, .val (.int p2), .val (.int p3), .unset, .unset, .unset] [(.int p3)])) _
    refine XS.iloadN X0.here hx rfl (hb hby d2_1) rfl ?_
    show Steps p.tables e below (s₁.setTop (mkF m 2 #[.val (.long q1), .second, .val (.int p2), .val (.int p3), .unset, .unset, .unset] [(.int p2), (.int p3)])) _
    refine XS.isub X0.here hx rfl (hb hby d2_2) rfl ?_
    show Steps p.tables e below (s₁.setTop (mkF m 3 #[.val (.long q1), .second, .val (.int p2), .val (.int p3), .unset, .unset, .unset] [(.int (p3 - p2))])) _
    refine XS.istore X0.here hx rfl (hb hby d2_3) rfl (l' := #[.val (.long q1), .second, .val (.int p2), .val (.int p3), .val (.int (p3 - p2)), .unset, .unset]) rfl ?_
    show Steps p.tables e below (s₁.setTop (mkF m 5 #[.val (.long q1), .second, .val (.int p2), .val (.int p3), .val (.int (p3 - p2)), .unset, .unset] [])) _
    refine XS.iload X0.here hx rfl (hb hby d2_5) rfl ?_
    show Steps p.tables e below (s₁.setTop (mkF m 7 #[.val (.long q1), .second, .val (.int p2), .val (.int p3), .val (.int (p3 - p2)), .unset, .unset] [(.int (p3 - p2))])) _
    refine XS.bipush X0.here hx rfl (hb hby d2_7) ?_
    show Steps p.tables e below (s₁.setTop (mkF m 9 #[.val (.long q1), .second, .val (.int p2), .val (.int p3), .val (.int (p3 - p2)), .unset, .unset] [(.int (18 : Int32)), (.int (p3 - p2))])) _
    refine XS.icmpYes X0.here hx rfl (pc0 := 9) (pc' := 16) rfl (hb hby d2_9) rfl (flt hc9).2.2.2 (by decide) (by decide) ?_
    show Steps p.tables e below (s₁.setTop (mkF m 16 #[.val (.long q1), .second, .val (.int p2), .val (.int p3), .val (.int (p3 - p2)), .unset, .unset] [])) _
    refine st4 _ ?_
    show Steps p.tables e below (T4.setTop (mkF m 19 #[.val (.long q1), .second, .val (.int p2), .val (.int p3), .val (.int (p3 - p2)), .unset, .unset] [(.ref wT)])) _
    refine XS.bipush X4.here hx rfl (hb hby d2_19) ?_
    show Steps p.tables e below (T4.setTop (mkF m 21 #[.val (.long q1), .second, .val (.int p2), .val (.int p3), .val (.int (p3 - p2)), .unset, .unset] [(.int (18 : Int32)), (.ref wT)])) _
    refine XS.iload X4.here hx rfl (hb hby d2_21) rfl ?_
    show Steps p.tables e below (T4.setTop (mkF m 23 #[.val (.long q1), .second, .val (.int p2), .val (.int p3), .val (.int (p3 - p2)), .unset, .unset] [(.int (p3 - p2)), (.int (18 : Int32)), (.ref wT)])) _
    refine XS.isub X4.here hx rfl (hb hby d2_23) rfl ?_
    show Steps p.tables e below (T4.setTop (mkF m 24 #[.val (.long q1), .second, .val (.int p2), .val (.int p3), .val (.int (p3 - p2)), .unset, .unset] [(.int ((18 : Int32) - (p3 - p2))), (.ref wT)])) _
    refine X4.laload hx (j := ((18 : Int32) - (p3 - p2))) (v := (.long w5)) (by rw [e4]; exact Ar_wT.1) (State.isArrayOf_alike hZ.alike Ar_wT.2.1) Ar_wT.2.2 hin24 hat24 (g := (mkF m 24 #[.val (.long q1), .second, .val (.int p2), .val (.int p3), .val (.int (p3 - p2)), .unset, .unset] [(.int ((18 : Int32) - (p3 - p2))), (.ref wT)])) rfl rfl (hb hby d2_24) _ ?_
    show Steps p.tables e below (T4.setTop (mkF m 25 #[.val (.long q1), .second, .val (.int p2), .val (.int p3), .val (.int (p3 - p2)), .unset, .unset] [(.long w5)])) _
    refine XS.lstore X4.here hx rfl (hb hby d2_25) rfl (l' := #[.val (.long q1), .second, .val (.int p2), .val (.int p3), .val (.int (p3 - p2)), .val (.long w5), .second]) rfl ?_
    show Steps p.tables e below (T4.setTop (mkF m 27 #[.val (.long q1), .second, .val (.int p2), .val (.int p3), .val (.int (p3 - p2)), .val (.long w5), .second] [])) _
    refine XS.lloadN X4.here hx rfl (hb hby d2_27) rfl ?_
    show Steps p.tables e below (T4.setTop (mkF m 28 #[.val (.long q1), .second, .val (.int p2), .val (.int p3), .val (.int (p3 - p2)), .val (.long w5), .second] [(.long q1)])) _
    refine XS.lload X4.here hx rfl (hb hby d2_28) rfl ?_
    show Steps p.tables e below (T4.setTop (mkF m 30 #[.val (.long q1), .second, .val (.int p2), .val (.int p3), .val (.int (p3 - p2)), .val (.long w5), .second] [(.long w5), (.long q1)])) _
    refine XS.lcmp X4.here hx rfl (hb hby d2_30) rfl ?_
    show Steps p.tables e below (T4.setTop (mkF m 31 #[.val (.long q1), .second, .val (.int p2), .val (.int p3), .val (.int (p3 - p2)), .val (.long w5), .second] [(.int (lcmpW q1 w5))])) _
    refine XS.ifNo X4.here hx rfl (hb hby d2_31) rfl ((if0 _ _).trans (tlt hc31).2.1) ?_
    show Steps p.tables e below (T4.setTop (mkF m 34 #[.val (.long q1), .second, .val (.int p2), .val (.int p3), .val (.int (p3 - p2)), .val (.long w5), .second] [])) _
    refine XS.lloadN X4.here hx rfl (hb hby d2_34) rfl ?_
    show Steps p.tables e below (T4.setTop (mkF m 35 #[.val (.long q1), .second, .val (.int p2), .val (.int p3), .val (.int (p3 - p2)), .val (.long w5), .second] [(.long q1)])) _
    refine XS.lload X4.here hx rfl (hb hby d2_35) rfl ?_
    show Steps p.tables e below (T4.setTop (mkF m 37 #[.val (.long q1), .second, .val (.int p2), .val (.int p3), .val (.int (p3 - p2)), .val (.long w5), .second] [(.long w5), (.long q1)])) _
    refine XS.lneg X4.here hx rfl (hb hby d2_37) rfl ?_
    show Steps p.tables e below (T4.setTop (mkF m 38 #[.val (.long q1), .second, .val (.int p2), .val (.int p3), .val (.int (p3 - p2)), .val (.long w5), .second] [(.long (-w5)), (.long q1)])) _
    refine XS.lcmp X4.here hx rfl (hb hby d2_38) rfl ?_
    show Steps p.tables e below (T4.setTop (mkF m 39 #[.val (.long q1), .second, .val (.int p2), .val (.int p3), .val (.int (p3 - p2)), .val (.long w5), .second] [(.int (lcmpW q1 (-w5)))])) _
    refine XS.ifNo X4.here hx rfl (hb hby d2_39) rfl ((if0 _ _).trans (tlt hc39).2.2.2) ?_
    show Steps p.tables e below (T4.setTop (mkF m 42 #[.val (.long q1), .second, .val (.int p2), .val (.int p3), .val (.int (p3 - p2)), .val (.long w5), .second] [])) _
    refine XS.lloadN X4.here hx rfl (hb hby d2_42) rfl ?_
    show Steps p.tables e below (T4.setTop (mkF m 43 #[.val (.long q1), .second, .val (.int p2), .val (.int p3), .val (.int (p3 - p2)), .val (.long w5), .second] [(.long q1)])) _
    refine st6 _ ?_
    show Steps p.tables e below (T6.setTop (mkF m 46 #[.val (.long q1), .second, .val (.int p2), .val (.int p3), .val (.int (p3 - p2)), .val (.long w5), .second] [(.ref wT), (.long q1)])) _
    refine XS.iload X6.here hx rfl (hb hby d2_46) rfl ?_
    show Steps p.tables e below (T6.setTop (mkF m 48 #[.val (.long q1), .second, .val (.int p2), .val (.int p3), .val (.int (p3 - p2)), .val (.long w5), .second] [(.int (p3 - p2)), (.ref wT), (.long q1)])) _
    refine X6.laload hx (j := (p3 - p2)) (v := (.long w7)) (by rw [e6]; exact Ar_wT.1) (State.isArrayOf_alike hZ.alike Ar_wT.2.1) Ar_wT.2.2 hin48 hat48 (g := (mkF m 48 #[.val (.long q1), .second, .val (.int p2), .val (.int p3), .val (.int (p3 - p2)), .val (.long w5), .second] [(.int (p3 - p2)), (.ref wT), (.long q1)])) rfl rfl (hb hby d2_48) _ ?_
    show Steps p.tables e below (T6.setTop (mkF m 49 #[.val (.long q1), .second, .val (.int p2), .val (.int p3), .val (.int (p3 - p2)), .val (.long w5), .second] [(.long w7), (.long q1)])) _
    refine XS.lmul X6.here hx rfl (hb hby d2_49) rfl ?_
    show Steps p.tables e below (T6.setTop (mkF m 50 #[.val (.long q1), .second, .val (.int p2), .val (.int p3), .val (.int (p3 - p2)), .val (.long w5), .second] [(.long (q1 * w7))])) _
    refine XS.goto X6.here hx rfl (pc0 := 50) (pc' := 56) rfl (hb hby d2_50) (by decide) (by decide) ?_
    show Steps p.tables e below (T6.setTop (mkF m 56 #[.val (.long q1), .second, .val (.int p2), .val (.int p3), .val (.int (p3 - p2)), .val (.long w5), .second] [(.long (q1 * w7))])) _
    jvm_step X6.here [X6.here.top, hx, (hb hby d2_56), X6.method', Bd.returns, narrow]
    first | (intro acts; rw [hr _ acts rfl rfl rfl]) | rw [hr _ _ rfl rfl rfl]
    exact Steps.refl _
  · show Q2_tff Z q1 p2 p3 wT w5 cl_wT w7 h0 n0 _ T6.heap _
    rw [e6]
    exact ⟨rfl, N0, rfl⟩
abbrev own_Resc (l : Launch) (Z : State) (h0 : Heap) (n0 : Nat) (q1 : Int64) (p2 p3 : Int32) (r : Int64) : Prop := MetFree l (⟨"com/example/tollwise/tollwise/Decimals", "rescaled", "(JII)J"⟩ : MethodName) (head1 (Jvm.Cond.code (⟨"com/example/tollwise/tollwise/Decimals", "rescaled", "(JII)J"⟩ : MethodName) prog_8_method_15_code 7 (some .long) :: []) ({ frames := 0, cells := 0, slots := 0, locals := 0 } : Room)) (fun a U => a = #[(.long q1), (.int p2), (.int p3)] ∧ Z.Warmed39 U.vm ∧ U.heap = h0) (fun _ _ _ _ _ => True) (fun _ U o U' => ∃ v L, o = .returned v ∧ own_Q (.long r) h0 n0 v U'.heap L ∧ FrameEnd U o U' L ({ frames := 0, cells := 0, slots := 0, locals := 0 } : Room).cells ({ frames := 0, cells := 0, slots := 0, locals := 0 } : Room).slots)
set_option maxRecDepth 65536 in
set_option maxHeartbeats 40000000 in
theorem tn0_0_23_A0 {p : Program} {l : Launch} {e : Env} {R : Room} {s : State} {m : MethodId} {args : Array Value} {below : List Frame} {meth : Method} {c : Code} {T0 : State} {locs : List Loc} {cells slots : Nat} {Z : State} {a0 : Array Value} {h0 : Heap} (q1 : Int64) (p2 : Int32) (p3 : Int32) (p4 : Int32)
    (X0 : Stand p l e R s m args below meth c T0 locs cells slots) (hx : p.tables.exec = Jvm.exec) (hZ : Z.Warmed39 s.vm) (hw : ∀ d ∈ tables_1, d.before a0 Z = true) (hby : c.code = code) (hml : c.maxLocals = 17) (hown : s.vm.findClass "com/example/tollwise/tollwise/DecimalsRescaledPinLaw" = some m.cls) (e0 : T0.heap = h0) (hc4 : (p4 &&& (3 : Int32)) = (0 : Int32)) :
    ∃ (T' : State), Stand p l e R s m args below meth c T' locs cells slots ∧ T'.heap = h0 ∧
      ∀ target, Steps p.tables e below (T'.setTop (mkF m 23 #[.val (.long q1), .second, .val (.int p2), .val (.int p3), .val (.int p4), .val (.int (p3 &&& (2147483647 : Int32))), .unset, .unset, .unset, .unset, .unset, .unset, .unset, .unset, .unset, .unset, .unset] [])) target → Steps p.tables e below (T0.setTop (mkF m 0 #[.val (.long q1), .second, .val (.int p2), .val (.int p3), .val (.int p4), .unset, .unset, .unset, .unset, .unset, .unset, .unset, .unset, .unset, .unset, .unset, .unset] [])) target := by

  refine ⟨T0, X0, e0, fun target kt => ?_⟩
  show Steps p.tables e below (T0.setTop (mkF m 0 #[.val (.long q1), .second, .val (.int p2), .val (.int p3), .val (.int p4), .unset, .unset, .unset, .unset, .unset, .unset, .unset, .unset, .unset, .unset, .unset, .unset] [])) _
  refine XS.iload X0.here hx rfl (hb hby at_0) rfl ?_
  show Steps p.tables e below (T0.setTop (mkF m 2 #[.val (.long q1), .second, .val (.int p2), .val (.int p3), .val (.int p4), .unset, .unset, .unset, .unset, .unset, .unset, .unset, .unset, .unset, .unset, .unset, .unset] [(.int p4)])) _
  refine XS.iconst X0.here hx rfl (hb hby at_2) ?_
  show Steps p.tables e below (T0.setTop (mkF m 3 #[.val (.long q1), .second, .val (.int p2), .val (.int p3), .val (.int p4), .unset, .unset, .unset, .unset, .unset, .unset, .unset, .unset, .unset, .unset, .unset, .unset] [(.int (3 : Int32)), (.int p4)])) _
  refine XS.iand X0.here hx rfl (hb hby at_3) rfl ?_
  show Steps p.tables e below (T0.setTop (mkF m 4 #[.val (.long q1), .second, .val (.int p2), .val (.int p3), .val (.int p4), .unset, .unset, .unset, .unset, .unset, .unset, .unset, .unset, .unset, .unset, .unset, .unset] [(.int (p4 &&& (3 : Int32)))])) _
  refine XS.ifNo X0.here hx rfl (hb hby at_4) rfl ((if0 _ _).trans (teq hc4).2) ?_
  show Steps p.tables e below (T0.setTop (mkF m 7 #[.val (.long q1), .second, .val (.int p2), .val (.int p3), .val (.int p4), .unset, .unset, .unset, .unset, .unset, .unset, .unset, .unset, .unset, .unset, .unset, .unset] [])) _
  refine XS.iloadN X0.here hx rfl (hb hby at_7) rfl ?_
  show Steps p.tables e below (T0.setTop (mkF m 8 #[.val (.long q1), .second, .val (.int p2), .val (.int p3), .val (.int p4), .unset, .unset, .unset, .unset, .unset, .unset, .unset, .unset, .unset, .unset, .unset, .unset] [(.int p3)])) _
  refine X0.ldcInt hx hown (mvT hZ (hw _ (List.mem_of_getElem? (i := 0) rfl))) (g := (mkF m 8 #[.val (.long q1), .second, .val (.int p2), .val (.int p3), .val (.int p4), .unset, .unset, .unset, .unset, .unset, .unset, .unset, .unset, .unset, .unset, .unset, .unset] [(.int p3)])) rfl (hb hby at_8) _ ?_
  show Steps p.tables e below (T0.setTop (mkF m 10 #[.val (.long q1), .second, .val (.int p2), .val (.int p3), .val (.int p4), .unset, .unset, .unset, .unset, .unset, .unset, .unset, .unset, .unset, .unset, .unset, .unset] [(.int (2147483647 : Int32)), (.int p3)])) _
  refine XS.iand X0.here hx rfl (hb hby at_10) rfl ?_
  show Steps p.tables e below (T0.setTop (mkF m 11 #[.val (.long q1), .second, .val (.int p2), .val (.int p3), .val (.int p4), .unset, .unset, .unset, .unset, .unset, .unset, .unset, .unset, .unset, .unset, .unset, .unset] [(.int (p3 &&& (2147483647 : Int32)))])) _
  refine XS.goto X0.here hx rfl (pc0 := 11) (pc' := 21) rfl (hb hby at_11) (by decide) (by decide) ?_
  show Steps p.tables e below (T0.setTop (mkF m 21 #[.val (.long q1), .second, .val (.int p2), .val (.int p3), .val (.int p4), .unset, .unset, .unset, .unset, .unset, .unset, .unset, .unset, .unset, .unset, .unset, .unset] [(.int (p3 &&& (2147483647 : Int32)))])) _
  refine XS.istore X0.here hx rfl (hb hby at_21) rfl (l' := #[.val (.long q1), .second, .val (.int p2), .val (.int p3), .val (.int p4), .val (.int (p3 &&& (2147483647 : Int32))), .unset, .unset, .unset, .unset, .unset, .unset, .unset, .unset, .unset, .unset, .unset]) rfl ?_
  exact kt
set_option maxRecDepth 65536 in
set_option maxHeartbeats 40000000 in
theorem tn0_0_23_A1 {p : Program} {l : Launch} {e : Env} {R : Room} {s : State} {m : MethodId} {args : Array Value} {below : List Frame} {meth : Method} {c : Code} {T0 : State} {locs : List Loc} {cells slots : Nat} {Z : State} {a0 : Array Value} {h0 : Heap} (q1 : Int64) (p2 : Int32) (p3 : Int32) (p4 : Int32)
    (X0 : Stand p l e R s m args below meth c T0 locs cells slots) (hx : p.tables.exec = Jvm.exec) (hZ : Z.Warmed39 s.vm) (hw : ∀ d ∈ tables_1, d.before a0 Z = true) (hby : c.code = code) (hml : c.maxLocals = 17) (hown : s.vm.findClass "com/example/tollwise/tollwise/DecimalsRescaledPinLaw" = some m.cls) (e0 : T0.heap = h0) (hc4 : ¬ ((p4 &&& (3 : Int32)) = (0 : Int32))) :
    ∃ (T' : State), Stand p l e R s m args below meth c T' locs cells slots ∧ T'.heap = h0 ∧
      ∀ target, Steps p.tables e below (T'.setTop (mkF m 23 #[.val (.long q1), .second, .val (.int p2), .val (.int p3), .val (.int p4), .val (.int ((p3 &&& (2147483647 : Int32)) - ((p3 &&& (2147483647 : Int32)) / (21 : Int32)) * (21 : Int32))), .unset, .unset, .unset, .unset, .unset, .unset, .unset, .unset, .unset, .unset, .unset] [])) target → Steps p.tables e below (T0.setTop (mkF m 0 #[.val (.long q1), .second, .val (.int p2), .val (.int p3), .val (.int p4), .unset, .unset, .unset, .unset, .unset, .unset, .unset, .unset, .unset, .unset, .unset, .unset] [])) target := by

  refine ⟨T0, X0, e0, fun target kt => ?_⟩
  show Steps p.tables e below (T0.setTop (mkF m 0 #[.val (.long q1), .second, .val (.int p2), .val (.int p3), .val (.int p4), .unset, .unset, .unset, .unset, .unset, .unset, .unset, .unset, .unset, .unset, .unset, .unset] [])) _
  refine XS.iload X0.here hx rfl (hb hby at_0) rfl ?_
  show Steps p.tables e below (T0.setTop (mkF m 2 #[.val (.long q1), .second, .val (.int p2), .val (.int p3), .val (.int p4), .unset, .unset, .unset, .unset, .unset, .unset, .unset, .unset, .unset, .unset, .unset, .unset] [(.int p4)])) _
  refine XS.iconst X0.here hx rfl (hb hby at_2) ?_
  show Steps p.tables e below (T0.setTop (mkF m 3 #[.val (.long q1), .second, .val (.int p2), .val (.int p3), .val (.int p4), .unset, .unset, .unset, .unset, .unset, .unset, .unset, .unset, .unset, .unset, .unset, .unset] [(.int (3 : Int32)), (.int p4)])) _
  refine XS.iand X0.here hx rfl (hb hby at_3) rfl ?_
  show Steps p.tables e below (T0.setTop (mkF m 4 #[.val (.long q1), .second, .val (.int p2), .val (.int p3), .val (.int p4), .unset, .unset, .unset, .unset, .unset, .unset, .unset, .unset, .unset, .unset, .unset, .unset] [(.int (p4 &&& (3 : Int32)))])) _
  refine XS.ifYes X0.here hx rfl (pc0 := 4) (pc' := 14) rfl (hb hby at_4) rfl ((if0 _ _).trans (feq hc4).2) (by decide) (by decide) ?_
  show Steps p.tables e below (T0.setTop (mkF m 14 #[.val (.long q1), .second, .val (.int p2), .val (.int p3), .val (.int p4), .unset, .unset, .unset, .unset, .unset, .unset, .unset, .unset, .unset, .unset, .unset, .unset] [])) _
  refine XS.iloadN X0.here hx rfl (hb hby at_14) rfl ?_
  show Steps p.tables e below (T0.setTop (mkF m 15 #[.val (.long q1), .second, .val (.int p2), .val (.int p3), .val (.int p4), .unset, .unset, .unset, .unset, .unset, .unset, .unset, .unset, .unset, .unset, .unset, .unset] [(.int p3)])) _
  refine X0.ldcInt hx hown (mvT hZ (hw _ (List.mem_of_getElem? (i := 0) rfl))) (g := (mkF m 15 #[.val (.long q1), .second, .val (.int p2), .val (.int p3), .val (.int p4), .unset, .unset, .unset, .unset, .unset, .unset, .unset, .unset, .unset, .unset, .unset, .unset] [(.int p3)])) rfl (hb hby at_15) _ ?_
  show Steps p.tables e below (T0.setTop (mkF m 17 #[.val (.long q1), .second, .val (.int p2), .val (.int p3), .val (.int p4), .unset, .unset, .unset, .unset, .unset, .unset, .unset, .unset, .unset, .unset, .unset, .unset] [(.int (2147483647 : Int32)), (.int p3)])) _
  refine XS.iand X0.here hx rfl (hb hby at_17) rfl ?_
  show Steps p.tables e below (T0.setTop (mkF m 18 #[.val (.long q1), .second, .val (.int p2), .val (.int p3), .val (.int p4), .unset, .unset, .unset, .unset, .unset, .unset, .unset, .unset, .unset, .unset, .unset, .unset] [(.int (p3 &&& (2147483647 : Int32)))])) _
  refine XS.bipush X0.here hx rfl (hb hby at_18) ?_
  show Steps p.tables e below (T0.setTop (mkF m 20 #[.val (.long q1), .second, .val (.int p2), .val (.int p3), .val (.int p4), .unset, .unset, .unset, .unset, .unset, .unset, .unset, .unset, .unset, .unset, .unset, .unset] [(.int (21 : Int32)), (.int (p3 &&& (2147483647 : Int32)))])) _
  refine XS.irem X0.here hx rfl (hb hby at_20) rfl (by decide) ?_
  show Steps p.tables e below (T0.setTop (mkF m 21 #[.val (.long q1), .second, .val (.int p2), .val (.int p3), .val (.int p4), .unset, .unset, .unset, .unset, .unset, .unset, .unset, .unset, .unset, .unset, .unset, .unset] [(.int ((p3 &&& (2147483647 : Int32)) - ((p3 &&& (2147483647 : Int32)) / (21 : Int32)) * (21 : Int32)))])) _
  refine XS.istore X0.here hx rfl (hb hby at_21) rfl (l' := #[.val (.long q1), .second, .val (.int p2), .val (.int p3), .val (.int p4), .val (.int ((p3 &&& (2147483647 : Int32)) - ((p3 &&& (2147483647 : Int32)) / (21 : Int32)) * (21 : Int32))), .unset, .unset, .unset, .unset, .unset, .unset, .unset, .unset, .unset, .unset, .unset]) rfl ?_
  exact kt
set_option maxRecDepth 65536 in
set_option maxHeartbeats 40000000 in
theorem tn0_23_54_B0 {p : Program} {l : Launch} {e : Env} {R : Room} {s : State} {m : MethodId} {args : Array Value} {below : List Frame} {meth : Method} {c : Code} {T0 : State} {locs : List Loc} {cells slots : Nat} {Z : State} {a0 : Array Value} {h0 : Heap} (q1 : Int64) (p2 : Int32) (p3 : Int32) (p4 : Int32) (d : Int32)
    (X0 : Stand p l e R s m args below meth c T0 locs cells slots) (hx : p.tables.exec = Jvm.exec) (hZ : Z.Warmed39 s.vm) (hw : ∀ d ∈ tables_1, d.before a0 Z = true) (hby : c.code = code) (hml : c.maxLocals = 17) (hown : s.vm.findClass "com/example/tollwise/tollwise/DecimalsRescaledPinLaw" = some m.cls) (e0 : T0.heap = h0) (hc37 : ¬ ((0 : Int32) < (lcmpW ((p2.toInt64) + (d.toInt64)) (2147483647 : Int64)))) :
    ∃ (T' : State), Stand p l e R s m args below meth c T' locs cells slots ∧ T'.heap = h0 ∧
      ∀ target, Steps p.tables e below (T'.setTop (mkF m 54 #[.val (.long q1), .second, .val (.int p2), .val (.int p3), .val (.int p4), .val (.int d), .val (.int p2), .val (.int (p2 + d)), .unset, .unset, .unset, .unset, .unset, .unset, .unset, .unset, .unset] [])) target → Steps p.tables e below (T0.setTop (mkF m 23 #[.val (.long q1), .second, .val (.int p2), .val (.int p3), .val (.int p4), .val (.int d), .unset, .unset, .unset, .unset, .unset, .unset, .unset, .unset, .unset, .unset, .unset] [])) target := by

  refine ⟨T0, X0, e0, fun target kt => ?_⟩
  show Steps p.tables e below (T0.setTop (mkF m 23 #[.val (.long q1), .second, .val (.int p2), .val (.int p3), .val (.int p4), .val (.int d), .unset, .unset, .unset, .unset, .unset, .unset, .unset, .unset, .unset, .unset, .unset] [])) _
  refine XS.iloadN X0.here hx rfl (hb hby at_23) rfl ?_
  show Steps p.tables e below (T0.setTop (mkF m 24 #[.val (.long q1), .second, .val (.int p2), .val (.int p3), .val (.int p4), .val (.int d), .unset, .unset, .unset, .unset, .unset, .unset, .unset, .unset, .unset, .unset, .unset] [(.int p2)])) _
  refine XS.istore X0.here hx rfl (hb hby at_24) rfl (l' := #[.val (.long q1), .second, .val (.int p2), .val (.int p3), .val (.int p4), .val (.int d), .val (.int p2), .unset, .unset, .unset, .unset, .unset, .unset, .unset, .unset, .unset, .unset]) rfl ?_
  show Steps p.tables e below (T0.setTop (mkF m 26 #[.val (.long q1), .second, .val (.int p2), .val (.int p3), .val (.int p4), .val (.int d), .val (.int p2), .unset, .unset, .unset, .unset, .unset, .unset, .unset, .unset, .unset, .unset] [])) _
  refine XS.iload X0.here hx rfl (hb hby at_26) rfl ?_
  show Steps p.tables e below (T0.setTop (mkF m 28 #[.val (.long q1), .second, .val (.int p2), .val (.int p3), .val (.int p4), .val (.int d), .val (.int p2), .unset, .unset, .unset, .unset, .unset, .unset, .unset, .unset, .unset, .unset] [(.int p2)])) _
  refine XS.i2l X0.here hx rfl (hb hby at_28) rfl ?_
  show Steps p.tables e below (T0.setTop (mkF m 29 #[.val (.long q1), .second, .val (.int p2), .val (.int p3), .val (.int p4), .val (.int d), .val (.int p2), .unset, .unset, .unset, .unset, .unset, .unset, .unset, .unset, .unset, .unset] [(.long (p2.toInt64))])) _
  refine XS.iload X0.here hx rfl (hb hby at_29) rfl ?_
  show Steps p.tables e below (T0.setTop (mkF m 31 #[.val (.long q1), .second, .val (.int p2), .val (.int p3), .val (.int p4), .val (.int d), .val (.int p2), .unset, .unset, .unset, .unset, .unset, .unset, .unset, .unset, .unset, .unset] [(.int d), (.long (p2.toInt64))])) _
  refine XS.i2l X0.here hx rfl (hb hby at_31) rfl ?_
  show Steps p.tables e below (T0.setTop (mkF m 32 #[.val (.long q1), .second, .val (.int p2), .val (.int p3), .val (.int p4), .val (.int d), .val (.int p2), .unset, .unset, .unset, .unset, .unset, .unset, .unset, .unset, .unset, .unset] [(.long (d.toInt64)), (.long (p2.toInt64))])) _
  refine XS.ladd X0.here hx rfl (hb hby at_32) rfl ?_
  show Steps p.tables e below (T0.setTop (mkF m 33 #[.val (.long q1), .second, .val (.int p2), .val (.int p3), .val (.int p4), .val (.int d), .val (.int p2), .unset, .unset, .unset, .unset, .unset, .unset, .unset, .unset, .unset, .unset] [(.long ((p2.toInt64) + (d.toInt64)))])) _
  refine X0.ldc2Long hx hown (mvT hZ (hw _ (List.mem_of_getElem? (i := 1) rfl))) (g := (mkF m 33 #[.val (.long q1), .second, .val (.int p2), .val (.int p3), .val (.int p4), .val (.int d), .val (.int p2), .unset, .unset, .unset, .unset, .unset, .unset, .unset, .unset, .unset, .unset] [(.long ((p2.toInt64) + (d.toInt64)))])) rfl (hb hby at_33) _ ?_
  show Steps p.tables e below (T0.setTop (mkF m 36 #[.val (.long q1), .second, .val (.int p2), .val (.int p3), .val (.int p4), .val (.int d), .val (.int p2), .unset, .unset, .unset, .unset, .unset, .unset, .unset, .unset, .unset, .unset] [(.long (2147483647 : Int64)), (.long ((p2.toInt64) + (d.toInt64)))])) _
  refine XS.lcmp X0.here hx rfl (hb hby at_36) rfl ?_
  show Steps p.tables e below (T0.setTop (mkF m 37 #[.val (.long q1), .second, .val (.int p2), .val (.int p3), .val (.int p4), .val (.int d), .val (.int p2), .unset, .unset, .unset, .unset, .unset, .unset, .unset, .unset, .unset, .unset] [(.int (lcmpW ((p2.toInt64) + (d.toInt64)) (2147483647 : Int64)))])) _
  refine XS.ifYes X0.here hx rfl (pc0 := 37) (pc' := 47) rfl (hb hby at_37) rfl ((if0 _ _).trans (flt hc37).2.2.2) (by decide) (by decide) ?_
  show Steps p.tables e below (T0.setTop (mkF m 47 #[.val (.long q1), .second, .val (.int p2), .val (.int p3), .val (.int p4), .val (.int d), .val (.int p2), .unset, .unset, .unset, .unset, .unset, .unset, .unset, .unset, .unset, .unset] [])) _
  refine XS.iload X0.here hx rfl (hb hby at_47) rfl ?_
  show Steps p.tables e below (T0.setTop (mkF m 49 #[.val (.long q1), .second, .val (.int p2), .val (.int p3), .val (.int p4), .val (.int d), .val (.int p2), .unset, .unset, .unset, .unset, .unset, .unset, .unset, .unset, .unset, .unset] [(.int p2)])) _
  refine XS.iload X0.here hx rfl (hb hby at_49) rfl ?_
  show Steps p.tables e below (T0.setTop (mkF m 51 #[.val (.long q1), .second, .val (.int p2), .val (.int p3), .val (.int p4), .val (.int d), .val (.int p2), .unset, .unset, .unset, .unset, .unset, .unset, .unset, .unset, .unset, .unset] [(.int d), (.int p2)])) _
  refine XS.iadd X0.here hx rfl (hb hby at_51) rfl ?_
  show Steps p.tables e below (T0.setTop (mkF m 52 #[.val (.long q1), .second, .val (.int p2), .val (.int p3), .val (.int p4), .val (.int d), .val (.int p2), .unset, .unset, .unset, .unset, .unset, .unset, .unset, .unset, .unset, .unset] [(.int (p2 + d))])) _
  refine XS.istore X0.here hx rfl (hb hby at_52) rfl (l' := #[.val (.long q1), .second, .val (.int p2), .val (.int p3), .val (.int p4), .val (.int d), .val (.int p2), .val (.int (p2 + d)), .unset, .unset, .unset, .unset, .unset, .unset, .unset, .unset, .unset]) rfl ?_
  exact kt
set_option maxRecDepth 65536 in
set_option maxHeartbeats 40000000 in
theorem tn0_23_54_B1 {p : Program} {l : Launch} {e : Env} {R : Room} {s : State} {m : MethodId} {args : Array Value} {below : List Frame} {meth : Method} {c : Code} {T0 : State} {locs : List Loc} {cells slots : Nat} {Z : State} {a0 : Array Value} {h0 : Heap} (q1 : Int64) (p2 : Int32) (p3 : Int32) (p4 : Int32) (d : Int32)
    (X0 : Stand p l e R s m args below meth c T0 locs cells slots) (hx : p.tables.exec = Jvm.exec) (hZ : Z.Warmed39 s.vm) (hw : ∀ d ∈ tables_1, d.before a0 Z = true) (hby : c.code = code) (hml : c.maxLocals = 17) (hown : s.vm.findClass "com/example/tollwise/tollwise/DecimalsRescaledPinLaw" = some m.cls) (e0 : T0.heap = h0) (hc37 : (0 : Int32) < (lcmpW ((p2.toInt64) + (d.toInt64)) (2147483647 : Int64))) :
    ∃ (T' : State), Stand p l e R s m args below meth c T' locs cells slots ∧ T'.heap = h0 ∧
      ∀ target, Steps p.tables e below (T'.setTop (mkF m 54 #[.val (.long q1), .second, .val (.int p2), .val (.int p3), .val (.int p4), .val (.int d), .val (.int ((2147483647 : Int32) - d)), .val (.int (((2147483647 : Int32) - d) + d)), .unset, .unset, .unset, .unset, .unset, .unset, .unset, .unset, .unset] [])) target → Steps p.tables e below (T0.setTop (mkF m 23 #[.val (.long q1), .second, .val (.int p2), .val (.int p3), .val (.int p4), .val (.int d), .unset, .unset, .unset, .unset, .unset, .unset, .unset, .unset, .unset, .unset, .unset] [])) target := by

  refine ⟨T0, X0, e0, fun target kt => ?_⟩
  show Steps p.tables e below (T0.setTop (mkF m 23 #[.val (.long q1), .second, .val (.int p2), .val (.int p3), .val (.int p4), .val (.int d), .unset, .unset, .unset, .unset, .unset, .unset, .unset, .unset, .unset, .unset, .unset] [])) _
  refine XS.iloadN X0.here hx rfl (hb hby at_23) rfl ?_
  show Steps p.tables e below (T0.setTop (mkF m 24 #[.val (.long q1), .second, .val (.int p2), .val (.int p3), .val (.int p4), .val (.int d), .unset, .unset, .unset, .unset, .unset, .unset, .unset, .unset, .unset, .unset, .unset] [(.int p2)])) _
  refine XS.istore X0.here hx rfl (hb hby at_24) rfl (l' := #[.val (.long q1), .second, .val (.int p2), .val (.int p3), .val (.int p4), .val (.int d), .val (.int p2), .unset, .unset, .unset, .unset, .unset, .unset, .unset, .unset, .unset, .unset]) rfl ?_
  show Steps p.tables e below (T0.setTop (mkF m 26 #[.val (.long q1), .second, .val (.int p2), .val (.int p3), .val (.int p4), .val (.int d), .val (.int p2), .unset, .unset, .unset, .unset, .unset, .unset, .unset, .unset, .unset, .unset] [])) _
  refine XS.iload X0.here hx rfl (hb hby at_26) rfl ?_
  show Steps p.tables e below (T0.setTop (mkF m 28 #[.val (.long q1), .second, .val (.int p2), .val (.int p3), .val (.int p4), .val (.int d), .val (.int p2), .unset, .unset, .unset, .unset, .unset, .unset, .unset, .unset, .unset, .unset] [(.int p2)])) _
  refine XS.i2l X0.here hx rfl (hb hby at_28) rfl ?_
  show Steps p.tables e below (T0.setTop (mkF m 29 #[.val (.long q1), .second, .val (.int p2), .val (.int p3), .val (.int p4), .val (.int d), .val (.int p2), .unset, .unset, .unset, .unset, .unset, .unset, .unset, .unset, .unset, .unset] [(.long (p2.toInt64))])) _
  refine XS.iload X0.here hx rfl (hb hby at_29) rfl ?_
  show Steps p.tables e below (T0.setTop (mkF m 31 #[.val (.long q1), .second, .val (.int p2), .val (.int p3), .val (.int p4), .val (.int d), .val (.int p2), .unset, .unset, .unset, .unset, .unset, .unset, .unset, .unset, .unset, .unset] [(.int d), (.long (p2.toInt64))])) _
  refine XS.i2l X0.here hx rfl (hb hby at_31) rfl ?_
  show Steps p.tables e below (T0.setTop (mkF m 32 #[.val (.long q1), .second, .val (.int p2), .val (.int p3), .val (.int p4), .val (.int d), .val (.int p2), .unset, .unset, .unset, .unset, .unset, .unset, .unset, .unset, .unset, .unset] [(.long (d.toInt64)), (.long (p2.toInt64))])) _
  refine XS.ladd X0.here hx rfl (hb hby at_32) rfl ?_
  show Steps p.tables e below (T0.setTop (mkF m 33 #[.val (.long q1), .second, .val (.int p2), .val (.int p3), .val (.int p4), .val (.int d), .val (.int p2), .unset, .unset, .unset, .unset, .unset, .unset, .unset, .unset, .unset, .unset] [(.long ((p2.toInt64) + (d.toInt64)))])) _
  refine X0.ldc2Long hx hown (mvT hZ (hw _ (List.mem_of_getElem? (i := 1) rfl))) (g := (mkF m 33 #[.val (.long q1), .second, .val (.int p2), .val (.int p3), .val (.int p4), .val (.int d), .val (.int p2), .unset, .unset, .unset, .unset, .unset, .unset, .unset, .unset, .unset, .unset] [(.long ((p2.toInt64) + (d.toInt64)))])) rfl (hb hby at_33) _ ?_
  show Steps p.tables e below (T0.setTop (mkF m 36 #[.val (.long q1), .second, .val (.int p2), .val (.int p3), .val (.int p4), .val (.int d), .val (.int p2), .unset, .unset, .unset, .unset, .unset, .unset, .unset, .unset, .unset, .unset] [(.long (2147483647 : Int64)), (.long ((p2.toInt64) + (d.toInt64)))])) _
  refine XS.lcmp X0.here hx rfl (hb hby at_36) rfl ?_
  show Steps p.tables e below (T0.setTop (mkF m 37 #[.val (.long q1), .second, .val (.int p2), .val (.int p3), .val (.int p4), .val (.int d), .val (.int p2), .unset, .unset, .unset, .unset, .unset, .unset, .unset, .unset, .unset, .unset] [(.int (lcmpW ((p2.toInt64) + (d.toInt64)) (2147483647 : Int64)))])) _
  refine XS.ifNo X0.here hx rfl (hb hby at_37) rfl ((if0 _ _).trans (tlt hc37).2.2.2) ?_
  show Steps p.tables e below (T0.setTop (mkF m 40 #[.val (.long q1), .second, .val (.int p2), .val (.int p3), .val (.int p4), .val (.int d), .val (.int p2), .unset, .unset, .unset, .unset, .unset, .unset, .unset, .unset, .unset, .unset] [])) _
  refine X0.ldcInt hx hown (mvT hZ (hw _ (List.mem_of_getElem? (i := 0) rfl))) (g := (mkF m 40 #[.val (.long q1), .second, .val (.int p2), .val (.int p3), .val (.int p4), .val (.int d), .val (.int p2), .unset, .unset, .unset, .unset, .unset, .unset, .unset, .unset, .unset, .unset] [])) rfl (hb hby at_40) _ ?_
  show Steps p.tables e below (T0.setTop (mkF m 42 #[.val (.long q1), .second, .val (.int p2), .val (.int p3), .val (.int p4), .val (.int d), .val (.int p2), .unset, .unset, .unset, .unset, .unset, .unset, .unset, .unset, .unset, .unset] [(.int (2147483647 : Int32))])) _
  refine XS.iload X0.here hx rfl (hb hby at_42) rfl ?_
  show Steps p.tables e below (T0.setTop (mkF m 44 #[.val (.long q1), .second, .val (.int p2), .val (.int p3), .val (.int p4), .val (.int d), .val (.int p2), .unset, .unset, .unset, .unset, .unset, .unset, .unset, .unset, .unset, .unset] [(.int d), (.int (2147483647 : Int32))])) _
  refine XS.isub X0.here hx rfl (hb hby at_44) rfl ?_
  show Steps p.tables e below (T0.setTop (mkF m 45 #[.val (.long q1), .second, .val (.int p2), .val (.int p3), .val (.int p4), .val (.int d), .val (.int p2), .unset, .unset, .unset, .unset, .unset, .unset, .unset, .unset, .unset, .unset] [(.int ((2147483647 : Int32) - d))])) _
  refine XS.istore X0.here hx rfl (hb hby at_45) rfl (l' := #[.val (.long q1), .second, .val (.int p2), .val (.int p3), .val (.int p4), .val (.int d), .val (.int ((2147483647 : Int32) - d)), .unset, .unset, .unset, .unset, .unset, .unset, .unset, .unset, .unset, .unset]) rfl ?_
  show Steps p.tables e below (T0.setTop (mkF m 47 #[.val (.long q1), .second, .val (.int p2), .val (.int p3), .val (.int p4), .val (.int d), .val (.int ((2147483647 : Int32) - d)), .unset, .unset, .unset, .unset, .unset, .unset, .unset, .unset, .unset, .unset] [])) _
  refine XS.iload X0.here hx rfl (hb hby at_47) rfl ?_
  show Steps p.tables e below (T0.setTop (mkF m 49 #[.val (.long q1), .second, .val (.int p2), .val (.int p3), .val (.int p4), .val (.int d), .val (.int ((2147483647 : Int32) - d)), .unset, .unset, .unset, .unset, .unset, .unset, .unset, .unset, .unset, .unset] [(.int ((2147483647 : Int32) - d))])) _
  refine XS.iload X0.here hx rfl (hb hby at_49) rfl ?_
  show Steps p.tables e below (T0.setTop (mkF m 51 #[.val (.long q1), .second, .val (.int p2), .val (.int p3), .val (.int p4), .val (.int d), .val (.int ((2147483647 : Int32) - d)), .unset, .unset, .unset, .unset, .unset, .unset, .unset, .unset, .unset, .unset] [(.int d), (.int ((2147483647 : Int32) - d))])) _
  refine XS.iadd X0.here hx rfl (hb hby at_51) rfl ?_
  show Steps p.tables e below (T0.setTop (mkF m 52 #[.val (.long q1), .second, .val (.int p2), .val (.int p3), .val (.int p4), .val (.int d), .val (.int ((2147483647 : Int32) - d)), .unset, .unset, .unset, .unset, .unset, .unset, .unset, .unset, .unset, .unset] [(.int (((2147483647 : Int32) - d) + d))])) _
  refine XS.istore X0.here hx rfl (hb hby at_52) rfl (l' := #[.val (.long q1), .second, .val (.int p2), .val (.int p3), .val (.int p4), .val (.int d), .val (.int ((2147483647 : Int32) - d)), .val (.int (((2147483647 : Int32) - d) + d)), .unset, .unset, .unset, .unset, .unset, .unset, .unset, .unset, .unset]) rfl ?_
  exact kt
set_option maxRecDepth 65536 in
set_option maxHeartbeats 40000000 in
theorem tn0_54_130_C0 {p : Program} {l : Launch} {e : Env} {R : Room} {s : State} {m : MethodId} {args : Array Value} {below : List Frame} {meth : Method} {c : Code} {T0 : State} {locs : List Loc} {cells slots : Nat} {Z : State} {a0 : Array Value} {h0 : Heap} (q1 : Int64) (p2 : Int32) (p3 : Int32) (p4 : Int32) (d : Int32) (f : Int32)
    (X0 : Stand p l e R s m args below meth c T0 locs cells slots) (hx : p.tables.exec = Jvm.exec) (hZ : Z.Warmed39 s.vm) (hw : ∀ d ∈ tables_1, d.before a0 Z = true) (hby : c.code = code) (hml : c.maxLocals = 17) (hown : s.vm.findClass "com/example/tollwise/tollwise/DecimalsRescaledPinLaw" = some m.cls) (e0 : T0.heap = h0) (hc64 : (((p4.toUInt32 >>> ((2 : Int32) &&& 31).toUInt32).toInt32) &&& (3 : Int32)) = (0 : Int32)) :
    ∃ (T' : State), Stand p l e R s m args below meth c T' locs cells slots ∧ T'.heap = h0 ∧
      ∀ target, Steps p.tables e below (T'.setTop (mkF m 130 #[.val (.long q1), .second, .val (.int p2), .val (.int p3), .val (.int p4), .val (.int d), .val (.int f), .val (.int (f + d)), .val (.long q1), .second, .val (.int (((p4.toUInt32 >>> ((2 : Int32) &&& 31).toUInt32).toInt32) &&& (3 : Int32))), .unset, .unset, .unset, .unset, .unset, .unset] [])) target → Steps p.tables e below (T0.setTop (mkF m 54 #[.val (.long q1), .second, .val (.int p2), .val (.int p3), .val (.int p4), .val (.int d), .val (.int f), .val (.int (f + d)), .unset, .unset, .unset, .unset, .unset, .unset, .unset, .unset, .unset] [])) target := by

  refine ⟨T0, X0, e0, fun target kt => ?_⟩
  show Steps p.tables e below (T0.setTop (mkF m 54 #[.val (.long q1), .second, .val (.int p2), .val (.int p3), .val (.int p4), .val (.int d), .val (.int f), .val (.int (f + d)), .unset, .unset, .unset, .unset, .unset, .unset, .unset, .unset, .unset] [])) _
  refine XS.iload X0.here hx rfl (hb hby at_54) rfl ?_
  show Steps p.tables e below (T0.setTop (mkF m 56 #[.val (.long q1), .second, .val (.int p2), .val (.int p3), .val (.int p4), .val (.int d), .val (.int f), .val (.int (f + d)), .unset, .unset, .unset, .unset, .unset, .unset, .unset, .unset, .unset] [(.int p4)])) _
  refine XS.iconst X0.here hx rfl (hb hby at_56) ?_
  show Steps p.tables e below (T0.setTop (mkF m 57 #[.val (.long q1), .second, .val (.int p2), .val (.int p3), .val (.int p4), .val (.int d), .val (.int f), .val (.int (f + d)), .unset, .unset, .unset, .unset, .unset, .unset, .unset, .unset, .unset] [(.int (2 : Int32)), (.int p4)])) _
  refine XS.iushr X0.here hx rfl (hb hby at_57) rfl ?_
  show Steps p.tables e below (T0.setTop (mkF m 58 #[.val (.long q1), .second, .val (.int p2), .val (.int p3), .val (.int p4), .val (.int d), .val (.int f), .val (.int (f + d)), .unset, .unset, .unset, .unset, .unset, .unset, .unset, .unset, .unset] [(.int ((p4.toUInt32 >>> ((2 : Int32) &&& 31).toUInt32).toInt32))])) _
  refine XS.iconst X0.here hx rfl (hb hby at_58) ?_
  show Steps p.tables e below (T0.setTop (mkF m 59 #[.val (.long q1), .second, .val (.int p2), .val (.int p3), .val (.int p4), .val (.int d), .val (.int f), .val (.int (f + d)), .unset, .unset, .unset, .unset, .unset, .unset, .unset, .unset, .unset] [(.int (3 : Int32)), (.int ((p4.toUInt32 >>> ((2 : Int32) &&& 31).toUInt32).toInt32))])) _
  refine XS.iand X0.here hx rfl (hb hby at_59) rfl ?_
  show Steps p.tables e below (T0.setTop (mkF m 60 #[.val (.long q1), .second, .val (.int p2), .val (.int p3), .val (.int p4), .val (.int d), .val (.int f), .val (.int (f + d)), .unset, .unset, .unset, .unset, .unset, .unset, .unset, .unset, .unset] [(.int (((p4.toUInt32 >>> ((2 : Int32) &&& 31).toUInt32).toInt32) &&& (3 : Int32)))])) _
  refine XS.istore X0.here hx rfl (hb hby at_60) rfl (l' := #[.val (.long q1), .second, .val (.int p2), .val (.int p3), .val (.int p4), .val (.int d), .val (.int f), .val (.int (f + d)), .unset, .unset, .val (.int (((p4.toUInt32 >>> ((2 : Int32) &&& 31).toUInt32).toInt32) &&& (3 : Int32))), .unset, .unset, .unset, .unset, .unset, .unset]) rfl ?_
  show Steps p.tables e below (T0.setTop (mkF m 62 #[.val (.long q1), .second, .val (.int p2), .val (.int p3), .val (.int p4), .val (.int d), .val (.int f), .val (.int (f + d)), .unset, .unset, .val (.int (((p4.toUInt32 >>> ((2 : Int32) &&& 31).toUInt32).toInt32) &&& (3 : Int32))), .unset, .unset, .unset, .unset, .unset, .unset] [])) _
  refine XS.iload X0.here hx rfl (hb hby at_62) rfl ?_
  show Steps p.tables e below (T0.setTop (mkF m 64 #[.val (.long q1), .second, .val (.int p2), .val (.int p3), .val (.int p4), .val (.int d), .val (.int f), .val (.int (f + d)), .unset, .unset, .val (.int (((p4.toUInt32 >>> ((2 : Int32) &&& 31).toUInt32).toInt32) &&& (3 : Int32))), .unset, .unset, .unset, .unset, .unset, .unset] [(.int (((p4.toUInt32 >>> ((2 : Int32) &&& 31).toUInt32).toInt32) &&& (3 : Int32)))])) _
  refine XS.ifYes X0.here hx rfl (pc0 := 64) (pc' := 74) rfl (hb hby at_64) rfl ((if0 _ _).trans (teq hc64).1) (by decide) (by decide) ?_
  show Steps p.tables e below (T0.setTop (mkF m 74 #[.val (.long q1), .second, .val (.int p2), .val (.int p3), .val (.int p4), .val (.int d), .val (.int f), .val (.int (f + d)), .unset, .unset, .val (.int (((p4.toUInt32 >>> ((2 : Int32) &&& 31).toUInt32).toInt32) &&& (3 : Int32))), .unset, .unset, .unset, .unset, .unset, .unset] [])) _
  refine XS.lloadN X0.here hx rfl (hb hby at_74) rfl ?_
  show Steps p.tables e below (T0.setTop (mkF m 75 #[.val (.long q1), .second, .val (.int p2), .val (.int p3), .val (.int p4), .val (.int d), .val (.int f), .val (.int (f + d)), .unset, .unset, .val (.int (((p4.toUInt32 >>> ((2 : Int32) &&& 31).toUInt32).toInt32) &&& (3 : Int32))), .unset, .unset, .unset, .unset, .unset, .unset] [(.long q1)])) _
  refine XS.lstore X0.here hx rfl (hb hby at_75) rfl (l' := #[.val (.long q1), .second, .val (.int p2), .val (.int p3), .val (.int p4), .val (.int d), .val (.int f), .val (.int (f + d)), .val (.long q1), .second, .val (.int (((p4.toUInt32 >>> ((2 : Int32) &&& 31).toUInt32).toInt32) &&& (3 : Int32))), .unset, .unset, .unset, .unset, .unset, .unset]) rfl ?_
  show Steps p.tables e below (T0.setTop (mkF m 77 #[.val (.long q1), .second, .val (.int p2), .val (.int p3), .val (.int p4), .val (.int d), .val (.int f), .val (.int (f + d)), .val (.long q1), .second, .val (.int (((p4.toUInt32 >>> ((2 : Int32) &&& 31).toUInt32).toInt32) &&& (3 : Int32))), .unset, .unset, .unset, .unset, .unset, .unset] [])) _
  refine XS.goto X0.here hx rfl (pc0 := 77) (pc' := 130) rfl (hb hby at_77) (by decide) (by decide) ?_
  exact kt
set_option maxRecDepth 65536 in
set_option maxHeartbeats 40000000 in
theorem tn0_54_130_C1 {p : Program} {l : Launch} {e : Env} {R : Room} {s : State} {m : MethodId} {args : Array Value} {below : List Frame} {meth : Method} {c : Code} {T0 : State} {locs : List Loc} {cells slots : Nat} {Z : State} {a0 : Array Value} {h0 : Heap} (q1 : Int64) (p2 : Int32) (p3 : Int32) (p4 : Int32) (d : Int32) (f : Int32)
    (X0 : Stand p l e R s m args below meth c T0 locs cells slots) (hx : p.tables.exec = Jvm.exec) (hZ : Z.Warmed39 s.vm) (hw : ∀ d ∈ tables_1, d.before a0 Z = true) (hby : c.code = code) (hml : c.maxLocals = 17) (hown : s.vm.findClass "com/example/tollwise/tollwise/DecimalsRescaledPinLaw" = some m.cls) (e0 : T0.heap = h0) (hc64 : ¬ ((((p4.toUInt32 >>> ((2 : Int32) &&& 31).toUInt32).toInt32) &&& (3 : Int32)) = (0 : Int32))) (hc71 : (18 : Int32) < d) :
    ∃ (T' : State), Stand p l e R s m args below meth c T' locs cells slots ∧ T'.heap = h0 ∧
      ∀ target, Steps p.tables e below (T'.setTop (mkF m 130 #[.val (.long q1), .second, .val (.int p2), .val (.int p3), .val (.int p4), .val (.int d), .val (.int f), .val (.int (f + d)), .val (.long q1), .second, .val (.int (((p4.toUInt32 >>> ((2 : Int32) &&& 31).toUInt32).toInt32) &&& (3 : Int32))), .unset, .unset, .unset, .unset, .unset, .unset] [])) target → Steps p.tables e below (T0.setTop (mkF m 54 #[.val (.long q1), .second, .val (.int p2), .val (.int p3), .val (.int p4), .val (.int d), .val (.int f), .val (.int (f + d)), .unset, .unset, .unset, .unset, .unset, .unset, .unset, .unset, .unset] [])) target := by

  refine ⟨T0, X0, e0, fun target kt => ?_⟩
  show Steps p.tables e below (T0.setTop (mkF m 54 #[.val (.long q1), .second, .val (.int p2), .val (.int p3), .val (.int p4), .val (.int d), .val (.int f), .val (.int (f + d)), .unset, .unset, .unset, .unset, .unset, .unset, .unset, .unset, .unset] [])) _
  refine XS.iload X0.here hx rfl (hb hby at_54) rfl ?_
  show Steps p.tables e below (T0.setTop (mkF m 56 #[.val (.long q1), .second, .val (.int p2), .val (.int p3), .val (.int p4), .val (.int d), .val (.int f), .val (.int (f + d)), .unset, .unset, .unset, .unset, .unset, .unset, .unset, .unset, .unset] [(.int p4)])) _
  refine XS.iconst X0.here hx rfl (hb hby at_56) ?_
  show Steps p.tables e below (T0.setTop (mkF m 57 #[.val (.long q1), .second, .val (.int p2), .val (.int p3), .val (.int p4), .val (.int d), .val (.int f), .val (.int (f + d)), .unset, .unset, .unset, .unset, .unset, .unset, .unset, .unset, .unset] [(.int (2 : Int32)), (.int p4)])) _
  refine XS.iushr X0.here hx rfl (hb hby at_57) rfl ?_
  show Steps p.tables e below (T0.setTop (mkF m 58 #[.val (.long q1), .second, .val (.int p2), .val (.int p3), .val (.int p4), .val (.int d), .val (.int f), .val (.int (f + d)), .unset, .unset, .unset, .unset, .unset, .unset, .unset, .unset, .unset] [(.int ((p4.toUInt32 >>> ((2 : Int32) &&& 31).toUInt32).toInt32))])) _
  refine XS.iconst X0.here hx rfl (hb hby at_58) ?_
  show Steps p.tables e below (T0.setTop (mkF m 59 #[.val (.long q1), .second, .val (.int p2), .val (.int p3), .val (.int p4), .val (.int d), .val (.int f), .val (.int (f + d)), .unset, .unset, .unset, .unset, .unset, .unset, .unset, .unset, .unset] [(.int (3 : Int32)), (.int ((p4.toUInt32 >>> ((2 : Int32) &&& 31).toUInt32).toInt32))])) _
  refine XS.iand X0.here hx rfl (hb hby at_59) rfl ?_
  show Steps p.tables e below (T0.setTop (mkF m 60 #[.val (.long q1), .second, .val (.int p2), .val (.int p3), .val (.int p4), .val (.int d), .val (.int f), .val (.int (f + d)), .unset, .unset, .unset, .unset, .unset, .unset, .unset, .unset, .unset] [(.int (((p4.toUInt32 >>> ((2 : Int32) &&& 31).toUInt32).toInt32) &&& (3 : Int32)))])) _
  refine XS.istore X0.here hx rfl (hb hby at_60) rfl (l' := #[.val (.long q1), .second, .val (.int p2), .val (.int p3), .val (.int p4), .val (.int d), .val (.int f), .val (.int (f + d)), .unset, .unset, .val (.int (((p4.toUInt32 >>> ((2 : Int32) &&& 31).toUInt32).toInt32) &&& (3 : Int32))), .unset, .unset, .unset, .unset, .unset, .unset]) rfl ?_
  show Steps p.tables e below (T0.setTop (mkF m 62 #[.val (.long q1), .second, .val (.int p2), .val (.int p3), .val (.int p4), .val (.int d), .val (.int f), .val (.int (f + d)), .unset, .unset, .val (.int (((p4.toUInt32 >>> ((2 : Int32) &&& 31).toUInt32).toInt32) &&& (3 : Int32))), .unset, .unset, .unset, .unset, .unset, .unset] [])) _
  refine XS.iload X0.here hx rfl (hb hby at_62) rfl ?_
  show Steps p.tables e below (T0.setTop (mkF m 64 #[.val (.long q1), .second, .val (.int p2), .val (.int p3), .val (.int p4), .val (.int d), .val (.int f), .val (.int (f + d)), .unset, .unset, .val (.int (((p4.toUInt32 >>> ((2 : Int32) &&& 31).toUInt32).toInt32) &&& (3 : Int32))), .unset, .unset, .unset, .unset, .unset, .unset] [(.int (((p4.toUInt32 >>> ((2 : Int32) &&& 31).toUInt32).toInt32) &&& (3 : Int32)))])) _
  refine XS.ifNo X0.here hx rfl (hb hby at_64) rfl ((if0 _ _).trans (feq hc64).1) ?_
  show Steps p.tables e below (T0.setTop (mkF m 67 #[.val (.long q1), .second, .val (.int p2), .val (.int p3), .val (.int p4), .val (.int d), .val (.int f), .val (.int (f + d)), .unset, .unset, .val (.int (((p4.toUInt32 >>> ((2 : Int32) &&& 31).toUInt32).toInt32) &&& (3 : Int32))), .unset, .unset, .unset, .unset, .unset, .unset] [])) _
  refine XS.iload X0.here hx rfl (hb hby at_67) rfl ?_
  show Steps p.tables e below (T0.setTop (mkF m 69 #[.val (.long q1), .second, .val (.int p2), .val (.int p3), .val (.int p4), .val (.int d), .val (.int f), .val (.int (f + d)), .unset, .unset, .val (.int (((p4.toUInt32 >>> ((2 : Int32) &&& 31).toUInt32).toInt32) &&& (3 : Int32))), .unset, .unset, .unset, .unset, .unset, .unset] [(.int d)])) _
  refine XS.bipush X0.here hx rfl (hb hby at_69) ?_
  show Steps p.tables e below (T0.setTop (mkF m 71 #[.val (.long q1), .second, .val (.int p2), .val (.int p3), .val (.int p4), .val (.int d), .val (.int f), .val (.int (f + d)), .unset, .unset, .val (.int (((p4.toUInt32 >>> ((2 : Int32) &&& 31).toUInt32).toInt32) &&& (3 : Int32))), .unset, .unset, .unset, .unset, .unset, .unset] [(.int (18 : Int32)), (.int d)])) _
  refine XS.icmpNo X0.here hx rfl (hb hby at_71) rfl (tlt hc71).2.2.2 ?_
  show Steps p.tables e below (T0.setTop (mkF m 74 #[.val (.long q1), .second, .val (.int p2), .val (.int p3), .val (.int p4), .val (.int d), .val (.int f), .val (.int (f + d)), .unset, .unset, .val (.int (((p4.toUInt32 >>> ((2 : Int32) &&& 31).toUInt32).toInt32) &&& (3 : Int32))), .unset, .unset, .unset, .unset, .unset, .unset] [])) _
  refine XS.lloadN X0.here hx rfl (hb hby at_74) rfl ?_
  show Steps p.tables e below (T0.setTop (mkF m 75 #[.val (.long q1), .second, .val (.int p2), .val (.int p3), .val (.int p4), .val (.int d), .val (.int f), .val (.int (f + d)), .unset, .unset, .val (.int (((p4.toUInt32 >>> ((2 : Int32) &&& 31).toUInt32).toInt32) &&& (3 : Int32))), .unset, .unset, .unset, .unset, .unset, .unset] [(.long q1)])) _
  refine XS.lstore X0.here hx rfl (hb hby at_75) rfl (l' := #[.val (.long q1), .second, .val (.int p2), .val (.int p3), .val (.int p4), .val (.int d), .val (.int f), .val (.int (f + d)), .val (.long q1), .second, .val (.int (((p4.toUInt32 >>> ((2 : Int32) &&& 31).toUInt32).toInt32) &&& (3 : Int32))), .unset, .unset, .unset, .unset, .unset, .unset]) rfl ?_
  show Steps p.tables e below (T0.setTop (mkF m 77 #[.val (.long q1), .second, .val (.int p2), .val (.int p3), .val (.int p4), .val (.int d), .val (.int f), .val (.int (f + d)), .val (.long q1), .second, .val (.int (((p4.toUInt32 >>> ((2 : Int32) &&& 31).toUInt32).toInt32) &&& (3 : Int32))), .unset, .unset, .unset, .unset, .unset, .unset] [])) _
  refine XS.goto X0.here hx rfl (pc0 := 77) (pc' := 130) rfl (hb hby at_77) (by decide) (by decide) ?_
  exact kt
set_option maxRecDepth 65536 in
set_option maxHeartbeats 40000000 in
theorem tn0_54_130_C2 {p : Program} {l : Launch} {e : Env} {R : Room} {s : State} {m : MethodId} {args : Array Value} {below : List Frame} {meth : Method} {c : Code} {T0 : State} {locs : List Loc} {cells slots : Nat} {Z : State} {a0 : Array Value} {h0 : Heap} (q1 : Int64) (p2 : Int32) (p3 : Int32) (p4 : Int32) (d : Int32) (f : Int32)
    (X0 : Stand p l e R s m args below meth c T0 locs cells slots) (hx : p.tables.exec = Jvm.exec) (hZ : Z.Warmed39 s.vm) (hw : ∀ d ∈ tables_1, d.before a0 Z = true) (hby : c.code = code) (hml : c.maxLocals = 17) (hown : s.vm.findClass "com/example/tollwise/tollwise/DecimalsRescaledPinLaw" = some m.cls) (e0 : T0.heap = h0) (hc64 : ¬ ((((p4.toUInt32 >>> ((2 : Int32) &&& 31).toUInt32).toInt32) &&& (3 : Int32)) = (0 : Int32))) (hc71 : ¬ ((18 : Int32) < d)) (hc83 : (((p4.toUInt32 >>> ((2 : Int32) &&& 31).toUInt32).toInt32) &&& (3 : Int32)) = (1 : Int32)) :
    ∃ (T' : State), Stand p l e R s m args below meth c T' locs cells slots ∧ T'.heap = h0 ∧
      ∀ target, Steps p.tables e below (T'.setTop (mkF m 130 #[.val (.long q1), .second, .val (.int p2), .val (.int p3), .val (.int p4), .val (.int d), .val (.int f), .val (.int (f + d)), .val (.long (q1 - (q1 / (1000000 : Int64)) * (1000000 : Int64))), .second, .val (.int (((p4.toUInt32 >>> ((2 : Int32) &&& 31).toUInt32).toInt32) &&& (3 : Int32))), .unset, .unset, .unset, .unset, .unset, .unset] [])) target → Steps p.tables e below (T0.setTop (mkF m 54 #[.val (.long q1), .second, .val (.int p2), .val (.int p3), .val (.int p4), .val (.int d), .val (.int f), .val (.int (f + d)), .unset, .unset, .unset, .unset, .unset, .unset, .unset, .unset, .unset] [])) target := by

  refine ⟨T0, X0, e0, fun target kt => ?_⟩
  show Steps p.tables e below (T0.setTop (mkF m 54 #[.val (.long q1), .second, .val (.int p2), .val (.int p3), .val (.int p4), .val (.int d), .val (.int f), .val (.int (f + d)), .unset, .unset, .unset, .unset, .unset, .unset, .unset, .unset, .unset] [])) _
  refine XS.iload X0.here hx rfl (hb hby at_54) rfl ?_
  show Steps p.tables e below (T0.setTop (mkF m 56 #[.val (.long q1), .second, .val (.int p2), .val (.int p3), .val (.int p4), .val (.int d), .val (.int f), .val (.int (f + d)), .unset, .unset, .unset, .unset, .unset, .unset, .unset, .unset, .unset] [(.int p4)])) _
  refine XS.iconst X0.here hx rfl (hb hby at_56) ?_
  show Steps p.tables e below (T0.setTop (mkF m 57 #[.val (.long q1), .second, .val (.int p2), .val (.int p3), .val (.int p4), .val (.int d), .val (.int f), .val (.int (f + d)), .unset, .unset, .unset, .unset, .unset, .unset, .unset, .unset, .unset] [(.int (2 : Int32)), (.int p4)])) _
  refine XS.iushr X0.here hx rfl (hb hby at_57) rfl ?_
  show Steps p.tables e below (T0.setTop (mkF m 58 #[.val (.long q1), .second, .val (.int p2), .val (.int p3), .val (.int p4), .val (.int d), .val (.int f), .val (.int (f + d)), .unset, .unset, .unset, .unset, .unset, .unset, .unset, .unset, .unset] [(.int ((p4.toUInt32 >>> ((2 : Int32) &&& 31).toUInt32).toInt32))])) _
  refine XS.iconst X0.here hx rfl (hb hby at_58) ?_
  show Steps p.tables e below (T0.setTop (mkF m 59 #[.val (.long q1), .second, .val (.int p2), .val (.int p3), .val (.int p4), .val (.int d), .val (.int f), .val (.int (f + d)), .unset, .unset, .unset, .unset, .unset, .unset, .unset, .unset, .unset] [(.int (3 : Int32)), (.int ((p4.toUInt32 >>> ((2 : Int32) &&& 31).toUInt32).toInt32))])) _
  refine XS.iand X0.here hx rfl (hb hby at_59) rfl ?_
  show Steps p.tables e below (T0.setTop (mkF m 60 #[.val (.long q1), .second, .val (.int p2), .val (.int p3), .val (.int p4), .val (.int d), .val (.int f), .val (.int (f + d)), .unset, .unset, .unset, .unset, .unset, .unset, .unset, .unset, .unset] [(.int (((p4.toUInt32 >>> ((2 : Int32) &&& 31).toUInt32).toInt32) &&& (3 : Int32)))])) _
  refine XS.istore X0.here hx rfl (hb hby at_60) rfl (l' := #[.val (.long q1), .second, .val (.int p2), .val (.int p3), .val (.int p4), .val (.int d), .val (.int f), .val (.int (f + d)), .unset, .unset, .val (.int (((p4.toUInt32 >>> ((2 : Int32) &&& 31).toUInt32).toInt32) &&& (3 : Int32))), .unset, .unset, .unset, .unset, .unset, .unset]) rfl ?_
  show Steps p.tables e below (T0.setTop (mkF m 62 #[.val (.long q1), .second, .val (.int p2), .val (.int p3), .val (.int p4), .val (.int d), .val (.int f), .val (.int (f + d)), .unset, .unset, .val (.int (((p4.toUInt32 >>> ((2 : Int32) &&& 31).toUInt32).toInt32) &&& (3 : Int32))), .unset, .unset, .unset, .unset, .unset, .unset] [])) _
  refine XS.iload X0.here hx rfl (hb hby at_62) rfl ?_
  show Steps p.tables e below (T0.setTop (mkF m 64 #[.val (.long q1), .second, .val (.int p2), .val (.int p3), .val (.int p4), .val (.int d), .val (.int f), .val (.int (f + d)), .unset, .unset, .val (.int (((p4.toUInt32 >>> ((2 : Int32) &&& 31).toUInt32).toInt32) &&& (3 : Int32))), .unset, .unset, .unset, .unset, .unset, .unset] [(.int (((p4.toUInt32 >>> ((2 : Int32) &&& 31).toUInt32).toInt32) &&& (3 : Int32)))])) _
  refine XS.ifNo X0.here hx rfl (hb hby at_64) rfl ((if0 _ _).trans (feq hc64).1) ?_
  show Steps p.tables e below (T0.setTop (mkF m 67 #[.val (.long q1), .second, .val (.int p2), .val (.int p3), .val (.int p4), .val (.int d), .val (.int f), .val (.int (f + d)), .unset, .unset, .val (.int (((p4.toUInt32 >>> ((2 : Int32) &&& 31).toUInt32).toInt32) &&& (3 : Int32))), .unset, .unset, .unset, .unset, .unset, .unset] [])) _
  refine XS.iload X0.here hx rfl (hb hby at_67) rfl ?_
  show Steps p.tables e below (T0.setTop (mkF m 69 #[.val (.long q1), .second, .val (.int p2), .val (.int p3), .val (.int p4), .val (.int d), .val (.int f), .val (.int (f + d)), .unset, .unset, .val (.int (((p4.toUInt32 >>> ((2 : Int32) &&& 31).toUInt32).toInt32) &&& (3 : Int32))), .unset, .unset, .unset, .unset, .unset, .unset] [(.int d)])) _
  refine XS.bipush X0.here hx rfl (hb hby at_69) ?_
  show Steps p.tables e below (T0.setTop (mkF m 71 #[.val (.long q1), .second, .val (.int p2), .val (.int p3), .val (.int p4), .val (.int d), .val (.int f), .val (.int (f + d)), .unset, .unset, .val (.int (((p4.toUInt32 >>> ((2 : Int32) &&& 31).toUInt32).toInt32) &&& (3 : Int32))), .unset, .unset, .unset, .unset, .unset, .unset] [(.int (18 : Int32)), (.int d)])) _
  refine XS.icmpYes X0.here hx rfl (pc0 := 71) (pc' := 80) rfl (hb hby at_71) rfl (flt hc71).2.2.2 (by decide) (by decide) ?_
  show Steps p.tables e below (T0.setTop (mkF m 80 #[.val (.long q1), .second, .val (.int p2), .val (.int p3), .val (.int p4), .val (.int d), .val (.int f), .val (.int (f + d)), .unset, .unset, .val (.int (((p4.toUInt32 >>> ((2 : Int32) &&& 31).toUInt32).toInt32) &&& (3 : Int32))), .unset, .unset, .unset, .unset, .unset, .unset] [])) _
  refine XS.iload X0.here hx rfl (hb hby at_80) rfl ?_
  show Steps p.tables e below (T0.setTop (mkF m 82 #[.val (.long q1), .second, .val (.int p2), .val (.int p3), .val (.int p4), .val (.int d), .val (.int f), .val (.int (f + d)), .unset, .unset, .val (.int (((p4.toUInt32 >>> ((2 : Int32) &&& 31).toUInt32).toInt32) &&& (3 : Int32))), .unset, .unset, .unset, .unset, .unset, .unset] [(.int (((p4.toUInt32 >>> ((2 : Int32) &&& 31).toUInt32).toInt32) &&& (3 : Int32)))])) _
  refine XS.iconst X0.here hx rfl (hb hby at_82) ?_
  show Steps p.tables e below (T0.setTop (mkF m 83 #[.val (.long q1), .second, .val (.int p2), .val (.int p3), .val (.int p4), .val (.int d), .val (.int f), .val (.int (f + d)), .unset, .unset, .val (.int (((p4.toUInt32 >>> ((2 : Int32) &&& 31).toUInt32).toInt32) &&& (3 : Int32))), .unset, .unset, .unset, .unset, .unset, .unset] [(.int (1 : Int32)), (.int (((p4.toUInt32 >>> ((2 : Int32) &&& 31).toUInt32).toInt32) &&& (3 : Int32)))])) _
  refine XS.icmpNo X0.here hx rfl (hb hby at_83) rfl (teq hc83).2 ?_
  show Steps p.tables e below (T0.setTop (mkF m 86 #[.val (.long q1), .second, .val (.int p2), .val (.int p3), .val (.int p4), .val (.int d), .val (.int f), .val (.int (f + d)), .unset, .unset, .val (.int (((p4.toUInt32 >>> ((2 : Int32) &&& 31).toUInt32).toInt32) &&& (3 : Int32))), .unset, .unset, .unset, .unset, .unset, .unset] [])) _
  refine XS.lloadN X0.here hx rfl (hb hby at_86) rfl ?_
  show Steps p.tables e below (T0.setTop (mkF m 87 #[.val (.long q1), .second, .val (.int p2), .val (.int p3), .val (.int p4), .val (.int d), .val (.int f), .val (.int (f + d)), .unset, .unset, .val (.int (((p4.toUInt32 >>> ((2 : Int32) &&& 31).toUInt32).toInt32) &&& (3 : Int32))), .unset, .unset, .unset, .unset, .unset, .unset] [(.long q1)])) _
  refine X0.ldc2Long hx hown (mvT hZ (hw _ (List.mem_of_getElem? (i := 12) rfl))) (g := (mkF m 87 #[.val (.long q1), .second, .val (.int p2), .val (.int p3), .val (.int p4), .val (.int d), .val (.int f), .val (.int (f + d)), .unset, .unset, .val (.int (((p4.toUInt32 >>> ((2 : Int32) &&& 31).toUInt32).toInt32) &&& (3 : Int32))), .unset, .unset, .unset, .unset, .unset, .unset] [(.long q1)])) rfl (hb hby at_87) _ ?_
  show Steps p.tables e below (T0.setTop (mkF m 90 #[.val (.long q1), .second, .val (.int p2), .val (.int p3), .val (.int p4), .val (.int d), .val (.int f), .val (.int (f + d)), .unset, .unset, .val (.int (((p4.toUInt32 >>> ((2 : Int32) &&& 31).toUInt32).toInt32) &&& (3 : Int32))), .unset, .unset, .unset, .unset, .unset, .unset] [(.long (1000000 : Int64)), (.long q1)])) _
  refine XS.lrem X0.here hx rfl (hb hby at_90) rfl (by decide) ?_
  show Steps p.tables e below (T0.setTop (mkF m 91 #[.val (.long q1), .second, .val (.int p2), .val (.int p3), .val (.int p4), .val (.int d), .val (.int f), .val (.int (f + d)), .unset, .unset, .val (.int (((p4.toUInt32 >>> ((2 : Int32) &&& 31).toUInt32).toInt32) &&& (3 : Int32))), .unset, .unset, .unset, .unset, .unset, .unset] [(.long (q1 - (q1 / (1000000 : Int64)) * (1000000 : Int64)))])) _
  refine XS.lstore X0.here hx rfl (hb hby at_91) rfl (l' := #[.val (.long q1), .second, .val (.int p2), .val (.int p3), .val (.int p4), .val (.int d), .val (.int f), .val (.int (f + d)), .val (.long (q1 - (q1 / (1000000 : Int64)) * (1000000 : Int64))), .second, .val (.int (((p4.toUInt32 >>> ((2 : Int32) &&& 31).toUInt32).toInt32) &&& (3 : Int32))), .unset, .unset, .unset, .unset, .unset, .unset]) rfl ?_
  show Steps p.tables e below (T0.setTop (mkF m 93 #[.val (.long q1), .second, .val (.int p2), .val (.int p3), .val (.int p4), .val (.int d), .val (.int f), .val (.int (f + d)), .val (.long (q1 - (q1 / (1000000 : Int64)) * (1000000 : Int64))), .second, .val (.int (((p4.toUInt32 >>> ((2 : Int32) &&& 31).toUInt32).toInt32) &&& (3 : Int32))), .unset, .unset, .unset, .unset, .unset, .unset] [])) _
  refine XS.goto X0.here hx rfl (pc0 := 93) (pc' := 130) rfl (hb hby at_93) (by decide) (by decide) ?_
  exact kt
theorem pd_0_0 : parseMethodDescriptor "(I)J" = some ⟨[.int], some .long⟩ := by decide +kernel
set_option maxRecDepth 65536 in
set_option maxHeartbeats 40000000 in
theorem tn0_54_130_C3 {p : Program} {l : Launch} {e : Env} {s : State} {m : MethodId} {args : Array Value} {below : List Frame} {meth : Method} {c : Code} {T0 : State} {locs : List Loc} {n0 : Nat} {Z : State} {a0 : Array Value} {h0 : Heap} (q1 : Int64) (p2 : Int32) (p3 : Int32) (p4 : Int32) (d : Int32) (f : Int32) (v0 : Int64)
    (X0 : Stand p l e room_1 s m args below meth c T0 locs 0 0) (hx : p.tables.exec = Jvm.exec) (hZ : Z.Warmed39 s.vm) (hw : ∀ d ∈ tables_1, d.before a0 Z = true) (hby : c.code = code) (hml : c.maxLocals = 17) (hown : s.vm.findClass "com/example/tollwise/tollwise/DecimalsRescaledPinLaw" = some m.cls) (e0 : T0.heap = h0) (N0 : Fr n0 locs) (Z0 : n0 ≤ h0.size) (hp0 : ¬ ((18 : Int32) - d) < 0 ∧ ((18 : Int32) - d) < (19 : Int32)) (hv0 : own_pows.getD (((18 : Int32) - d)).toNatClampNeg (.long (0 : Int64)) = .long v0) (hc64 : ¬ ((((p4.toUInt32 >>> ((2 : Int32) &&& 31).toUInt32).toInt32) &&& (3 : Int32)) = (0 : Int32))) (hc71 : ¬ ((18 : Int32) < d)) (hc83 : ¬ ((((p4.toUInt32 >>> ((2 : Int32) &&& 31).toUInt32).toInt32) &&& (3 : Int32)) = (1 : Int32))) (hc117 : ¬ ((p4 &&& (16 : Int32)) = (0 : Int32))) :
    ∃ (T' : State) (L' : List Loc), Stand p l e room_1 s m args below meth c T' L' 1 19 ∧ Fr n0 L' ∧ Keep h0 T'.heap [] ∧
      ∀ target, Steps p.tables e below (T'.setTop (mkF m 130 #[.val (.long q1), .second, .val (.int p2), .val (.int p3), .val (.int p4), .val (.int d), .val (.int f), .val (.int (f + d)), .val (.long (-(v0 + (q1 - (q1 / (3 : Int64)) * (3 : Int64))))), .second, .val (.int (((p4.toUInt32 >>> ((2 : Int32) &&& 31).toUInt32).toInt32) &&& (3 : Int32))), .val (.long (v0 + (q1 - (q1 / (3 : Int64)) * (3 : Int64)))), .second, .unset, .unset, .unset, .unset] [])) target → Steps p.tables e below (T0.setTop (mkF m 54 #[.val (.long q1), .second, .val (.int p2), .val (.int p3), .val (.int p4), .val (.int d), .val (.int f), .val (.int (f + d)), .unset, .unset, .unset, .unset, .unset, .unset, .unset, .unset, .unset] [])) target := by
  obtain ⟨_, _, ⟨T5, L5, k5, n5⟩, -, X5, ⟨Lc5, hQ5, l5, y5, z5⟩, st5⟩ := Jvm.LawKit.callS X0 hx (y := (⟨"com/example/tollwise/tollwise/DecimalsRescaledPinLaw", "pow10", "(I)J"⟩ : MethodName)) hown (mvT hZ (hw _ (List.mem_of_getElem? (i := 2) rfl))) (mvT hZ (hw _ (List.mem_of_getElem? (i := 3) rfl))) (mvT hZ (hw _ (List.mem_of_getElem? (i := 4) rfl))) (mvT hZ (hw _ (List.mem_of_getElem? (i := 5) rfl))) (by decide) (backOf (W := 0) (rm1 l Z a0 hw [] ((18 : Int32) - d) v0 h0 n0 Z0 hp0 hv0) hZ (hw _ (List.mem_of_getElem? (i := 5) rfl)) (hw _ (List.mem_of_getElem? (i := 4) rfl)) (by decide) (by decide)) (g := (mkF m 101 #[.val (.long q1), .second, .val (.int p2), .val (.int p3), .val (.int p4), .val (.int d), .val (.int f), .val (.int (f + d)), .unset, .unset, .val (.int (((p4.toUInt32 >>> ((2 : Int32) &&& 31).toUInt32).toInt32) &&& (3 : Int32))), .unset, .unset, .unset, .unset, .unset, .unset] [(.int ((18 : Int32) - d))])) rfl (by rw [hml]; rfl) (argsL := [(.int ((18 : Int32) - d))]) (rest := []) (lenOf pd_0_0 rfl) rfl (by show 2 * 0 + _ ≤ _; exact Nat.le_of_eq rfl) (hb hby at_101) (fun _ _ => ⟨rfl, e0, (by decide : 0 + 0 + 1 ≤ _), (by decide : 0 + 0 + 19 ≤ _)⟩)
  dsimp only [Pt.U, Pt.locs, Pt.cells, Pt.slots] at X5 l5 y5 z5 st5 hQ5
  subst l5 y5 z5
  obtain ⟨rfl, N5q, K5⟩ := hQ5
  have N5 := Fr.app N0 N5q
  have KC5 : Keep h0 T5.heap [] := (Keep.refl h0 []).trans K5 (fun _ q => nomatch q)
  refine ⟨T5, _, X5, N5, KC5, fun target kt => ?_⟩
  show Steps p.tables e below (T0.setTop (mkF m 54 #[.val (.long q1), .second, .val (.int p2), .val (.int p3), .val (.int p4), .val (.int d), .val (.int f), .val (.int (f + d)), .unset, .unset, .unset, .unset, .unset, .unset, .unset, .unset, .unset] [])) _
  refine XS.iload X0.here hx rfl (hb hby at_54) rfl ?_
  show Steps p.tables e below (T0.setTop (mkF m 56 #[.val (.long q1), .second, .val (.int p2), .val (.int p3), .val (.int p4), .val (.int d), .val (.int f), .val (.int (f + d)), .unset, .unset, .unset, .unset, .unset, .unset, .unset, .unset, .unset] [(.int p4)])) _
  refine XS.iconst X0.here hx rfl (hb hby at_56) ?_
  show Steps p.tables e below (T0.setTop (mkF m 57 #[.val (.long q1), .second, .val (.int p2), .val (.int p3), .val (.int p4), .val (.int d), .val (.int f), .val (.int (f + d)), .unset, .unset, .unset, .unset, .unset, .unset, .unset, .unset, .unset] [(.int (2 : Int32)), (.int p4)])) _
  refine XS.iushr X0.here hx rfl (hb hby at_57) rfl ?_
  show Steps p.tables e below (T0.setTop (mkF m 58 #[.val (.long q1), .second, .val (.int p2), .val (.int p3), .val (.int p4), .val (.int d), .val (.int f), .val (.int (f + d)), .unset, .unset, .unset, .unset, .unset, .unset, .unset, .unset, .unset] [(.int ((p4.toUInt32 >>> ((2 : Int32) &&& 31).toUInt32).toInt32))])) _
  refine XS.iconst X0.here hx rfl (hb hby at_58) ?_
  show Steps p.tables e below (T0.setTop (mkF m 59 #[.val (.long q1), .second, .val (.int p2), .val (.int p3), .val (.int p4), .val (.int d), .val (.int f), .val (.int (f + d)), .unset, .unset, .unset, .unset, .unset, .unset, .unset, .unset, .unset] [(.int (3 : Int32)), (.int ((p4.toUInt32 >>> ((2 : Int32) &&& 31).toUInt32).toInt32))])) _
  refine XS.iand X0.here hx rfl (hb hby at_59) rfl ?_
  show Steps p.tables e below (T0.setTop (mkF m 60 #[.val (.long q1), .second, .val (.int p2), .val (.int p3), .val (.int p4), .val (.int d), .val (.int f), .val (.int (f + d)), .unset, .unset, .unset, .unset, .unset, .unset, .unset, .unset, .unset] [(.int (((p4.toUInt32 >>> ((2 : Int32) &&& 31).toUInt32).toInt32) &&& (3 : Int32)))])) _
  refine XS.istore X0.here hx rfl (hb hby at_60) rfl (l' := #[.val (.long q1), .second, .val (.int p2), .val (.int p3), .val (.int p4), .val (.int d), .val (.int f), .val (.int (f + d)), .unset, .unset, .val (.int (((p4.toUInt32 >>> ((2 : Int32) &&& 31).toUInt32).toInt32) &&& (3 : Int32))), .unset, .unset, .unset, .unset, .unset, .unset]) rfl ?_
  show Steps p.tables e below (T0.setTop (mkF m 62 #[.val (.long q1), .second, .val (.int p2), .val (.int p3), .val (.int p4), .val (.int d), .val (.int f), .val (.int (f + d)), .unset, .unset, .val (.int (((p4.toUInt32 >>> ((2 : Int32) &&& 31).toUInt32).toInt32) &&& (3 : Int32))), .unset, .unset, .unset, .unset, .unset, .unset] [])) _
  refine XS.iload X0.here hx rfl (hb hby at_62) rfl ?_
  show Steps p.tables e below (T0.setTop (mkF m 64 #[.val (.long q1), .second, .val (.int p2), .val (.int p3), .val (.int p4), .val (.int d), .val (.int f), .val (.int (f + d)), .unset, .unset, .val (.int (((p4.toUInt32 >>> ((2 : Int32) &&& 31).toUInt32).toInt32) &&& (3 : Int32))), .unset, .unset, .unset, .unset, .unset, .unset] [(.int (((p4.toUInt32 >>> ((2 : Int32) &&& 31).toUInt32).toInt32) &&& (3 : Int32)))])) _
  refine XS.ifNo X0.here hx rfl (hb hby at_64) rfl ((if0 _ _).trans (feq hc64).1) ?_
  show Steps p.tables e below (T0.setTop (mkF m 67 #[.val (.long q1), .second, .val (.int p2), .val (.int p3), .val (.int p4), .val (.int d), .val (.int f), .val (.int (f + d)), .unset, .unset, .val (.int (((p4.toUInt32 >>> ((2 : Int32) &&& 31).toUInt32).toInt32) &&& (3 : Int32))), .unset, .unset, .unset, .unset, .unset, .unset] [])) _
  refine XS.iload X0.here hx rfl (hb hby at_67) rfl ?_
  show Steps p.tables e below (T0.setTop (mkF m 69 #[.val (.long q1), .second, .val (.int p2), .val (.int p3), .val (.int p4), .val (.int d), .val (.int f), .val (.int (f + d)), .unset, .unset, .val (.int (((p4.toUInt32 >>> ((2 : Int32) &&& 31).toUInt32).toInt32) &&& (3 : Int32))), .unset, .unset, .unset, .unset, .unset, .unset] [(.int d)])) _
  refine XS.bipush X0.here hx rfl (hb hby at_69) ?_
  show Steps p.tables e below (T0.setTop (mkF m 71 #[.val (.long q1), .second, .val (.int p2), .val (.int p3), .val (.int p4), .val (.int d), .val (.int f), .val (.int (f + d)), .unset, .unset, .val (.int (((p4.toUInt32 >>> ((2 : Int32) &&& 31).toUInt32).toInt32) &&& (3 : Int32))), .unset, .unset, .unset, .unset, .unset, .unset] [(.int (18 : Int32)), (.int d)])) _
  refine XS.icmpYes X0.here hx rfl (pc0 := 71) (pc' := 80) rfl (hb hby at_71) rfl (flt hc71).2.2.2 (by decide) (by decide) ?_
  show Steps p.tables e below (T0.setTop (mkF m 80 #[.val (.long q1), .second, .val (.int p2), .val (.int p3), .val (.int p4), .val (.int d), .val (.int f), .val (.int (f + d)), .unset, .unset, .val (.int (((p4.toUInt32 >>> ((2 : Int32) &&& 31).toUInt32).toInt32) &&& (3 : Int32))), .unset, .unset, .unset, .unset, .unset, .unset] [])) _
  refine XS.iload X0.here hx rfl (hb hby at_80) rfl ?_
  show Steps p.tables e below (T0.setTop (mkF m 82 #[.val (.long q1), .second, .val (.int p2), .val (.int p3), .val (.int p4), .val (.int d), .val (.int f), .val (.int (f + d)), .unset, .unset, .val (.int (((p4.toUInt32 >>> ((2 : Int32) &&& 31).toUInt32).toInt32) &&& (3 : Int32))), .unset, .unset, .unset, .unset, .unset, .unset] [(.int (((p4.toUInt32 >>> ((2 : Int32) &&& 31).toUInt32).toInt32) &&& (3 : Int32)))])) _
  refine XS.iconst X0.here hx rfl (hb hby at_82) ?_
  show Steps p.tables e below (T0.setTop (mkF m 83 #[.val (.long q1), .second, .val (.int p2), .val (.int p3), .val (.int p4), .val (.int d), .val (.int f), .val (.int (f + d)), .unset, .unset, .val (.int (((p4.toUInt32 >>> ((2 : Int32) &&& 31).toUInt32).toInt32) &&& (3 : Int32))), .unset, .unset, .unset, .unset, .unset, .unset] [(.int (1 : Int32)), (.int (((p4.toUInt32 >>> ((2 : Int32) &&& 31).toUInt32).toInt32) &&& (3 : Int32)))])) _
  refine XS.icmpYes X0.here hx rfl (pc0 := 83) (pc' := 96) rfl (hb hby at_83) rfl (feq hc83).2 (by decide) (by decide) ?_
  show Steps p.tables e below (T0.setTop (mkF m 96 #[.val (.long q1), .second, .val (.int p2), .val (.int p3), .val (.int p4), .val (.int d), .val (.int f), .val (.int (f + d)), .unset, .unset, .val (.int (((p4.toUInt32 >>> ((2 : Int32) &&& 31).toUInt32).toInt32) &&& (3 : Int32))), .unset, .unset, .unset, .unset, .unset, .unset] [])) _
  refine XS.bipush X0.here hx rfl (hb hby at_96) ?_
  show Steps p.tables e below (T0.setTop (mkF m 98 #[.val (.long q1), .second, .val (.int p2), .val (.int p3), .val (.int p4), .val (.int d), .val (.int f), .val (.int (f + d)), .unset, .unset, .val (.int (((p4.toUInt32 >>> ((2 : Int32) &&& 31).toUInt32).toInt32) &&& (3 : Int32))), .unset, .unset, .unset, .unset, .unset, .unset] [(.int (18 : Int32))])) _
  refine XS.iload X0.here hx rfl (hb hby at_98) rfl ?_
  show Steps p.tables e below (T0.setTop (mkF m 100 #[.val (.long q1), .second, .val (.int p2), .val (.int p3), .val (.int p4), .val (.int d), .val (.int f), .val (.int (f + d)), .unset, .unset, .val (.int (((p4.toUInt32 >>> ((2 : Int32) &&& 31).toUInt32).toInt32) &&& (3 : Int32))), .unset, .unset, .unset, .unset, .unset, .unset] [(.int d), (.int (18 : Int32))])) _
  refine XS.isub X0.here hx rfl (hb hby at_100) rfl ?_
  show Steps p.tables e below (T0.setTop (mkF m 101 #[.val (.long q1), .second, .val (.int p2), .val (.int p3), .val (.int p4), .val (.int d), .val (.int f), .val (.int (f + d)), .unset, .unset, .val (.int (((p4.toUInt32 >>> ((2 : Int32) &&& 31).toUInt32).toInt32) &&& (3 : Int32))), .unset, .unset, .unset, .unset, .unset, .unset] [(.int ((18 : Int32) - d))])) _
  refine st5 _ ?_
  show Steps p.tables e below (T5.setTop (mkF m 104 #[.val (.long q1), .second, .val (.int p2), .val (.int p3), .val (.int p4), .val (.int d), .val (.int f), .val (.int (f + d)), .unset, .unset, .val (.int (((p4.toUInt32 >>> ((2 : Int32) &&& 31).toUInt32).toInt32) &&& (3 : Int32))), .unset, .unset, .unset, .unset, .unset, .unset] [(.long v0)])) _
  refine XS.lloadN X5.here hx rfl (hb hby at_104) rfl ?_
  show Steps p.tables e below (T5.setTop (mkF m 105 #[.val (.long q1), .second, .val (.int p2), .val (.int p3), .val (.int p4), .val (.int d), .val (.int f), .val (.int (f + d)), .unset, .unset, .val (.int (((p4.toUInt32 >>> ((2 : Int32) &&& 31).toUInt32).toInt32) &&& (3 : Int32))), .unset, .unset, .unset, .unset, .unset, .unset] [(.long q1), (.long v0)])) _
  refine X5.ldc2Long hx hown (mvT hZ (hw _ (List.mem_of_getElem? (i := 33) rfl))) (g := (mkF m 105 #[.val (.long q1), .second, .val (.int p2), .val (.int p3), .val (.int p4), .val (.int d), .val (.int f), .val (.int (f + d)), .unset, .unset, .val (.int (((p4.toUInt32 >>> ((2 : Int32) &&& 31).toUInt32).toInt32) &&& (3 : Int32))), .unset, .unset, .unset, .unset, .unset, .unset] [(.long q1), (.long v0)])) rfl (hb hby at_105) _ ?_
  show Steps p.tables e below (T5.setTop (mkF m 108 #[.val (.long q1), .second, .val (.int p2), .val (.int p3), .val (.int p4), .val (.int d), .val (.int f), .val (.int (f + d)), .unset, .unset, .val (.int (((p4.toUInt32 >>> ((2 : Int32) &&& 31).toUInt32).toInt32) &&& (3 : Int32))), .unset, .unset, .unset, .unset, .unset, .unset] [(.long (3 : Int64)), (.long q1), (.long v0)])) _
  refine XS.lrem X5.here hx rfl (hb hby at_108) rfl (by decide) ?_
  show Steps p.tables e below (T5.setTop (mkF m 109 #[.val (.long q1), .second, .val (.int p2), .val (.int p3), .val (.int p4), .val (.int d), .val (.int f), .val (.int (f + d)), .unset, .unset, .val (.int (((p4.toUInt32 >>> ((2 : Int32) &&& 31).toUInt32).toInt32) &&& (3 : Int32))), .unset, .unset, .unset, .unset, .unset, .unset] [(.long (q1 - (q1 / (3 : Int64)) * (3 : Int64))), (.long v0)])) _
  refine XS.ladd X5.here hx rfl (hb hby at_109) rfl ?_
  show Steps p.tables e below (T5.setTop (mkF m 110 #[.val (.long q1), .second, .val (.int p2), .val (.int p3), .val (.int p4), .val (.int d), .val (.int f), .val (.int (f + d)), .unset, .unset, .val (.int (((p4.toUInt32 >>> ((2 : Int32) &&& 31).toUInt32).toInt32) &&& (3 : Int32))), .unset, .unset, .unset, .unset, .unset, .unset] [(.long (v0 + (q1 - (q1 / (3 : Int64)) * (3 : Int64))))])) _
  refine XS.lstore X5.here hx rfl (hb hby at_110) rfl (l' := #[.val (.long q1), .second, .val (.int p2), .val (.int p3), .val (.int p4), .val (.int d), .val (.int f), .val (.int (f + d)), .unset, .unset, .val (.int (((p4.toUInt32 >>> ((2 : Int32) &&& 31).toUInt32).toInt32) &&& (3 : Int32))), .val (.long (v0 + (q1 - (q1 / (3 : Int64)) * (3 : Int64)))), .second, .unset, .unset, .unset, .unset]) rfl ?_
  show Steps p.tables e below (T5.setTop (mkF m 112 #[.val (.long q1), .second, .val (.int p2), .val (.int p3), .val (.int p4), .val (.int d), .val (.int f), .val (.int (f + d)), .unset, .unset, .val (.int (((p4.toUInt32 >>> ((2 : Int32) &&& 31).toUInt32).toInt32) &&& (3 : Int32))), .val (.long (v0 + (q1 - (q1 / (3 : Int64)) * (3 : Int64)))), .second, .unset, .unset, .unset, .unset] [])) _
  refine XS.iload X5.here hx rfl (hb hby at_112) rfl ?_
  show Steps p.tables e below (T5.setTop (mkF m 114 #[.val (.long q1), .second, .val (.int p2), .val (.int p3), .val (.int p4), .val (.int d), .val (.int f), .val (.int (f + d)), .unset, .unset, .val (.int (((p4.toUInt32 >>> ((2 : Int32) &&& 31).toUInt32).toInt32) &&& (3 : Int32))), .val (.long (v0 + (q1 - (q1 / (3 : Int64)) * (3 : Int64)))), .second, .unset, .unset, .unset, .unset] [(.int p4)])) _
  refine XS.bipush X5.here hx rfl (hb hby at_114) ?_
  show Steps p.tables e below (T5.setTop (mkF m 116 #[.val (.long q1), .second, .val (.int p2), .val (.int p3), .val (.int p4), .val (.int d), .val (.int f), .val (.int (f + d)), .unset, .unset, .val (.int (((p4.toUInt32 >>> ((2 : Int32) &&& 31).toUInt32).toInt32) &&& (3 : Int32))), .val (.long (v0 + (q1 - (q1 / (3 : Int64)) * (3 : Int64)))), .second, .unset, .unset, .unset, .unset] [(.int (16 : Int32)), (.int p4)])) _
  refine XS.iand X5.here hx rfl (hb hby at_116) rfl ?_
  show Steps p.tables e below (T5.setTop (mkF m 117 #[.val (.long q1), .second, .val (.int p2), .val (.int p3), .val (.int p4), .val (.int d), .val (.int f), .val (.int (f + d)), .unset, .unset, .val (.int (((p4.toUInt32 >>> ((2 : Int32) &&& 31).toUInt32).toInt32) &&& (3 : Int32))), .val (.long (v0 + (q1 - (q1 / (3 : Int64)) * (3 : Int64)))), .second, .unset, .unset, .unset, .unset] [(.int (p4 &&& (16 : Int32)))])) _
  refine XS.ifNo X5.here hx rfl (hb hby at_117) rfl ((if0 _ _).trans (feq hc117).1) ?_
  show Steps p.tables e below (T5.setTop (mkF m 120 #[.val (.long q1), .second, .val (.int p2), .val (.int p3), .val (.int p4), .val (.int d), .val (.int f), .val (.int (f + d)), .unset, .unset, .val (.int (((p4.toUInt32 >>> ((2 : Int32) &&& 31).toUInt32).toInt32) &&& (3 : Int32))), .val (.long (v0 + (q1 - (q1 / (3 : Int64)) * (3 : Int64)))), .second, .unset, .unset, .unset, .unset] [])) _
  refine XS.lload X5.here hx rfl (hb hby at_120) rfl ?_
  show Steps p.tables e below (T5.setTop (mkF m 122 #[.val (.long q1), .second, .val (.int p2), .val (.int p3), .val (.int p4), .val (.int d), .val (.int f), .val (.int (f + d)), .unset, .unset, .val (.int (((p4.toUInt32 >>> ((2 : Int32) &&& 31).toUInt32).toInt32) &&& (3 : Int32))), .val (.long (v0 + (q1 - (q1 / (3 : Int64)) * (3 : Int64)))), .second, .unset, .unset, .unset, .unset] [(.long (v0 + (q1 - (q1 / (3 : Int64)) * (3 : Int64))))])) _
  refine XS.lneg X5.here hx rfl (hb hby at_122) rfl ?_
  show Steps p.tables e below (T5.setTop (mkF m 123 #[.val (.long q1), .second, .val (.int p2), .val (.int p3), .val (.int p4), .val (.int d), .val (.int f), .val (.int (f + d)), .unset, .unset, .val (.int (((p4.toUInt32 >>> ((2 : Int32) &&& 31).toUInt32).toInt32) &&& (3 : Int32))), .val (.long (v0 + (q1 - (q1 / (3 : Int64)) * (3 : Int64)))), .second, .unset, .unset, .unset, .unset] [(.long (-(v0 + (q1 - (q1 / (3 : Int64)) * (3 : Int64)))))])) _
  refine XS.goto X5.here hx rfl (pc0 := 123) (pc' := 128) rfl (hb hby at_123) (by decide) (by decide) ?_
  show Steps p.tables e below (T5.setTop (mkF m 128 #[.val (.long q1), .second, .val (.int p2), .val (.int p3), .val (.int p4), .val (.int d), .val (.int f), .val (.int (f + d)), .unset, .unset, .val (.int (((p4.toUInt32 >>> ((2 : Int32) &&& 31).toUInt32).toInt32) &&& (3 : Int32))), .val (.long (v0 + (q1 - (q1 / (3 : Int64)) * (3 : Int64)))), .second, .unset, .unset, .unset, .unset] [(.long (-(v0 + (q1 - (q1 / (3 : Int64)) * (3 : Int64)))))])) _
  refine XS.lstore X5.here hx rfl (hb hby at_128) rfl (l' := #[.val (.long q1), .second, .val (.int p2), .val (.int p3), .val (.int p4), .val (.int d), .val (.int f), .val (.int (f + d)), .val (.long (-(v0 + (q1 - (q1 / (3 : Int64)) * (3 : Int64))))), .second, .val (.int (((p4.toUInt32 >>> ((2 : Int32) &&& 31).toUInt32).toInt32) &&& (3 : Int32))), .val (.long (v0 + (q1 - (q1 / (3 : Int64)) * (3 : Int64)))), .second, .unset, .unset, .unset, .unset]) rfl ?_
  exact kt
set_option maxRecDepth 65536 in
set_option maxHeartbeats 40000000 in
theorem tn0_54_130_C4 {p : Program} {l : Launch} {e : Env} {s : State} {m : MethodId} {args : Array Value} {below : List Frame} {meth : Method} {c : Code} {T0 : State} {locs : List Loc} {n0 : Nat} {Z : State} {a0 : Array Value} {h0 : Heap} (q1 : Int64) (p2 : Int32) (p3 : Int32) (p4 : Int32) (d : Int32) (f : Int32) (v0 : Int64)
    (X0 : Stand p l e room_1 s m args below meth c T0 locs 0 0) (hx : p.tables.exec = Jvm.exec) (hZ : Z.Warmed39 s.vm) (hw : ∀ d ∈ tables_1, d.before a0 Z = true) (hby : c.code = code) (hml : c.maxLocals = 17) (hown : s.vm.findClass "com/example/tollwise/tollwise/DecimalsRescaledPinLaw" = some m.cls) (e0 : T0.heap = h0) (N0 : Fr n0 locs) (Z0 : n0 ≤ h0.size) (hp0 : ¬ ((18 : Int32) - d) < 0 ∧ ((18 : Int32) - d) < (19 : Int32)) (hv0 : own_pows.getD (((18 : Int32) - d)).toNatClampNeg (.long (0 : Int64)) = .long v0) (hc64 : ¬ ((((p4.toUInt32 >>> ((2 : Int32) &&& 31).toUInt32).toInt32) &&& (3 : Int32)) = (0 : Int32))) (hc71 : ¬ ((18 : Int32) < d)) (hc83 : ¬ ((((p4.toUInt32 >>> ((2 : Int32) &&& 31).toUInt32).toInt32) &&& (3 : Int32)) = (1 : Int32))) (hc117 : (p4 &&& (16 : Int32)) = (0 : Int32)) :
    ∃ (T' : State) (L' : List Loc), Stand p l e room_1 s m args below meth c T' L' 1 19 ∧ Fr n0 L' ∧ Keep h0 T'.heap [] ∧
      ∀ target, Steps p.tables e below (T'.setTop (mkF m 130 #[.val (.long q1), .second, .val (.int p2), .val (.int p3), .val (.int p4), .val (.int d), .val (.int f), .val (.int (f + d)), .val (.long (v0 + (q1 - (q1 / (3 : Int64)) * (3 : Int64)))), .second, .val (.int (((p4.toUInt32 >>> ((2 : Int32) &&& 31).toUInt32).toInt32) &&& (3 : Int32))), .val (.long (v0 + (q1 - (q1 / (3 : Int64)) * (3 : Int64)))), .second, .unset, .unset, .unset, .unset] [])) target → Steps p.tables e below (T0.setTop (mkF m 54 #[.val (.long q1), .second, .val (.int p2), .val (.int p3), .val (.int p4), .val (.int d), .val (.int f), .val (.int (f + d)), .unset, .unset, .unset, .unset, .unset, .unset, .unset, .unset, .unset] [])) target := by
  obtain ⟨_, _, ⟨T5, L5, k5, n5⟩, -, X5, ⟨Lc5, hQ5, l5, y5, z5⟩, st5⟩ := Jvm.LawKit.callS X0 hx (y := (⟨"com/example/tollwise/tollwise/DecimalsRescaledPinLaw", "pow10", "(I)J"⟩ : MethodName)) hown (mvT hZ (hw _ (List.mem_of_getElem? (i := 2) rfl))) (mvT hZ (hw _ (List.mem_of_getElem? (i := 3) rfl))) (mvT hZ (hw _ (List.mem_of_getElem? (i := 4) rfl))) (mvT hZ (hw _ (List.mem_of_getElem? (i := 5) rfl))) (by decide) (backOf (W := 0) (rm1 l Z a0 hw [] ((18 : Int32) - d) v0 h0 n0 Z0 hp0 hv0) hZ (hw _ (List.mem_of_getElem? (i := 5) rfl)) (hw _ (List.mem_of_getElem? (i := 4) rfl)) (by decide) (by decide)) (g := (mkF m 101 #[.val (.long q1), .second, .val (.int p2), .val (.int p3), .val (.int p4), .val (.int d), .val (.int f), .val (.int (f + d)), .unset, .unset, .val (.int (((p4.toUInt32 >>> ((2 : Int32) &&& 31).toUInt32).toInt32) &&& (3 : Int32))), .unset, .unset, .unset, .unset, .unset, .unset] [(.int ((18 : Int32) - d))])) rfl (by rw [hml]; rfl) (argsL := [(.int ((18 : Int32) - d))]) (rest := []) (lenOf pd_0_0 rfl) rfl (by show 2 * 0 + _ ≤ _; exact Nat.le_of_eq rfl) (hb hby at_101) (fun _ _ => ⟨rfl, e0, (by decide : 0 + 0 + 1 ≤ _), (by decide : 0 + 0 + 19 ≤ _)⟩)
  dsimp only [Pt.U, Pt.locs, Pt.cells, Pt.slots] at X5 l5 y5 z5 st5 hQ5
  subst l5 y5 z5
  obtain ⟨rfl, N5q, K5⟩ := hQ5
  have N5 := Fr.app N0 N5q
  have KC5 : Keep h0 T5.heap [] := (Keep.refl h0 []).trans K5 (fun _ q => nomatch q)
  refine ⟨T5, _, X5, N5, KC5, fun target kt => ?_⟩
  show Steps p.tables e below (T0.setTop (mkF m 54 #[.val (.long q1), .second, .val (.int p2), .val (.int p3), .val (.int p4), .val (.int d), .val (.int f), .val (.int (f + d)), .unset, .unset, .unset, .unset, .unset, .unset, .unset, .unset, .unset] [])) _
  refine XS.iload X0.here hx rfl (hb hby at_54) rfl ?_
  show Steps p.tables e below (T0.setTop (mkF m 56 #[.val (.long q1), .second, .val (.int p2), .val (.int p3), .val (.int p4), .val (.int d), .val (.int f), .val (.int (f + d)), .unset, .unset, .unset, .unset, .unset, .unset, .unset, .unset, .unset] [(.int p4)])) _
  refine XS.iconst X0.here hx rfl (hb hby at_56) ?_
  show Steps p.tables e below (T0.setTop (mkF m 57 #[.val (.long q1), .second, .val (.int p2), .val (.int p3), .val (.int p4), .val (.int d), .val (.int f), .val (.int (f + d)), .unset, .unset, .unset, .unset, .unset, .unset, .unset, .unset, .unset] [(.int (2 : Int32)), (.int p4)])) _
  refine XS.iushr X0.here hx rfl (hb hby at_57) rfl ?_
  show Steps p.tables e below (T0.setTop (mkF m 58 #[.val (.long q1), .second, .val (.int p2), .val (.int p3), .val (.int p4), .val (.int d), .val (.int f), .val (.int (f + d)), .unset, .unset, .unset, .unset, .unset, .unset, .unset, .unset, .unset] [(.int ((p4.toUInt32 >>> ((2 : Int32) &&& 31).toUInt32).toInt32))])) _
  refine XS.iconst X0.here hx rfl (hb hby at_58) ?_
  show Steps p.tables e below (T0.setTop (mkF m 59 #[.val (.long q1), .second, .val (.int p2), .val (.int p3), .val (.int p4), .val (.int d), .val (.int f), .val (.int (f + d)), .unset, .unset, .unset, .unset, .unset, .unset, .unset, .unset, .unset] [(.int (3 : Int32)), (.int ((p4.toUInt32 >>> ((2 : Int32) &&& 31).toUInt32).toInt32))])) _
  refine XS.iand X0.here hx rfl (hb hby at_59) rfl ?_
  show Steps p.tables e below (T0.setTop (mkF m 60 #[.val (.long q1), .second, .val (.int p2), .val (.int p3), .val (.int p4), .val (.int d), .val (.int f), .val (.int (f + d)), .unset, .unset, .unset, .unset, .unset, .unset, .unset, .unset, .unset] [(.int (((p4.toUInt32 >>> ((2 : Int32) &&& 31).toUInt32).toInt32) &&& (3 : Int32)))])) _
  refine XS.istore X0.here hx rfl (hb hby at_60) rfl (l' := #[.val (.long q1), .second, .val (.int p2), .val (.int p3), .val (.int p4), .val (.int d), .val (.int f), .val (.int (f + d)), .unset, .unset, .val (.int (((p4.toUInt32 >>> ((2 : Int32) &&& 31).toUInt32).toInt32) &&& (3 : Int32))), .unset, .unset, .unset, .unset, .unset, .unset]) rfl ?_
  show Steps p.tables e below (T0.setTop (mkF m 62 #[.val (.long q1), .second, .val (.int p2), .val (.int p3), .val (.int p4), .val (.int d), .val (.int f), .val (.int (f + d)), .unset, .unset, .val (.int (((p4.toUInt32 >>> ((2 : Int32) &&& 31).toUInt32).toInt32) &&& (3 : Int32))), .unset, .unset, .unset, .unset, .unset, .unset] [])) _
  refine XS.iload X0.here hx rfl (hb hby at_62) rfl ?_
  show Steps p.tables e below (T0.setTop (mkF m 64 #[.val (.long q1), .second, .val (.int p2), .val (.int p3), .val (.int p4), .val (.int d), .val (.int f), .val (.int (f + d)), .unset, .unset, .val (.int (((p4.toUInt32 >>> ((2 : Int32) &&& 31).toUInt32).toInt32) &&& (3 : Int32))), .unset, .unset, .unset, .unset, .unset, .unset] [(.int (((p4.toUInt32 >>> ((2 : Int32) &&& 31).toUInt32).toInt32) &&& (3 : Int32)))])) _
  refine XS.ifNo X0.here hx rfl (hb hby at_64) rfl ((if0 _ _).trans (feq hc64).1) ?_
  show Steps p.tables e below (T0.setTop (mkF m 67 #[.val (.long q1), .second, .val (.int p2), .val (.int p3), .val (.int p4), .val (.int d), .val (.int f), .val (.int (f + d)), .unset, .unset, .val (.int (((p4.toUInt32 >>> ((2 : Int32) &&& 31).toUInt32).toInt32) &&& (3 : Int32))), .unset, .unset, .unset, .unset, .unset, .unset] [])) _
  refine XS.iload X0.here hx rfl (hb hby at_67) rfl ?_
  show Steps p.tables e below (T0.setTop (mkF m 69 #[.val (.long q1), .second, .val (.int p2), .val (.int p3), .val (.int p4), .val (.int d), .val (.int f), .val (.int (f + d)), .unset, .unset, .val (.int (((p4.toUInt32 >>> ((2 : Int32) &&& 31).toUInt32).toInt32) &&& (3 : Int32))), .unset, .unset, .unset, .unset, .unset, .unset] [(.int d)])) _
  refine XS.bipush X0.here hx rfl (hb hby at_69) ?_
  show Steps p.tables e below (T0.setTop (mkF m 71 #[.val (.long q1), .second, .val (.int p2), .val (.int p3), .val (.int p4), .val (.int d), .val (.int f), .val (.int (f + d)), .unset, .unset, .val (.int (((p4.toUInt32 >>> ((2 : Int32) &&& 31).toUInt32).toInt32) &&& (3 : Int32))), .unset, .unset, .unset, .unset, .unset, .unset] [(.int (18 : Int32)), (.int d)])) _
  refine XS.icmpYes X0.here hx rfl (pc0 := 71) (pc' := 80) rfl (hb hby at_71) rfl (flt hc71).2.2.2 (by decide) (by decide) ?_
  show Steps p.tables e below (T0.setTop (mkF m 80 #[.val (.long q1), .second, .val (.int p2), .val (.int p3), .val (.int p4), .val (.int d), .val (.int f), .val (.int (f + d)), .unset, .unset, .val (.int (((p4.toUInt32 >>> ((2 : Int32) &&& 31).toUInt32).toInt32) &&& (3 : Int32))), .unset, .unset, .unset, .unset, .unset, .unset] [])) _
  refine XS.iload X0.here hx rfl (hb hby at_80) rfl ?_
  show Steps p.tables e below (T0.setTop (mkF m 82 #[.val (.long q1), .second, .val (.int p2), .val (.int p3), .val (.int p4), .val (.int d), .val (.int f), .val (.int (f + d)), .unset, .unset, .val (.int (((p4.toUInt32 >>> ((2 : Int32) &&& 31).toUInt32).toInt32) &&& (3 : Int32))), .unset, .unset, .unset, .unset, .unset, .unset] [(.int (((p4.toUInt32 >>> ((2 : Int32) &&& 31).toUInt32).toInt32) &&& (3 : Int32)))])) _
  refine XS.iconst X0.here hx rfl (hb hby at_82) ?_
  show Steps p.tables e below (T0.setTop (mkF m 83 #[.val (.long q1), .second, .val (.int p2), .val (.int p3), .val (.int p4), .val (.int d), .val (.int f), .val (.int (f + d)), .unset, .unset, .val (.int (((p4.toUInt32 >>> ((2 : Int32) &&& 31).toUInt32).toInt32) &&& (3 : Int32))), .unset, .unset, .unset, .unset, .unset, .unset] [(.int (1 : Int32)), (.int (((p4.toUInt32 >>> ((2 : Int32) &&& 31).toUInt32).toInt32) &&& (3 : Int32)))])) _
  refine XS.icmpYes X0.here hx rfl (pc0 := 83) (pc' := 96) rfl (hb hby at_83) rfl (feq hc83).2 (by decide) (by decide) ?_
  show Steps p.tables e below (T0.setTop (mkF m 96 #[.val (.long q1), .second, .val (.int p2), .val (.int p3), .val (.int p4), .val (.int d), .val (.int f), .val (.int (f + d)), .unset, .unset, .val (.int (((p4.toUInt32 >>> ((2 : Int32) &&& 31).toUInt32).toInt32) &&& (3 : Int32))), .unset, .unset, .unset, .unset, .unset, .unset] [])) _
  refine XS.bipush X0.here hx rfl (hb hby at_96) ?_
  show Steps p.tables e below (T0.setTop (mkF m 98 #[.val (.long q1), .second, .val (.int p2), .val (.int p3), .val (.int p4), .val (.int d), .val (.int f), .val (.int (f + d)), .unset, .unset, .val (.int (((p4.toUInt32 >>> ((2 : Int32) &&& 31).toUInt32).toInt32) &&& (3 : Int32))), .unset, .unset, .unset, .unset, .unset, .unset] [(.int (18 : Int32))])) _
  refine XS.iload X0.here hx rfl (hb hby at_98) rfl ?_
  show Steps p.tables e below (T0.setTop (mkF m 100 #[.val (.long q1), .second, .val (.int p2), .val (.int p3), .val (.int p4), .val (.int d), .val (.int f), .val (.int (f + d)), .unset, .unset, .val (.int (((p4.toUInt32 >>> ((2 : Int32) &&& 31).toUInt32).toInt32) &&& (3 : Int32))), .unset, .unset, .unset, .unset, .unset, .unset] [(.int d), (.int (18 : Int32))])) _
  refine XS.isub X0.here hx rfl (hb hby at_100) rfl ?_
  show Steps p.tables e below (T0.setTop (mkF m 101 #[.val (.long q1), .second, .val (.int p2), .val (.int p3), .val (.int p4), .val (.int d), .val (.int f), .val (.int (f + d)), .unset, .unset, .val (.int (((p4.toUInt32 >>> ((2 : Int32) &&& 31).toUInt32).toInt32) &&& (3 : Int32))), .unset, .unset, .unset, .unset, .unset, .unset] [(.int ((18 : Int32) - d))])) _
  refine st5 _ ?_
  show Steps p.tables e below (T5.setTop (mkF m 104 #[.val (.long q1), .second, .val (.int p2), .val (.int p3), .val (.int p4), .val (.int d), .val (.int f), .val (.int (f + d)), .unset, .unset, .val (.int (((p4.toUInt32 >>> ((2 : Int32) &&& 31).toUInt32).toInt32) &&& (3 : Int32))), .unset, .unset, .unset, .unset, .unset, .unset] [(.long v0)])) _
  refine XS.lloadN X5.here hx rfl (hb hby at_104) rfl ?_
  show Steps p.tables e below (T5.setTop (mkF m 105 #[.val (.long q1), .second, .val (.int p2), .val (.int p3), .val (.int p4), .val (.int d), .val (.int f), .val (.int (f + d)), .unset, .unset, .val (.int (((p4.toUInt32 >>> ((2 : Int32) &&& 31).toUInt32).toInt32) &&& (3 : Int32))), .unset, .unset, .unset, .unset, .unset, .unset] [(.long q1), (.long v0)])) _
  refine X5.ldc2Long hx hown (mvT hZ (hw _ (List.mem_of_getElem? (i := 33) rfl))) (g := (mkF m 105 #[.val (.long q1), .second, .val (.int p2), .val (.int p3), .val (.int p4), .val (.int d), .val (.int f), .val (.int (f + d)), .unset, .unset, .val (.int (((p4.toUInt32 >>> ((2 : Int32) &&& 31).toUInt32).toInt32) &&& (3 : Int32))), .unset, .unset, .unset, .unset, .unset, .unset] [(.long q1), (.long v0)])) rfl (hb hby at_105) _ ?_
  show Steps p.tables e below (T5.setTop (mkF m 108 #[.val (.long q1), .second, .val (.int p2), .val (.int p3), .val (.int p4), .val (.int d), .val (.int f), .val (.int (f + d)), .unset, .unset, .val (.int (((p4.toUInt32 >>> ((2 : Int32) &&& 31).toUInt32).toInt32) &&& (3 : Int32))), .unset, .unset, .unset, .unset, .unset, .unset] [(.long (3 : Int64)), (.long q1), (.long v0)])) _
  refine XS.lrem X5.here hx rfl (hb hby at_108) rfl (by decide) ?_
  show Steps p.tables e below (T5.setTop (mkF m 109 #[.val (.long q1), .second, .val (.int p2), .val (.int p3), .val (.int p4), .val (.int d), .val (.int f), .val (.int (f + d)), .unset, .unset, .val (.int (((p4.toUInt32 >>> ((2 : Int32) &&& 31).toUInt32).toInt32) &&& (3 : Int32))), .unset, .unset, .unset, .unset, .unset, .unset] [(.long (q1 - (q1 / (3 : Int64)) * (3 : Int64))), (.long v0)])) _
  refine XS.ladd X5.here hx rfl (hb hby at_109) rfl ?_
  show Steps p.tables e below (T5.setTop (mkF m 110 #[.val (.long q1), .second, .val (.int p2), .val (.int p3), .val (.int p4), .val (.int d), .val (.int f), .val (.int (f + d)), .unset, .unset, .val (.int (((p4.toUInt32 >>> ((2 : Int32) &&& 31).toUInt32).toInt32) &&& (3 : Int32))), .unset, .unset, .unset, .unset, .unset, .unset] [(.long (v0 + (q1 - (q1 / (3 : Int64)) * (3 : Int64))))])) _
  refine XS.lstore X5.here hx rfl (hb hby at_110) rfl (l' := #[.val (.long q1), .second, .val (.int p2), .val (.int p3), .val (.int p4), .val (.int d), .val (.int f), .val (.int (f + d)), .unset, .unset, .val (.int (((p4.toUInt32 >>> ((2 : Int32) &&& 31).toUInt32).toInt32) &&& (3 : Int32))), .val (.long (v0 + (q1 - (q1 / (3 : Int64)) * (3 : Int64)))), .second, .unset, .unset, .unset, .unset]) rfl ?_
  show Steps p.tables e below (T5.setTop (mkF m 112 #[.val (.long q1), .second, .val (.int p2), .val (.int p3), .val (.int p4), .val (.int d), .val (.int f), .val (.int (f + d)), .unset, .unset, .val (.int (((p4.toUInt32 >>> ((2 : Int32) &&& 31).toUInt32).toInt32) &&& (3 : Int32))), .val (.long (v0 + (q1 - (q1 / (3 : Int64)) * (3 : Int64)))), .second, .unset, .unset, .unset, .unset] [])) _
  refine XS.iload X5.here hx rfl (hb hby at_112) rfl ?_
  show Steps p.tables e below (T5.setTop (mkF m 114 #[.val (.long q1), .second, .val (.int p2), .val (.int p3), .val (.int p4), .val (.int d), .val (.int f), .val (.int (f + d)), .unset, .unset, .val (.int (((p4.toUInt32 >>> ((2 : Int32) &&& 31).toUInt32).toInt32) &&& (3 : Int32))), .val (.long (v0 + (q1 - (q1 / (3 : Int64)) * (3 : Int64)))), .second, .unset, .unset, .unset, .unset] [(.int p4)])) _
  refine XS.bipush X5.here hx rfl (hb hby at_114) ?_
  show Steps p.tables e below (T5.setTop (mkF m 116 #[.val (.long q1), .second, .val (.int p2), .val (.int p3), .val (.int p4), .val (.int d), .val (.int f), .val (.int (f + d)), .unset, .unset, .val (.int (((p4.toUInt32 >>> ((2 : Int32) &&& 31).toUInt32).toInt32) &&& (3 : Int32))), .val (.long (v0 + (q1 - (q1 / (3 : Int64)) * (3 : Int64)))), .second, .unset, .unset, .unset, .unset] [(.int (16 : Int32)), (.int p4)])) _
  refine XS.iand X5.here hx rfl (hb hby at_116) rfl ?_
  show Steps p.tables e below (T5.setTop (mkF m 117 #[.val (.long q1), .second, .val (.int p2), .val (.int p3), .val (.int p4), .val (.int d), .val (.int f), .val (.int (f + d)), .unset, .unset, .val (.int (((p4.toUInt32 >>> ((2 : Int32) &&& 31).toUInt32).toInt32) &&& (3 : Int32))), .val (.long (v0 + (q1 - (q1 / (3 : Int64)) * (3 : Int64)))), .second, .unset, .unset, .unset, .unset] [(.int (p4 &&& (16 : Int32)))])) _
  refine XS.ifYes X5.here hx rfl (pc0 := 117) (pc' := 126) rfl (hb hby at_117) rfl ((if0 _ _).trans (teq hc117).1) (by decide) (by decide) ?_
  show Steps p.tables e below (T5.setTop (mkF m 126 #[.val (.long q1), .second, .val (.int p2), .val (.int p3), .val (.int p4), .val (.int d), .val (.int f), .val (.int (f + d)), .unset, .unset, .val (.int (((p4.toUInt32 >>> ((2 : Int32) &&& 31).toUInt32).toInt32) &&& (3 : Int32))), .val (.long (v0 + (q1 - (q1 / (3 : Int64)) * (3 : Int64)))), .second, .unset, .unset, .unset, .unset] [])) _
  refine XS.lload X5.here hx rfl (hb hby at_126) rfl ?_
  show Steps p.tables e below (T5.setTop (mkF m 128 #[.val (.long q1), .second, .val (.int p2), .val (.int p3), .val (.int p4), .val (.int d), .val (.int f), .val (.int (f + d)), .unset, .unset, .val (.int (((p4.toUInt32 >>> ((2 : Int32) &&& 31).toUInt32).toInt32) &&& (3 : Int32))), .val (.long (v0 + (q1 - (q1 / (3 : Int64)) * (3 : Int64)))), .second, .unset, .unset, .unset, .unset] [(.long (v0 + (q1 - (q1 / (3 : Int64)) * (3 : Int64))))])) _
  refine XS.lstore X5.here hx rfl (hb hby at_128) rfl (l' := #[.val (.long q1), .second, .val (.int p2), .val (.int p3), .val (.int p4), .val (.int d), .val (.int f), .val (.int (f + d)), .val (.long (v0 + (q1 - (q1 / (3 : Int64)) * (3 : Int64)))), .second, .val (.int (((p4.toUInt32 >>> ((2 : Int32) &&& 31).toUInt32).toInt32) &&& (3 : Int32))), .val (.long (v0 + (q1 - (q1 / (3 : Int64)) * (3 : Int64)))), .second, .unset, .unset, .unset, .unset]) rfl ?_
  exact kt
set_option maxRecDepth 65536 in
set_option maxHeartbeats 40000000 in
theorem tn0_130_194_D0x {p : Program} {l : Launch} {e : Env} {R : Room} {s : State} {m : MethodId} {args : Array Value} {below : List Frame} {meth : Method} {c : Code} {T0 : State} {locs : List Loc} {cells slots : Nat} {Z : State} {a0 : Array Value} {h0 : Heap} (q1 : Int64) (p2 : Int32) (p3 : Int32) (p4 : Int32) (d : Int32) (f : Int32) (u : Int64)
    (X0 : Stand p l e R s m args below meth c T0 locs cells slots) (hx : p.tables.exec = Jvm.exec) (hZ : Z.Warmed39 s.vm) (hw : ∀ d ∈ tables_1, d.before a0 Z = true) (hby : c.code = code) (hml : c.maxLocals = 17) (hown : s.vm.findClass "com/example/tollwise/tollwise/DecimalsRescaledPinLaw" = some m.cls) (e0 : T0.heap = h0) (hc134 : (18 : Int32) < d) :
    ∃ (T' : State), Stand p l e R s m args below meth c T' locs cells slots ∧ T'.heap = h0 ∧
      ∀ target, Steps p.tables e below (T'.setTop (mkF m 194 #[.val (.long q1), .second, .val (.int p2), .val (.int p3), .val (.int p4), .val (.int d), .val (.int f), .val (.int (f + d)), .val (.long u), .second, .val (.int (((p4.toUInt32 >>> ((2 : Int32) &&& 31).toUInt32).toInt32) &&& (3 : Int32))), .val (.long (-9223372036854775808 : Int64)), .second, .unset, .unset, .unset, .unset] [])) target → Steps p.tables e below (T0.setTop (mkF m 130 #[.val (.long q1), .second, .val (.int p2), .val (.int p3), .val (.int p4), .val (.int d), .val (.int f), .val (.int (f + d)), .val (.long u), .second, .val (.int (((p4.toUInt32 >>> ((2 : Int32) &&& 31).toUInt32).toInt32) &&& (3 : Int32))), .unset, .unset, .unset, .unset, .unset, .unset] [])) target := by

  refine ⟨T0, X0, e0, fun target kt => ?_⟩
  show Steps p.tables e below (T0.setTop (mkF m 130 #[.val (.long q1), .second, .val (.int p2), .val (.int p3), .val (.int p4), .val (.int d), .val (.int f), .val (.int (f + d)), .val (.long u), .second, .val (.int (((p4.toUInt32 >>> ((2 : Int32) &&& 31).toUInt32).toInt32) &&& (3 : Int32))), .unset, .unset, .unset, .unset, .unset, .unset] [])) _
  refine XS.iload X0.here hx rfl (hb hby at_130) rfl ?_
  show Steps p.tables e below (T0.setTop (mkF m 132 #[.val (.long q1), .second, .val (.int p2), .val (.int p3), .val (.int p4), .val (.int d), .val (.int f), .val (.int (f + d)), .val (.long u), .second, .val (.int (((p4.toUInt32 >>> ((2 : Int32) &&& 31).toUInt32).toInt32) &&& (3 : Int32))), .unset, .unset, .unset, .unset, .unset, .unset] [(.int d)])) _
  refine XS.bipush X0.here hx rfl (hb hby at_132) ?_
  show Steps p.tables e below (T0.setTop (mkF m 134 #[.val (.long q1), .second, .val (.int p2), .val (.int p3), .val (.int p4), .val (.int d), .val (.int f), .val (.int (f + d)), .val (.long u), .second, .val (.int (((p4.toUInt32 >>> ((2 : Int32) &&& 31).toUInt32).toInt32) &&& (3 : Int32))), .unset, .unset, .unset, .unset, .unset, .unset] [(.int (18 : Int32)), (.int d)])) _
  refine XS.icmpNo X0.here hx rfl (hb hby at_134) rfl (tlt hc134).2.2.2 ?_
  show Steps p.tables e below (T0.setTop (mkF m 137 #[.val (.long q1), .second, .val (.int p2), .val (.int p3), .val (.int p4), .val (.int d), .val (.int f), .val (.int (f + d)), .val (.long u), .second, .val (.int (((p4.toUInt32 >>> ((2 : Int32) &&& 31).toUInt32).toInt32) &&& (3 : Int32))), .unset, .unset, .unset, .unset, .unset, .unset] [])) _
  refine X0.ldc2Long hx hown (mvT hZ (hw _ (List.mem_of_getElem? (i := 31) rfl))) (g := (mkF m 137 #[.val (.long q1), .second, .val (.int p2), .val (.int p3), .val (.int p4), .val (.int d), .val (.int f), .val (.int (f + d)), .val (.long u), .second, .val (.int (((p4.toUInt32 >>> ((2 : Int32) &&& 31).toUInt32).toInt32) &&& (3 : Int32))), .unset, .unset, .unset, .unset, .unset, .unset] [])) rfl (hb hby at_137) _ ?_
  show Steps p.tables e below (T0.setTop (mkF m 140 #[.val (.long q1), .second, .val (.int p2), .val (.int p3), .val (.int p4), .val (.int d), .val (.int f), .val (.int (f + d)), .val (.long u), .second, .val (.int (((p4.toUInt32 >>> ((2 : Int32) &&& 31).toUInt32).toInt32) &&& (3 : Int32))), .unset, .unset, .unset, .unset, .unset, .unset] [(.long (-9223372036854775808 : Int64))])) _
  refine XS.lstore X0.here hx rfl (hb hby at_140) rfl (l' := #[.val (.long q1), .second, .val (.int p2), .val (.int p3), .val (.int p4), .val (.int d), .val (.int f), .val (.int (f + d)), .val (.long u), .second, .val (.int (((p4.toUInt32 >>> ((2 : Int32) &&& 31).toUInt32).toInt32) &&& (3 : Int32))), .val (.long (-9223372036854775808 : Int64)), .second, .unset, .unset, .unset, .unset]) rfl ?_
  show Steps p.tables e below (T0.setTop (mkF m 142 #[.val (.long q1), .second, .val (.int p2), .val (.int p3), .val (.int p4), .val (.int d), .val (.int f), .val (.int (f + d)), .val (.long u), .second, .val (.int (((p4.toUInt32 >>> ((2 : Int32) &&& 31).toUInt32).toInt32) &&& (3 : Int32))), .val (.long (-9223372036854775808 : Int64)), .second, .unset, .unset, .unset, .unset] [])) _
  refine XS.goto X0.here hx rfl (pc0 := 142) (pc' := 194) rfl (hb hby at_142) (by decide) (by decide) ?_
  exact kt
set_option maxRecDepth 65536 in
set_option maxHeartbeats 40000000 in
theorem tn0_130_194_D1x {p : Program} {l : Launch} {e : Env} {s : State} {m : MethodId} {args : Array Value} {below : List Frame} {meth : Method} {c : Code} {T0 : State} {locs : List Loc} {n0 : Nat} {Z : State} {a0 : Array Value} {h0 : Heap} (q1 : Int64) (p2 : Int32) (p3 : Int32) (p4 : Int32) (d : Int32) (f : Int32) (u : Int64) (v0 : Int64)
    (X0 : Stand p l e room_1 s m args below meth c T0 locs 1 19) (hx : p.tables.exec = Jvm.exec) (hZ : Z.Warmed39 s.vm) (hw : ∀ d ∈ tables_1, d.before a0 Z = true) (hby : c.code = code) (hml : c.maxLocals = 17) (hown : s.vm.findClass "com/example/tollwise/tollwise/DecimalsRescaledPinLaw" = some m.cls) (e0 : T0.heap = h0) (N0 : Fr n0 locs) (Z0 : n0 ≤ h0.size) (hp0 : ¬ d < 0 ∧ d < (19 : Int32)) (hv0 : own_pows.getD (d).toNatClampNeg (.long (0 : Int64)) = .long v0) (hp1 : ¬ (18 : Int32) < 0 ∧ (18 : Int32) < (19 : Int32)) (hv1 : own_pows.getD ((18 : Int32)).toNatClampNeg (.long (0 : Int64)) = .long (1000000000000000000 : Int64)) (hc134 : ¬ ((18 : Int32) < d)) (hnz161 : ¬ (v0 = (0 : Int64))) (hc170 : (lcmpW u (-(((1000000000000000000 : Int64) - (1 : Int64)) / v0))) < (0 : Int32)) :
    ∃ (T' : State) (L' : List Loc), Stand p l e room_1 s m args below meth c T' L' 3 57 ∧ Fr n0 L' ∧ Keep h0 T'.heap [] ∧
      ∀ target, Steps p.tables e below (T'.setTop (mkF m 194 #[.val (.long q1), .second, .val (.int p2), .val (.int p3), .val (.int p4), .val (.int d), .val (.int f), .val (.int (f + d)), .val (.long u), .second, .val (.int (((p4.toUInt32 >>> ((2 : Int32) &&& 31).toUInt32).toInt32) &&& (3 : Int32))), .val (.long (-9223372036854775808 : Int64)), .second, .val (.long v0), .second, .val (.long (((1000000000000000000 : Int64) - (1 : Int64)) / v0)), .second] [])) target → Steps p.tables e below (T0.setTop (mkF m 130 #[.val (.long q1), .second, .val (.int p2), .val (.int p3), .val (.int p4), .val (.int d), .val (.int f), .val (.int (f + d)), .val (.long u), .second, .val (.int (((p4.toUInt32 >>> ((2 : Int32) &&& 31).toUInt32).toInt32) &&& (3 : Int32))), .unset, .unset, .unset, .unset, .unset, .unset] [])) target := by
  obtain ⟨_, _, ⟨T5, L5, k5, n5⟩, -, X5, ⟨Lc5, hQ5, l5, y5, z5⟩, st5⟩ := Jvm.LawKit.callS X0 hx (y := (⟨"com/example/tollwise/tollwise/DecimalsRescaledPinLaw", "pow10", "(I)J"⟩ : MethodName)) hown (mvT hZ (hw _ (List.mem_of_getElem? (i := 2) rfl))) (mvT hZ (hw _ (List.mem_of_getElem? (i := 3) rfl))) (mvT hZ (hw _ (List.mem_of_getElem? (i := 4) rfl))) (mvT hZ (hw _ (List.mem_of_getElem? (i := 5) rfl))) (by decide) (backOf (W := 0) (rm1 l Z a0 hw [] d v0 h0 n0 Z0 hp0 hv0) hZ (hw _ (List.mem_of_getElem? (i := 5) rfl)) (hw _ (List.mem_of_getElem? (i := 4) rfl)) (by decide) (by decide)) (g := (mkF m 147 #[.val (.long q1), .second, .val (.int p2), .val (.int p3), .val (.int p4), .val (.int d), .val (.int f), .val (.int (f + d)), .val (.long u), .second, .val (.int (((p4.toUInt32 >>> ((2 : Int32) &&& 31).toUInt32).toInt32) &&& (3 : Int32))), .unset, .unset, .unset, .unset, .unset, .unset] [(.int d)])) rfl (by rw [hml]; rfl) (argsL := [(.int d)]) (rest := []) (lenOf pd_0_0 rfl) rfl (by show 2 * 0 + _ ≤ _; exact Nat.le_of_eq rfl) (hb hby at_147) (fun _ _ => ⟨rfl, e0, (by decide : 1 + 0 + 1 ≤ _), (by decide : 19 + 0 + 19 ≤ _)⟩)
  dsimp only [Pt.U, Pt.locs, Pt.cells, Pt.slots] at X5 l5 y5 z5 st5 hQ5
  subst l5 y5 z5
  obtain ⟨rfl, N5q, K5⟩ := hQ5
  have N5 := Fr.app N0 N5q
  have KC5 : Keep h0 T5.heap [] := (Keep.refl h0 []).trans K5 (fun _ q => nomatch q)
  obtain ⟨_, _, ⟨T6, L6, k6, n6⟩, -, X6, ⟨Lc6, hQ6, l6, y6, z6⟩, st6⟩ := Jvm.LawKit.callS X5 hx (y := (⟨"com/example/tollwise/tollwise/DecimalsRescaledPinLaw", "pow10", "(I)J"⟩ : MethodName)) hown (mvT hZ (hw _ (List.mem_of_getElem? (i := 2) rfl))) (mvT hZ (hw _ (List.mem_of_getElem? (i := 3) rfl))) (mvT hZ (hw _ (List.mem_of_getElem? (i := 4) rfl))) (mvT hZ (hw _ (List.mem_of_getElem? (i := 5) rfl))) (by decide) (backOf (W := 0) (rm1 l Z a0 hw [] (18 : Int32) (1000000000000000000 : Int64) T5.heap n0 (Nat.le_trans Z0 K5.1) hp1 hv1) hZ (hw _ (List.mem_of_getElem? (i := 5) rfl)) (hw _ (List.mem_of_getElem? (i := 4) rfl)) (by decide) (by decide)) (g := (mkF m 154 #[.val (.long q1), .second, .val (.int p2), .val (.int p3), .val (.int p4), .val (.int d), .val (.int f), .val (.int (f + d)), .val (.long u), .second, .val (.int (((p4.toUInt32 >>> ((2 : Int32) &&& 31).toUInt32).toInt32) &&& (3 : Int32))), .unset, .unset, .val (.long v0), .second, .unset, .unset] [(.int (18 : Int32))])) rfl (by rw [hml]; rfl) (argsL := [(.int (18 : Int32))]) (rest := []) (lenOf pd_0_0 rfl) rfl (by show 2 * 0 + _ ≤ _; exact Nat.le_of_eq rfl) (hb hby at_154) (fun _ _ => ⟨rfl, rfl, (by decide : 1 + 1 + 1 ≤ _), (by decide : 19 + 19 + 19 ≤ _)⟩)
  dsimp only [Pt.U, Pt.locs, Pt.cells, Pt.slots] at X6 l6 y6 z6 st6 hQ6
  subst l6 y6 z6
  obtain ⟨rfl, N6q, K6⟩ := hQ6
  have N6 := Fr.app N5 N6q
  have KC6 : Keep h0 T6.heap [] := KC5.trans K6 (fun _ q => nomatch q)
  refine ⟨T6, _, X6, N6, KC6, fun target kt => ?_⟩
  show Steps p.tables e below (T0.setTop (mkF m 130 #[.val (.long q1), .second, .val (.int p2), .val (.int p3), .val (.int p4), .val (.int d), .val (.int f), .val (.int (f + d)), .val (.long u), .second, .val (.int (((p4.toUInt32 >>> ((2 : Int32) &&& 31).toUInt32).toInt32) &&& (3 : Int32))), .unset, .unset, .unset, .unset, .unset, .unset] [])) _
  refine XS.iload X0.here hx rfl (hb hby at_130) rfl ?_
  show Steps p.tables e below (T0.setTop (mkF m 132 #[.val (.long q1), .second, .val (.int p2), .val (.int p3), .val (.int p4), .val (.int d), .val (.int f), .val (.int (f + d)), .val (.long u), .second, .val (.int (((p4.toUInt32 >>> ((2 : Int32) &&& 31).toUInt32).toInt32) &&& (3 : Int32))), .unset, .unset, .unset, .unset, .unset, .unset] [(.int d)])) _
  refine XS.bipush X0.here hx rfl (hb hby at_132) ?_
  show Steps p.tables e below (T0.setTop (mkF m 134 #[.val (.long q1), .second, .val (.int p2), .val (.int p3), .val (.int p4), .val (.int d), .val (.int f), .val (.int (f + d)), .val (.long u), .second, .val (.int (((p4.toUInt32 >>> ((2 : Int32) &&& 31).toUInt32).toInt32) &&& (3 : Int32))), .unset, .unset, .unset, .unset, .unset, .unset] [(.int (18 : Int32)), (.int d)])) _
  refine XS.icmpYes X0.here hx rfl (pc0 := 134) (pc' := 145) rfl (hb hby at_134) rfl (flt hc134).2.2.2 (by decide) (by decide) ?_
  show Steps p.tables e below (T0.setTop (mkF m 145 #[.val (.long q1), .second, .val (.int p2), .val (.int p3), .val (.int p4), .val (.int d), .val (.int f), .val (.int (f + d)), .val (.long u), .second, .val (.int (((p4.toUInt32 >>> ((2 : Int32) &&& 31).toUInt32).toInt32) &&& (3 : Int32))), .unset, .unset, .unset, .unset, .unset, .unset] [])) _
  refine XS.iload X0.here hx rfl (hb hby at_145) rfl ?_
  show Steps p.tables e below (T0.setTop (mkF m 147 #[.val (.long q1), .second, .val (.int p2), .val (.int p3), .val (.int p4), .val (.int d), .val (.int f), .val (.int (f + d)), .val (.long u), .second, .val (.int (((p4.toUInt32 >>> ((2 : Int32) &&& 31).toUInt32).toInt32) &&& (3 : Int32))), .unset, .unset, .unset, .unset, .unset, .unset] [(.int d)])) _
  refine st5 _ ?_
  show Steps p.tables e below (T5.setTop (mkF m 150 #[.val (.long q1), .second, .val (.int p2), .val (.int p3), .val (.int p4), .val (.int d), .val (.int f), .val (.int (f + d)), .val (.long u), .second, .val (.int (((p4.toUInt32 >>> ((2 : Int32) &&& 31).toUInt32).toInt32) &&& (3 : Int32))), .unset, .unset, .unset, .unset, .unset, .unset] [(.long v0)])) _
  refine XS.lstore X5.here hx rfl (hb hby at_150) rfl (l' := #[.val (.long q1), .second, .val (.int p2), .val (.int p3), .val (.int p4), .val (.int d), .val (.int f), .val (.int (f + d)), .val (.long u), .second, .val (.int (((p4.toUInt32 >>> ((2 : Int32) &&& 31).toUInt32).toInt32) &&& (3 : Int32))), .unset, .unset, .val (.long v0), .second, .unset, .unset]) rfl ?_
  show Steps p.tables e below (T5.setTop (mkF m 152 #[.val (.long q1), .second, .val (.int p2), .val (.int p3), .val (.int p4), .val (.int d), .val (.int f), .val (.int (f + d)), .val (.long u), .second, .val (.int (((p4.toUInt32 >>> ((2 : Int32) &&& 31).toUInt32).toInt32) &&& (3 : Int32))), .unset, .unset, .val (.long v0), .second, .unset, .unset] [])) _
  refine XS.bipush X5.here hx rfl (hb hby at_152) ?_
  show Steps p.tables e below (T5.setTop (mkF m 154 #[.val (.long q1), .second, .val (.int p2), .val (.int p3), .val (.int p4), .val (.int d), .val (.int f), .val (.int (f + d)), .val (.long u), .second, .val (.int (((p4.toUInt32 >>> ((2 : Int32) &&& 31).toUInt32).toInt32) &&& (3 : Int32))), .unset, .unset, .val (.long v0), .second, .unset, .unset] [(.int (18 : Int32))])) _
  refine st6 _ ?_
  show Steps p.tables e below (T6.setTop (mkF m 157 #[.val (.long q1), .second, .val (.int p2), .val (.int p3), .val (.int p4), .val (.int d), .val (.int f), .val (.int (f + d)), .val (.long u), .second, .val (.int (((p4.toUInt32 >>> ((2 : Int32) &&& 31).toUInt32).toInt32) &&& (3 : Int32))), .unset, .unset, .val (.long v0), .second, .unset, .unset] [(.long (1000000000000000000 : Int64))])) _
  refine XS.lconst X6.here hx rfl (hb hby at_157) ?_
  show Steps p.tables e below (T6.setTop (mkF m 158 #[.val (.long q1), .second, .val (.int p2), .val (.int p3), .val (.int p4), .val (.int d), .val (.int f), .val (.int (f + d)), .val (.long u), .second, .val (.int (((p4.toUInt32 >>> ((2 : Int32) &&& 31).toUInt32).toInt32) &&& (3 : Int32))), .unset, .unset, .val (.long v0), .second, .unset, .unset] [(.long (1 : Int64)), (.long (1000000000000000000 : Int64))])) _
  refine XS.lsub X6.here hx rfl (hb hby at_158) rfl ?_
  show Steps p.tables e below (T6.setTop (mkF m 159 #[.val (.long q1), .second, .val (.int p2), .val (.int p3), .val (.int p4), .val (.int d), .val (.int f), .val (.int (f + d)), .val (.long u), .second, .val (.int (((p4.toUInt32 >>> ((2 : Int32) &&& 31).toUInt32).toInt32) &&& (3 : Int32))), .unset, .unset, .val (.long v0), .second, .unset, .unset] [(.long ((1000000000000000000 : Int64) - (1 : Int64)))])) _
  refine XS.lload X6.here hx rfl (hb hby at_159) rfl ?_
  show Steps p.tables e below (T6.setTop (mkF m 161 #[.val (.long q1), .second, .val (.int p2), .val (.int p3), .val (.int p4), .val (.int d), .val (.int f), .val (.int (f + d)), .val (.long u), .second, .val (.int (((p4.toUInt32 >>> ((2 : Int32) &&& 31).toUInt32).toInt32) &&& (3 : Int32))), .unset, .unset, .val (.long v0), .second, .unset, .unset] [(.long v0), (.long ((1000000000000000000 : Int64) - (1 : Int64)))])) _
  refine XS.ldiv X6.here hx rfl (hb hby at_161) rfl hnz161 ?_
  show Steps p.tables e below (T6.setTop (mkF m 162 #[.val (.long q1), .second, .val (.int p2), .val (.int p3), .val (.int p4), .val (.int d), .val (.int f), .val (.int (f + d)), .val (.long u), .second, .val (.int (((p4.toUInt32 >>> ((2 : Int32) &&& 31).toUInt32).toInt32) &&& (3 : Int32))), .unset, .unset, .val (.long v0), .second, .unset, .unset] [(.long (((1000000000000000000 : Int64) - (1 : Int64)) / v0))])) _
  refine XS.lstore X6.here hx rfl (hb hby at_162) rfl (l' := #[.val (.long q1), .second, .val (.int p2), .val (.int p3), .val (.int p4), .val (.int d), .val (.int f), .val (.int (f + d)), .val (.long u), .second, .val (.int (((p4.toUInt32 >>> ((2 : Int32) &&& 31).toUInt32).toInt32) &&& (3 : Int32))), .unset, .unset, .val (.long v0), .second, .val (.long (((1000000000000000000 : Int64) - (1 : Int64)) / v0)), .second]) rfl ?_
  show Steps p.tables e below (T6.setTop (mkF m 164 #[.val (.long q1), .second, .val (.int p2), .val (.int p3), .val (.int p4), .val (.int d), .val (.int f), .val (.int (f + d)), .val (.long u), .second, .val (.int (((p4.toUInt32 >>> ((2 : Int32) &&& 31).toUInt32).toInt32) &&& (3 : Int32))), .unset, .unset, .val (.long v0), .second, .val (.long (((1000000000000000000 : Int64) - (1 : Int64)) / v0)), .second] [])) _
  refine XS.lload X6.here hx rfl (hb hby at_164) rfl ?_
  show Steps p.tables e below (T6.setTop (mkF m 166 #[.val (.long q1), .second, .val (.int p2), .val (.int p3), .val (.int p4), .val (.int d), .val (.int f), .val (.int (f + d)), .val (.long u), .second, .val (.int (((p4.toUInt32 >>> ((2 : Int32) &&& 31).toUInt32).toInt32) &&& (3 : Int32))), .unset, .unset, .val (.long v0), .second, .val (.long (((1000000000000000000 : Int64) - (1 : Int64)) / v0)), .second] [(.long u)])) _
  refine XS.lload X6.here hx rfl (hb hby at_166) rfl ?_
  show Steps p.tables e below (T6.setTop (mkF m 168 #[.val (.long q1), .second, .val (.int p2), .val (.int p3), .val (.int p4), .val (.int d), .val (.int f), .val (.int (f + d)), .val (.long u), .second, .val (.int (((p4.toUInt32 >>> ((2 : Int32) &&& 31).toUInt32).toInt32) &&& (3 : Int32))), .unset, .unset, .val (.long v0), .second, .val (.long (((1000000000000000000 : Int64) - (1 : Int64)) / v0)), .second] [(.long (((1000000000000000000 : Int64) - (1 : Int64)) / v0)), (.long u)])) _
  refine XS.lneg X6.here hx rfl (hb hby at_168) rfl ?_
  show Steps p.tables e below (T6.setTop (mkF m 169 #[.val (.long q1), .second, .val (.int p2), .val (.int p3), .val (.int p4), .val (.int d), .val (.int f), .val (.int (f + d)), .val (.long u), .second, .val (.int (((p4.toUInt32 >>> ((2 : Int32) &&& 31).toUInt32).toInt32) &&& (3 : Int32))), .unset, .unset, .val (.long v0), .second, .val (.long (((1000000000000000000 : Int64) - (1 : Int64)) / v0)), .second] [(.long (-(((1000000000000000000 : Int64) - (1 : Int64)) / v0))), (.long u)])) _
  refine XS.lcmp X6.here hx rfl (hb hby at_169) rfl ?_
  show Steps p.tables e below (T6.setTop (mkF m 170 #[.val (.long q1), .second, .val (.int p2), .val (.int p3), .val (.int p4), .val (.int d), .val (.int f), .val (.int (f + d)), .val (.long u), .second, .val (.int (((p4.toUInt32 >>> ((2 : Int32) &&& 31).toUInt32).toInt32) &&& (3 : Int32))), .unset, .unset, .val (.long v0), .second, .val (.long (((1000000000000000000 : Int64) - (1 : Int64)) / v0)), .second] [(.int (lcmpW u (-(((1000000000000000000 : Int64) - (1 : Int64)) / v0))))])) _
  refine XS.ifYes X6.here hx rfl (pc0 := 170) (pc' := 189) rfl (hb hby at_170) rfl ((if0 _ _).trans (tlt hc170).1) (by decide) (by decide) ?_
  show Steps p.tables e below (T6.setTop (mkF m 189 #[.val (.long q1), .second, .val (.int p2), .val (.int p3), .val (.int p4), .val (.int d), .val (.int f), .val (.int (f + d)), .val (.long u), .second, .val (.int (((p4.toUInt32 >>> ((2 : Int32) &&& 31).toUInt32).toInt32) &&& (3 : Int32))), .unset, .unset, .val (.long v0), .second, .val (.long (((1000000000000000000 : Int64) - (1 : Int64)) / v0)), .second] [])) _
  refine X6.ldc2Long hx hown (mvT hZ (hw _ (List.mem_of_getElem? (i := 31) rfl))) (g := (mkF m 189 #[.val (.long q1), .second, .val (.int p2), .val (.int p3), .val (.int p4), .val (.int d), .val (.int f), .val (.int (f + d)), .val (.long u), .second, .val (.int (((p4.toUInt32 >>> ((2 : Int32) &&& 31).toUInt32).toInt32) &&& (3 : Int32))), .unset, .unset, .val (.long v0), .second, .val (.long (((1000000000000000000 : Int64) - (1 : Int64)) / v0)), .second] [])) rfl (hb hby at_189) _ ?_
  show Steps p.tables e below (T6.setTop (mkF m 192 #[.val (.long q1), .second, .val (.int p2), .val (.int p3), .val (.int p4), .val (.int d), .val (.int f), .val (.int (f + d)), .val (.long u), .second, .val (.int (((p4.toUInt32 >>> ((2 : Int32) &&& 31).toUInt32).toInt32) &&& (3 : Int32))), .unset, .unset, .val (.long v0), .second, .val (.long (((1000000000000000000 : Int64) - (1 : Int64)) / v0)), .second] [(.long (-9223372036854775808 : Int64))])) _
  refine XS.lstore X6.here hx rfl (hb hby at_192) rfl (l' := #[.val (.long q1), .second, .val (.int p2), .val (.int p3), .val (.int p4), .val (.int d), .val (.int f), .val (.int (f + d)), .val (.long u), .second, .val (.int (((p4.toUInt32 >>> ((2 : Int32) &&& 31).toUInt32).toInt32) &&& (3 : Int32))), .val (.long (-9223372036854775808 : Int64)), .second, .val (.long v0), .second, .val (.long (((1000000000000000000 : Int64) - (1 : Int64)) / v0)), .second]) rfl ?_
  exact kt
set_option maxRecDepth 65536 in
set_option maxHeartbeats 40000000 in
theorem tn0_130_194_D2x {p : Program} {l : Launch} {e : Env} {s : State} {m : MethodId} {args : Array Value} {below : List Frame} {meth : Method} {c : Code} {T0 : State} {locs : List Loc} {n0 : Nat} {Z : State} {a0 : Array Value} {h0 : Heap} (q1 : Int64) (p2 : Int32) (p3 : Int32) (p4 : Int32) (d : Int32) (f : Int32) (u : Int64) (v0 : Int64)
    (X0 : Stand p l e room_1 s m args below meth c T0 locs 1 19) (hx : p.tables.exec = Jvm.exec) (hZ : Z.Warmed39 s.vm) (hw : ∀ d ∈ tables_1, d.before a0 Z = true) (hby : c.code = code) (hml : c.maxLocals = 17) (hown : s.vm.findClass "com/example/tollwise/tollwise/DecimalsRescaledPinLaw" = some m.cls) (e0 : T0.heap = h0) (N0 : Fr n0 locs) (Z0 : n0 ≤ h0.size) (hp0 : ¬ d < 0 ∧ d < (19 : Int32)) (hv0 : own_pows.getD (d).toNatClampNeg (.long (0 : Int64)) = .long v0) (hp1 : ¬ (18 : Int32) < 0 ∧ (18 : Int32) < (19 : Int32)) (hv1 : own_pows.getD ((18 : Int32)).toNatClampNeg (.long (0 : Int64)) = .long (1000000000000000000 : Int64)) (hc134 : ¬ ((18 : Int32) < d)) (hnz161 : ¬ (v0 = (0 : Int64))) (hc170 : ¬ ((lcmpW u (-(((1000000000000000000 : Int64) - (1 : Int64)) / v0))) < (0 : Int32))) (hc178 : (0 : Int32) < (lcmpW u (((1000000000000000000 : Int64) - (1 : Int64)) / v0))) :
    ∃ (T' : State) (L' : List Loc), Stand p l e room_1 s m args below meth c T' L' 3 57 ∧ Fr n0 L' ∧ Keep h0 T'.heap [] ∧
      ∀ target, Steps p.tables e below (T'.setTop (mkF m 194 #[.val (.long q1), .second, .val (.int p2), .val (.int p3), .val (.int p4), .val (.int d), .val (.int f), .val (.int (f + d)), .val (.long u), .second, .val (.int (((p4.toUInt32 >>> ((2 : Int32) &&& 31).toUInt32).toInt32) &&& (3 : Int32))), .val (.long (-9223372036854775808 : Int64)), .second, .val (.long v0), .second, .val (.long (((1000000000000000000 : Int64) - (1 : Int64)) / v0)), .second] [])) target → Steps p.tables e below (T0.setTop (mkF m 130 #[.val (.long q1), .second, .val (.int p2), .val (.int p3), .val (.int p4), .val (.int d), .val (.int f), .val (.int (f + d)), .val (.long u), .second, .val (.int (((p4.toUInt32 >>> ((2 : Int32) &&& 31).toUInt32).toInt32) &&& (3 : Int32))), .unset, .unset, .unset, .unset, .unset, .unset] [])) target := by
  obtain ⟨_, _, ⟨T5, L5, k5, n5⟩, -, X5, ⟨Lc5, hQ5, l5, y5, z5⟩, st5⟩ := Jvm.LawKit.callS X0 hx (y := (⟨"com/example/tollwise/tollwise/DecimalsRescaledPinLaw", "pow10", "(I)J"⟩ : MethodName)) hown (mvT hZ (hw _ (List.mem_of_getElem? (i := 2) rfl))) (mvT hZ (hw _ (List.mem_of_getElem? (i := 3) rfl))) (mvT hZ (hw _ (List.mem_of_getElem? (i := 4) rfl))) (mvT hZ (hw _ (List.mem_of_getElem? (i := 5) rfl))) (by decide) (backOf (W := 0) (rm1 l Z a0 hw [] d v0 h0 n0 Z0 hp0 hv0) hZ (hw _ (List.mem_of_getElem? (i := 5) rfl)) (hw _ (List.mem_of_getElem? (i := 4) rfl)) (by decide) (by decide)) (g := (mkF m 147 #[.val (.long q1), .second, .val (.int p2), .val (.int p3), .val (.int p4), .val (.int d), .val (.int f), .val (.int (f + d)), .val (.long u), .second, .val (.int (((p4.toUInt32 >>> ((2 : Int32) &&& 31).toUInt32).toInt32) &&& (3 : Int32))), .unset, .unset, .unset, .unset, .unset, .unset] [(.int d)])) rfl (by rw [hml]; rfl) (argsL := [(.int d)]) (rest := []) (lenOf pd_0_0 rfl) rfl (by show 2 * 0 + _ ≤ _; exact Nat.le_of_eq rfl) (hb hby at_147) (fun _ _ => ⟨rfl, e0, (by decide : 1 + 0 + 1 ≤ _), (by decide : 19 + 0 + 19 ≤ _)⟩)
  dsimp only [Pt.U, Pt.locs, Pt.cells, Pt.slots] at X5 l5 y5 z5 st5 hQ5
  subst l5 y5 z5
  obtain ⟨rfl, N5q, K5⟩ := hQ5
  have N5 := Fr.app N0 N5q
  have KC5 : Keep h0 T5.heap [] := (Keep.refl h0 []).trans K5 (fun _ q => nomatch q)
  obtain ⟨_, _, ⟨T6, L6, k6, n6⟩, -, X6, ⟨Lc6, hQ6, l6, y6, z6⟩, st6⟩ := Jvm.LawKit.callS X5 hx (y := (⟨"com/example/tollwise/tollwise/DecimalsRescaledPinLaw", "pow10", "(I)J"⟩ : MethodName)) hown (mvT hZ (hw _ (List.mem_of_getElem? (i := 2) rfl))) (mvT hZ (hw _ (List.mem_of_getElem? (i := 3) rfl))) (mvT hZ (hw _ (List.mem_of_getElem? (i := 4) rfl))) (mvT hZ (hw _ (List.mem_of_getElem? (i := 5) rfl))) (by decide) (backOf (W := 0) (rm1 l Z a0 hw [] (18 : Int32) (1000000000000000000 : Int64) T5.heap n0 (Nat.le_trans Z0 K5.1) hp1 hv1) hZ (hw _ (List.mem_of_getElem? (i := 5) rfl)) (hw _ (List.mem_of_getElem? (i := 4) rfl)) (by decide) (by decide)) (g := (mkF m 154 #[.val (.long q1), .second, .val (.int p2), .val (.int p3), .val (.int p4), .val (.int d), .val (.int f), .val (.int (f + d)), .val (.long u), .second, .val (.int (((p4.toUInt32 >>> ((2 : Int32) &&& 31).toUInt32).toInt32) &&& (3 : Int32))), .unset, .unset, .val (.long v0), .second, .unset, .unset] [(.int (18 : Int32))])) rfl (by rw [hml]; rfl) (argsL := [(.int (18 : Int32))]) (rest := []) (lenOf pd_0_0 rfl) rfl (by show 2 * 0 + _ ≤ _; exact Nat.le_of_eq rfl) (hb hby at_154) (fun _ _ => ⟨rfl, rfl, (by decide : 1 + 1 + 1 ≤ _), (by decide : 19 + 19 + 19 ≤ _)⟩)
  dsimp only [Pt.U, Pt.locs, Pt.cells, Pt.slots] at X6 l6 y6 z6 st6 hQ6
  subst l6 y6 z6
  obtain ⟨rfl, N6q, K6⟩ := hQ6
  have N6 := Fr.app N5 N6q
  have KC6 : Keep h0 T6.heap [] := KC5.trans K6 (fun _ q => nomatch q)
  refine ⟨T6, _, X6, N6, KC6, fun target kt => ?_⟩
  show Steps p.tables e below (T0.setTop (mkF m 130 #[.val (.long q1), .second, .val (.int p2), .val (.int p3), .val (.int p4), .val (.int d), .val (.int f), .val (.int (f + d)), .val (.long u), .second, .val (.int (((p4.toUInt32 >>> ((2 : Int32) &&& 31).toUInt32).toInt32) &&& (3 : Int32))), .unset, .unset, .unset, .unset, .unset, .unset] [])) _
  refine XS.iload X0.here hx rfl (hb hby at_130) rfl ?_
  show Steps p.tables e below (T0.setTop (mkF m 132 #[.val (.long q1), .second, .val (.int p2), .val (.int p3), .val (.int p4), .val (.int d), .val (.int f), .val (.int (f + d)), .val (.long u), .second, .val (.int (((p4.toUInt32 >>> ((2 : Int32) &&& 31).toUInt32).toInt32) &&& (3 : Int32))), .unset, .unset, .unset, .unset, .unset, .unset] [(.int d)])) _
  refine XS.bipush X0.here hx rfl (hb hby at_132) ?_
  show Steps p.tables e below (T0.setTop (mkF m 134 #[.val (.long q1), .second, .val (.int p2), .val (.int p3), .val (.int p4), .val (.int d), .val (.int f), .val (.int (f + d)), .val (.long u), .second, .val (.int (((p4.toUInt32 >>> ((2 : Int32) &&& 31).toUInt32).toInt32) &&& (3 : Int32))), .unset, .unset, .unset, .unset, .unset, .unset] [(.int (18 : Int32)), (.int d)])) _
  refine XS.icmpYes X0.here hx rfl (pc0 := 134) (pc' := 145) rfl (hb hby at_134) rfl (flt hc134).2.2.2 (by decide) (by decide) ?_
  show Steps p.tables e below (T0.setTop (mkF m 145 #[.val (.long q1), .second, .val (.int p2), .val (.int p3), .val (.int p4), .val (.int d), .val (.int f), .val (.int (f + d)), .val (.long u), .second, .val (.int (((p4.toUInt32 >>> ((2 : Int32) &&& 31).toUInt32).toInt32) &&& (3 : Int32))), .unset, .unset, .unset, .unset, .unset, .unset] [])) _
  refine XS.iload X0.here hx rfl (hb hby at_145) rfl ?_
  show Steps p.tables e below (T0.setTop (mkF m 147 #[.val (.long q1), .second, .val (.int p2), .val (.int p3), .val (.int p4), .val (.int d), .val (.int f), .val (.int (f + d)), .val (.long u), .second, .val (.int (((p4.toUInt32 >>> ((2 : Int32) &&& 31).toUInt32).toInt32) &&& (3 : Int32))), .unset, .unset, .unset, .unset, .unset, .unset] [(.int d)])) _
  refine st5 _ ?_
  show Steps p.tables e below (T5.setTop (mkF m 150 #[.val (.long q1), .second, .val (.int p2), .val (.int p3), .val (.int p4), .val (.int d), .val (.int f), .val (.int (f + d)), .val (.long u), .second, .val (.int (((p4.toUInt32 >>> ((2 : Int32) &&& 31).toUInt32).toInt32) &&& (3 : Int32))), .unset, .unset, .unset, .unset, .unset, .unset] [(.long v0)])) _
  refine XS.lstore X5.here hx rfl (hb hby at_150) rfl (l' := #[.val (.long q1), .second, .val (.int p2), .val (.int p3), .val (.int p4), .val (.int d), .val (.int f), .val (.int (f + d)), .val (.long u), .second, .val (.int (((p4.toUInt32 >>> ((2 : Int32) &&& 31).toUInt32).toInt32) &&& (3 : Int32))), .unset, .unset, .val (.long v0), .second, .unset, .unset]) rfl ?_
  show Steps p.tables e below (T5.setTop (mkF m 152 #[.val (.long q1), .second, .val (.int p2), .val (.int p3), .val (.int p4), .val (.int d), .val (.int f), .val (.int (f + d)), .val (.long u), .second, .val (.int (((p4.toUInt32 >>> ((2 : Int32) &&& 31).toUInt32).toInt32) &&& (3 : Int32))), .unset, .unset, .val (.long v0), .second, .unset, .unset] [])) _
  refine XS.bipush X5.here hx rfl (hb hby at_152) ?_
  show Steps p.tables e below (T5.setTop (mkF m 154 #[.val (.long q1), .second, .val (.int p2), .val (.int p3), .val (.int p4), .val (.int d), .val (.int f), .val (.int (f + d)), .val (.long u), .second, .val (.int (((p4.toUInt32 >>> ((2 : Int32) &&& 31).toUInt32).toInt32) &&& (3 : Int32))), .unset, .unset, .val (.long v0), .second, .unset, .unset] [(.int (18 : Int32))])) _
  refine st6 _ ?_
  show Steps p.tables e below (T6.setTop (mkF m 157 #[.val (.long q1), .second, .val (.int p2), .val (.int p3), .val (.int p4), .val (.int d), .val (.int f), .val (.int (f + d)), .val (.long u), .second, .val (.int (((p4.toUInt32 >>> ((2 : Int32) &&& 31).toUInt32).toInt32) &&& (3 : Int32))), .unset, .unset, .val (.long v0), .second, .unset, .unset] [(.long (1000000000000000000 : Int64))])) _
  refine XS.lconst X6.here hx rfl (hb hby at_157) ?_
  show Steps p.tables e below (T6.setTop (mkF m 158 #[.val (.long q1), .second, .val (.int p2), .val (.int p3), .val (.int p4), .val (.int d), .val (.int f), .val (.int (f + d)), .val (.long u), .second, .val (.int (((p4.toUInt32 >>> ((2 : Int32) &&& 31).toUInt32).toInt32) &&& (3 : Int32))), .unset, .unset, .val (.long v0), .second, .unset, .unset] [(.long (1 : Int64)), (.long (1000000000000000000 : Int64))])) _
  refine XS.lsub X6.here hx rfl (hb hby at_158) rfl ?_
  show Steps p.tables e below (T6.setTop (mkF m 159 #[.val (.long q1), .second, .val (.int p2), .val (.int p3), .val (.int p4), .val (.int d), .val (.int f), .val (.int (f + d)), .val (.long u), .second, .val (.int (((p4.toUInt32 >>> ((2 : Int32) &&& 31).toUInt32).toInt32) &&& (3 : Int32))), .unset, .unset, .val (.long v0), .second, .unset, .unset] [(.long ((1000000000000000000 : Int64) - (1 : Int64)))])) _
  refine XS.lload X6.here hx rfl (hb hby at_159) rfl ?_
  show Steps p.tables e below (T6.setTop (mkF m 161 #[.val (.long q1), .second, .val (.int p2), .val (.int p3), .val (.int p4), .val (.int d), .val (.int f), .val (.int (f + d)), .val (.long u), .second, .val (.int (((p4.toUInt32 >>> ((2 : Int32) &&& 31).toUInt32).toInt32) &&& (3 : Int32))), .unset, .unset, .val (.long v0), .second, .unset, .unset] [(.long v0), (.long ((1000000000000000000 : Int64) - (1 : Int64)))])) _
  refine XS.ldiv X6.here hx rfl (hb hby at_161) rfl hnz161 ?_
  show Steps p.tables e below (T6.setTop (mkF m 162 #[.val (.long q1), .second, .val (.int p2), .val (.int p3), .val (.int p4), .val (.int d), .val (.int f), .val (.int (f + d)), .val (.long u), .second, .val (.int (((p4.toUInt32 >>> ((2 : Int32) &&& 31).toUInt32).toInt32) &&& (3 : Int32))), .unset, .unset, .val (.long v0), .second, .unset, .unset] [(.long (((1000000000000000000 : Int64) - (1 : Int64)) / v0))])) _
  refine XS.lstore X6.here hx rfl (hb hby at_162) rfl (l' := #[.val (.long q1), .second, .val (.int p2), .val (.int p3), .val (.int p4), .val (.int d), .val (.int f), .val (.int (f + d)), .val (.long u), .second, .val (.int (((p4.toUInt32 >>> ((2 : Int32) &&& 31).toUInt32).toInt32) &&& (3 : Int32))), .unset, .unset, .val (.long v0), .second, .val (.long (((1000000000000000000 : Int64) - (1 : Int64)) / v0)), .second]) rfl ?_
  show Steps p.tables e below (T6.setTop (mkF m 164 #[.val (.long q1), .second, .val (.int p2), .val (.int p3), .val (.int p4), .val (.int d), .val (.int f), .val (.int (f + d)), .val (.long u), .second, .val (.int (((p4.toUInt32 >>> ((2 : Int32) &&& 31).toUInt32).toInt32) &&& (3 : Int32))), .unset, .unset, .val (.long v0), .second, .val (.long (((1000000000000000000 : Int64) - (1 : Int64)) / v0)), .second] [])) _
  refine XS.lload X6.here hx rfl (hb hby at_164) rfl ?_
  show Steps p.tables e below (T6.setTop (mkF m 166 #[.val (.long q1), .second, .val (.int p2), .val (.int p3), .val (.int p4), .val (.int d), .val (.int f), .val (.int (f + d)), .val (.long u), .second, .val (.int (((p4.toUInt32 >>> ((2 : Int32) &&& 31).toUInt32).toInt32) &&& (3 : Int32))), .unset, .unset, .val (.long v0), .second, .val (.long (((1000000000000000000 : Int64) - (1 : Int64)) / v0)), .second] [(.long u)])) _
  refine XS.lload X6.here hx rfl (hb hby at_166) rfl ?_
  show Steps p.tables e below (T6.setTop (mkF m 168 #[.val (.long q1), .second, .val (.int p2), .val (.int p3), .val (.int p4), .val (.int d), .val (.int f), .val (.int (f + d)), .val (.long u), .second, .val (.int (((p4.toUInt32 >>> ((2 : Int32) &&& 31).toUInt32).toInt32) &&& (3 : Int32))), .unset, .unset, .val (.long v0), .second, .val (.long (((1000000000000000000 : Int64) - (1 : Int64)) / v0)), .second] [(.long (((1000000000000000000 : Int64) - (1 : Int64)) / v0)), (.long u)])) _
  refine XS.lneg X6.here hx rfl (hb hby at_168) rfl ?_
  show Steps p.tables e below (T6.setTop (mkF m 169 #[.val (.long q1), .second, .val (.int p2), .val (.int p3), .val (.int p4), .val (.int d), .val (.int f), .val (.int (f + d)), .val (.long u), .second, .val (.int (((p4.toUInt32 >>> ((2 : Int32) &&& 31).toUInt32).toInt32) &&& (3 : Int32))), .unset, .unset, .val (.long v0), .second, .val (.long (((1000000000000000000 : Int64) - (1 : Int64)) / v0)), .second] [(.long (-(((1000000000000000000 : Int64) - (1 : Int64)) / v0))), (.long u)])) _
  refine XS.lcmp X6.here hx rfl (hb hby at_169) rfl ?_
  show Steps p.tables e below (T6.setTop (mkF m 170 #[.val (.long q1), .second, .val (.int p2), .val (.int p3), .val (.int p4), .val (.int d), .val (.int f), .val (.int (f + d)), .val (.long u), .second, .val (.int (((p4.toUInt32 >>> ((2 : Int32) &&& 31).toUInt32).toInt32) &&& (3 : Int32))), .unset, .unset, .val (.long v0), .second, .val (.long (((1000000000000000000 : Int64) - (1 : Int64)) / v0)), .second] [(.int (lcmpW u (-(((1000000000000000000 : Int64) - (1 : Int64)) / v0))))])) _
  refine XS.ifNo X6.here hx rfl (hb hby at_170) rfl ((if0 _ _).trans (flt hc170).1) ?_
  show Steps p.tables e below (T6.setTop (mkF m 173 #[.val (.long q1), .second, .val (.int p2), .val (.int p3), .val (.int p4), .val (.int d), .val (.int f), .val (.int (f + d)), .val (.long u), .second, .val (.int (((p4.toUInt32 >>> ((2 : Int32) &&& 31).toUInt32).toInt32) &&& (3 : Int32))), .unset, .unset, .val (.long v0), .second, .val (.long (((1000000000000000000 : Int64) - (1 : Int64)) / v0)), .second] [])) _
  refine XS.lload X6.here hx rfl (hb hby at_173) rfl ?_
  show Steps p.tables e below (T6.setTop (mkF m 175 #[.val (.long q1), .second, .val (.int p2), .val (.int p3), .val (.int p4), .val (.int d), .val (.int f), .val (.int (f + d)), .val (.long u), .second, .val (.int (((p4.toUInt32 >>> ((2 : Int32) &&& 31).toUInt32).toInt32) &&& (3 : Int32))), .unset, .unset, .val (.long v0), .second, .val (.long (((1000000000000000000 : Int64) - (1 : Int64)) / v0)), .second] [(.long u)])) _
  refine XS.lload X6.here hx rfl (hb hby at_175) rfl ?_
  show Steps p.tables e below (T6.setTop (mkF m 177 #[.val (.long q1), .second, .val (.int p2), .val (.int p3), .val (.int p4), .val (.int d), .val (.int f), .val (.int (f + d)), .val (.long u), .second, .val (.int (((p4.toUInt32 >>> ((2 : Int32) &&& 31).toUInt32).toInt32) &&& (3 : Int32))), .unset, .unset, .val (.long v0), .second, .val (.long (((1000000000000000000 : Int64) - (1 : Int64)) / v0)), .second] [(.long (((1000000000000000000 : Int64) - (1 : Int64)) / v0)), (.long u)])) _
  refine XS.lcmp X6.here hx rfl (hb hby at_177) rfl ?_
  show Steps p.tables e below (T6.setTop (mkF m 178 #[.val (.long q1), .second, .val (.int p2), .val (.int p3), .val (.int p4), .val (.int d), .val (.int f), .val (.int (f + d)), .val (.long u), .second, .val (.int (((p4.toUInt32 >>> ((2 : Int32) &&& 31).toUInt32).toInt32) &&& (3 : Int32))), .unset, .unset, .val (.long v0), .second, .val (.long (((1000000000000000000 : Int64) - (1 : Int64)) / v0)), .second] [(.int (lcmpW u (((1000000000000000000 : Int64) - (1 : Int64)) / v0)))])) _
  refine XS.ifYes X6.here hx rfl (pc0 := 178) (pc' := 189) rfl (hb hby at_178) rfl ((if0 _ _).trans (tlt hc178).2.2.1) (by decide) (by decide) ?_
  show Steps p.tables e below (T6.setTop (mkF m 189 #[.val (.long q1), .second, .val (.int p2), .val (.int p3), .val (.int p4), .val (.int d), .val (.int f), .val (.int (f + d)), .val (.long u), .second, .val (.int (((p4.toUInt32 >>> ((2 : Int32) &&& 31).toUInt32).toInt32) &&& (3 : Int32))), .unset, .unset, .val (.long v0), .second, .val (.long (((1000000000000000000 : Int64) - (1 : Int64)) / v0)), .second] [])) _
  refine X6.ldc2Long hx hown (mvT hZ (hw _ (List.mem_of_getElem? (i := 31) rfl))) (g := (mkF m 189 #[.val (.long q1), .second, .val (.int p2), .val (.int p3), .val (.int p4), .val (.int d), .val (.int f), .val (.int (f + d)), .val (.long u), .second, .val (.int (((p4.toUInt32 >>> ((2 : Int32) &&& 31).toUInt32).toInt32) &&& (3 : Int32))), .unset, .unset, .val (.long v0), .second, .val (.long (((1000000000000000000 : Int64) - (1 : Int64)) / v0)), .second] [])) rfl (hb hby at_189) _ ?_
  show Steps p.tables e below (T6.setTop (mkF m 192 #[.val (.long q1), .second, .val (.int p2), .val (.int p3), .val (.int p4), .val (.int d), .val (.int f), .val (.int (f + d)), .val (.long u), .second, .val (.int (((p4.toUInt32 >>> ((2 : Int32) &&& 31).toUInt32).toInt32) &&& (3 : Int32))), .unset, .unset, .val (.long v0), .second, .val (.long (((1000000000000000000 : Int64) - (1 : Int64)) / v0)), .second] [(.long (-9223372036854775808 : Int64))])) _
  refine XS.lstore X6.here hx rfl (hb hby at_192) rfl (l' := #[.val (.long q1), .second, .val (.int p2), .val (.int p3), .val (.int p4), .val (.int d), .val (.int f), .val (.int (f + d)), .val (.long u), .second, .val (.int (((p4.toUInt32 >>> ((2 : Int32) &&& 31).toUInt32).toInt32) &&& (3 : Int32))), .val (.long (-9223372036854775808 : Int64)), .second, .val (.long v0), .second, .val (.long (((1000000000000000000 : Int64) - (1 : Int64)) / v0)), .second]) rfl ?_
  exact kt
set_option maxRecDepth 65536 in
set_option maxHeartbeats 40000000 in
theorem tn0_130_194_D3x {p : Program} {l : Launch} {e : Env} {s : State} {m : MethodId} {args : Array Value} {below : List Frame} {meth : Method} {c : Code} {T0 : State} {locs : List Loc} {n0 : Nat} {Z : State} {a0 : Array Value} {h0 : Heap} (q1 : Int64) (p2 : Int32) (p3 : Int32) (p4 : Int32) (d : Int32) (f : Int32) (u : Int64) (v0 : Int64)
    (X0 : Stand p l e room_1 s m args below meth c T0 locs 1 19) (hx : p.tables.exec = Jvm.exec) (hZ : Z.Warmed39 s.vm) (hw : ∀ d ∈ tables_1, d.before a0 Z = true) (hby : c.code = code) (hml : c.maxLocals = 17) (hown : s.vm.findClass "com/example/tollwise/tollwise/DecimalsRescaledPinLaw" = some m.cls) (e0 : T0.heap = h0) (N0 : Fr n0 locs) (Z0 : n0 ≤ h0.size) (hp0 : ¬ d < 0 ∧ d < (19 : Int32)) (hv0 : own_pows.getD (d).toNatClampNeg (.long (0 : Int64)) = .long v0) (hp1 : ¬ (18 : Int32) < 0 ∧ (18 : Int32) < (19 : Int32)) (hv1 : own_pows.getD ((18 : Int32)).toNatClampNeg (.long (0 : Int64)) = .long (1000000000000000000 : Int64)) (hc134 : ¬ ((18 : Int32) < d)) (hnz161 : ¬ (v0 = (0 : Int64))) (hc170 : ¬ ((lcmpW u (-(((1000000000000000000 : Int64) - (1 : Int64)) / v0))) < (0 : Int32))) (hc178 : ¬ ((0 : Int32) < (lcmpW u (((1000000000000000000 : Int64) - (1 : Int64)) / v0)))) :
    ∃ (T' : State) (L' : List Loc), Stand p l e room_1 s m args below meth c T' L' 3 57 ∧ Fr n0 L' ∧ Keep h0 T'.heap [] ∧
      ∀ target, Steps p.tables e below (T'.setTop (mkF m 194 #[.val (.long q1), .second, .val (.int p2), .val (.int p3), .val (.int p4), .val (.int d), .val (.int f), .val (.int (f + d)), .val (.long u), .second, .val (.int (((p4.toUInt32 >>> ((2 : Int32) &&& 31).toUInt32).toInt32) &&& (3 : Int32))), .val (.long (u * v0)), .second, .val (.long v0), .second, .val (.long (((1000000000000000000 : Int64) - (1 : Int64)) / v0)), .second] [])) target → Steps p.tables e below (T0.setTop (mkF m 130 #[.val (.long q1), .second, .val (.int p2), .val (.int p3), .val (.int p4), .val (.int d), .val (.int f), .val (.int (f + d)), .val (.long u), .second, .val (.int (((p4.toUInt32 >>> ((2 : Int32) &&& 31).toUInt32).toInt32) &&& (3 : Int32))), .unset, .unset, .unset, .unset, .unset, .unset] [])) target := by
  obtain ⟨_, _, ⟨T5, L5, k5, n5⟩, -, X5, ⟨Lc5, hQ5, l5, y5, z5⟩, st5⟩ := Jvm.LawKit.callS X0 hx (y := (⟨"com/example/tollwise/tollwise/DecimalsRescaledPinLaw", "pow10", "(I)J"⟩ : MethodName)) hown (mvT hZ (hw _ (List.mem_of_getElem? (i := 2) rfl))) (mvT hZ (hw _ (List.mem_of_getElem? (i := 3) rfl))) (mvT hZ (hw _ (List.mem_of_getElem? (i := 4) rfl))) (mvT hZ (hw _ (List.mem_of_getElem? (i := 5) rfl))) (by decide) (backOf (W := 0) (rm1 l Z a0 hw [] d v0 h0 n0 Z0 hp0 hv0) hZ (hw _ (List.mem_of_getElem? (i := 5) rfl)) (hw _ (List.mem_of_getElem? (i := 4) rfl)) (by decide) (by decide)) (g := (mkF m 147 #[.val (.long q1), .second, .val (.int p2), .val (.int p3), .val (.int p4), .val (.int d), .val (.int f), .val (.int (f + d)), .val (.long u), .second, .val (.int (((p4.toUInt32 >>> ((2 : Int32) &&& 31).toUInt32).toInt32) &&& (3 : Int32))), .unset, .unset, .unset, .unset, .unset, .unset] [(.int d)])) rfl (by rw [hml]; rfl) (argsL := [(.int d)]) (rest := []) (lenOf pd_0_0 rfl) rfl (by show 2 * 0 + _ ≤ _; exact Nat.le_of_eq rfl) (hb hby at_147) (fun _ _ => ⟨rfl, e0, (by decide : 1 + 0 + 1 ≤ _), (by decide : 19 + 0 + 19 ≤ _)⟩)
  dsimp only [Pt.U, Pt.locs, Pt.cells, Pt.slots] at X5 l5 y5 z5 st5 hQ5
  subst l5 y5 z5
  obtain ⟨rfl, N5q, K5⟩ := hQ5
  have N5 := Fr.app N0 N5q
  have KC5 : Keep h0 T5.heap [] := (Keep.refl h0 []).trans K5 (fun _ q => nomatch q)
  obtain ⟨_, _, ⟨T6, L6, k6, n6⟩, -, X6, ⟨Lc6, hQ6, l6, y6, z6⟩, st6⟩ := Jvm.LawKit.callS X5 hx (y := (⟨"com/example/tollwise/tollwise/DecimalsRescaledPinLaw", "pow10", "(I)J"⟩ : MethodName)) hown (mvT hZ (hw _ (List.mem_of_getElem? (i := 2) rfl))) (mvT hZ (hw _ (List.mem_of_getElem? (i := 3) rfl))) (mvT hZ (hw _ (List.mem_of_getElem? (i := 4) rfl))) (mvT hZ (hw _ (List.mem_of_getElem? (i := 5) rfl))) (by decide) (backOf (W := 0) (rm1 l Z a0 hw [] (18 : Int32) (1000000000000000000 : Int64) T5.heap n0 (Nat.le_trans Z0 K5.1) hp1 hv1) hZ (hw _ (List.mem_of_getElem? (i := 5) rfl)) (hw _ (List.mem_of_getElem? (i := 4) rfl)) (by decide) (by decide)) (g := (mkF m 154 #[.val (.long q1), .second, .val (.int p2), .val (.int p3), .val (.int p4), .val (.int d), .val (.int f), .val (.int (f + d)), .val (.long u), .second, .val (.int (((p4.toUInt32 >>> ((2 : Int32) &&& 31).toUInt32).toInt32) &&& (3 : Int32))), .unset, .unset, .val (.long v0), .second, .unset, .unset] [(.int (18 : Int32))])) rfl (by rw [hml]; rfl) (argsL := [(.int (18 : Int32))]) (rest := []) (lenOf pd_0_0 rfl) rfl (by show 2 * 0 + _ ≤ _; exact Nat.le_of_eq rfl) (hb hby at_154) (fun _ _ => ⟨rfl, rfl, (by decide : 1 + 1 + 1 ≤ _), (by decide : 19 + 19 + 19 ≤ _)⟩)
  dsimp only [Pt.U, Pt.locs, Pt.cells, Pt.slots] at X6 l6 y6 z6 st6 hQ6
  subst l6 y6 z6
  obtain ⟨rfl, N6q, K6⟩ := hQ6
  have N6 := Fr.app N5 N6q
  have KC6 : Keep h0 T6.heap [] := KC5.trans K6 (fun _ q => nomatch q)
  refine ⟨T6, _, X6, N6, KC6, fun target kt => ?_⟩
  show Steps p.tables e below (T0.setTop (mkF m 130 #[.val (.long q1), .second, .val (.int p2), .val (.int p3), .val (.int p4), .val (.int d), .val (.int f), .val (.int (f + d)), .val (.long u), .second, .val (.int (((p4.toUInt32 >>> ((2 : Int32) &&& 31).toUInt32).toInt32) &&& (3 : Int32))), .unset, .unset, .unset, .unset, .unset, .unset] [])) _
  refine XS.iload X0.here hx rfl (hb hby at_130) rfl ?_
  show Steps p.tables e below (T0.setTop (mkF m 132 #[.val (.long q1), .second, .val (.int p2), .val (.int p3), .val (.int p4), .val (.int d), .val (.int f), .val (.int (f + d)), .val (.long u), .second, .val (.int (((p4.toUInt32 >>> ((2 : Int32) &&& 31).toUInt32).toInt32) &&& (3 : Int32))), .unset, .unset, .unset, .unset, .unset, .unset] [(.int d)])) _
  refine XS.bipush X0.here hx rfl (hb hby at_132) ?_
  show Steps p.tables e below (T0.setTop (mkF m 134 #[.val (.long q1), .second, .val (.int p2), .val (.int p3), .val (.int p4), .val (.int d), .val (.int f), .val (.int (f + d)), .val (.long u), .second, .val (.int (((p4.toUInt32 >>> ((2 : Int32) &&& 31).toUInt32).toInt32) &&& (3 : Int32))), .unset, .unset, .unset, .unset, .unset, .unset] [(.int (18 : Int32)), (.int d)])) _
  refine XS.icmpYes X0.here hx rfl (pc0 := 134) (pc' := 145) rfl (hb hby at_134) rfl (flt hc134).2.2.2 (by decide) (by decide) ?_
  show Steps p.tables e below (T0.setTop (mkF m 145 #[.val (.long q1), .second, .val (.int p2), .val (.int p3), .val (.int p4), .val (.int d), .val (.int f), .val (.int (f + d)), .val (.long u), .second, .val (.int (((p4.toUInt32 >>> ((2 : Int32) &&& 31).toUInt32).toInt32) &&& (3 : Int32))), .unset, .unset, .unset, .unset, .unset, .unset] [])) _
  refine XS.iload X0.here hx rfl (hb hby at_145) rfl ?_
  show Steps p.tables e below (T0.setTop (mkF m 147 #[.val (.long q1), .second, .val (.int p2), .val (.int p3), .val (.int p4), .val (.int d), .val (.int f), .val (.int (f + d)), .val (.long u), .second, .val (.int (((p4.toUInt32 >>> ((2 : Int32) &&& 31).toUInt32).toInt32) &&& (3 : Int32))), .unset, .unset, .unset, .unset, .unset, .unset] [(.int d)])) _
  refine st5 _ ?_
  show Steps p.tables e below (T5.setTop (mkF m 150 #[.val (.long q1), .second, .val (.int p2), .val (.int p3), .val (.int p4), .val (.int d), .val (.int f), .val (.int (f + d)), .val (.long u), .second, .val (.int (((p4.toUInt32 >>> ((2 : Int32) &&& 31).toUInt32).toInt32) &&& (3 : Int32))), .unset, .unset, .unset, .unset, .unset, .unset] [(.long v0)])) _
  refine XS.lstore X5.here hx rfl (hb hby at_150) rfl (l' := #[.val (.long q1), .second, .val (.int p2), .val (.int p3), .val (.int p4), .val (.int d), .val (.int f), .val (.int (f + d)), .val (.long u), .second, .val (.int (((p4.toUInt32 >>> ((2 : Int32) &&& 31).toUInt32).toInt32) &&& (3 : Int32))), .unset, .unset, .val (.long v0), .second, .unset, .unset]) rfl ?_
  show Steps p.tables e below (T5.setTop (mkF m 152 #[.val (.long q1), .second, .val (.int p2), .val (.int p3), .val (.int p4), .val (.int d), .val (.int f), .val (.int (f + d)), .val (.long u), .second, .val (.int (((p4.toUInt32 >>> ((2 : Int32) &&& 31).toUInt32).toInt32) &&& (3 : Int32))), .unset, .unset, .val (.long v0), .second, .unset, .unset] [])) _
  refine XS.bipush X5.here hx rfl (hb hby at_152) ?_
  show Steps p.tables e below (T5.setTop (mkF m 154 #[.val (.long q1), .second, .val (.int p2), .val (.int p3), .val (.int p4), .val (.int d), .val (.int f), .val (.int (f + d)), .val (.long u), .second, .val (.int (((p4.toUInt32 >>> ((2 : Int32) &&& 31).toUInt32).toInt32) &&& (3 : Int32))), .unset, .unset, .val (.long v0), .second, .unset, .unset] [(.int (18 : Int32))])) _
  refine st6 _ ?_
  show Steps p.tables e below (T6.setTop (mkF m 157 #[.val (.long q1), .second, .val (.int p2), .val (.int p3), .val (.int p4), .val (.int d), .val (.int f), .val (.int (f + d)), .val (.long u), .second, .val (.int (((p4.toUInt32 >>> ((2 : Int32) &&& 31).toUInt32).toInt32) &&& (3 : Int32))), .unset, .unset, .val (.long v0), .second, .unset, .unset] [(.long (1000000000000000000 : Int64))])) _
  refine XS.lconst X6.here hx rfl (hb hby at_157) ?_
  show Steps p.tables e below (T6.setTop (mkF m 158 #[.val (.long q1), .second, .val (.int p2), .val (.int p3), .val (.int p4), .val (.int d), .val (.int f), .val (.int (f + d)), .val (.long u), .second, .val (.int (((p4.toUInt32 >>> ((2 : Int32) &&& 31).toUInt32).toInt32) &&& (3 : Int32))), .unset, .unset, .val (.long v0), .second, .unset, .unset] [(.long (1 : Int64)), (.long (1000000000000000000 : Int64))])) _
  refine XS.lsub X6.here hx rfl (hb hby at_158) rfl ?_
  show Steps p.tables e below (T6.setTop (mkF m 159 #[.val (.long q1), .second, .val (.int p2), .val (.int p3), .val (.int p4), .val (.int d), .val (.int f), .val (.int (f + d)), .val (.long u), .second, .val (.int (((p4.toUInt32 >>> ((2 : Int32) &&& 31).toUInt32).toInt32) &&& (3 : Int32))), .unset, .unset, .val (.long v0), .second, .unset, .unset] [(.long ((1000000000000000000 : Int64) - (1 : Int64)))])) _
  refine XS.lload X6.here hx rfl (hb hby at_159) rfl ?_
  show Steps p.tables e below (T6.setTop (mkF m 161 #[.val (.long q1), .second, .val (.int p2), .val (.int p3), .val (.int p4), .val (.int d), .val (.int f), .val (.int (f + d)), .val (.long u), .second, .val (.int (((p4.toUInt32 >>> ((2 : Int32) &&& 31).toUInt32).toInt32) &&& (3 : Int32))), .unset, .unset, .val (.long v0), .second, .unset, .unset] [(.long v0), (.long ((1000000000000000000 : Int64) - (1 : Int64)))])) _
  refine XS.ldiv X6.here hx rfl (hb hby at_161) rfl hnz161 ?_
  show Steps p.tables e below (T6.setTop (mkF m 162 #[.val (.long q1), .second, .val (.int p2), .val (.int p3), .val (.int p4), .val (.int d), .val (.int f), .val (.int (f + d)), .val (.long u), .second, .val (.int (((p4.toUInt32 >>> ((2 : Int32) &&& 31).toUInt32).toInt32) &&& (3 : Int32))), .unset, .unset, .val (.long v0), .second, .unset, .unset] [(.long (((1000000000000000000 : Int64) - (1 : Int64)) / v0))])) _
  refine XS.lstore X6.here hx rfl (hb hby at_162) rfl (l' := #[.val (.long q1), .second, .val (.int p2), .val (.int p3), .val (.int p4), .val (.int d), .val (.int f), .val (.int (f + d)), .val (.long u), .second, .val (.int (((p4.toUInt32 >>> ((2 : Int32) &&& 31).toUInt32).toInt32) &&& (3 : Int32))), .unset, .unset, .val (.long v0), .second, .val (.long (((1000000000000000000 : Int64) - (1 : Int64)) / v0)), .second]) rfl ?_
  show Steps p.tables e below (T6.setTop (mkF m 164 #[.val (.long q1), .second, .val (.int p2), .val (.int p3), .val (.int p4), .val (.int d), .val (.int f), .val (.int (f + d)), .val (.long u), .second, .val (.int (((p4.toUInt32 >>> ((2 : Int32) &&& 31).toUInt32).toInt32) &&& (3 : Int32))), .unset, .unset, .val (.long v0), .second, .val (.long (((1000000000000000000 : Int64) - (1 : Int64)) / v0)), .second] [])) _
  refine XS.lload X6.here hx rfl (hb hby at_164) rfl ?_
  show Steps p.tables e below (T6.setTop (mkF m 166 #[.val (.long q1), .second, .val (.int p2), .val (.int p3), .val (.int p4), .val (.int d), .val (.int f), .val (.int (f + d)), .val (.long u), .second, .val (.int (((p4.toUInt32 >>> ((2 : Int32) &&& 31).toUInt32).toInt32) &&& (3 : Int32))), .unset, .unset, .val (.long v0), .second, .val (.long (((1000000000000000000 : Int64) - (1 : Int64)) / v0)), .second] [(.long u)])) _
  refine XS.lload X6.here hx rfl (hb hby at_166) rfl ?_
  show Steps p.tables e below (T6.setTop (mkF m 168 #[.val (.long q1), .second, .val (.int p2), .val (.int p3), .val (.int p4), .val (.int d), .val (.int f), .val (.int (f + d)), .val (.long u), .second, .val (.int (((p4.toUInt32 >>> ((2 : Int32) &&& 31).toUInt32).toInt32) &&& (3 : Int32))), .unset, .unset, .val (.long v0), .second, .val (.long (((1000000000000000000 : Int64) - (1 : Int64)) / v0)), .second] [(.long (((1000000000000000000 : Int64) - (1 : Int64)) / v0)), (.long u)])) _
  refine XS.lneg X6.here hx rfl (hb hby at_168) rfl ?_
  show Steps p.tables e below (T6.setTop (mkF m 169 #[.val (.long q1), .second, .val (.int p2), .val (.int p3), .val (.int p4), .val (.int d), .val (.int f), .val (.int (f + d)), .val (.long u), .second, .val (.int (((p4.toUInt32 >>> ((2 : Int32) &&& 31).toUInt32).toInt32) &&& (3 : Int32))), .unset, .unset, .val (.long v0), .second, .val (.long (((1000000000000000000 : Int64) - (1 : Int64)) / v0)), .second] [(.long (-(((1000000000000000000 : Int64) - (1 : Int64)) / v0))), (.long u)])) _
  refine XS.lcmp X6.here hx rfl (hb hby at_169) rfl ?_
  show Steps p.tables e below (T6.setTop (mkF m 170 #[.val (.long q1), .second, .val (.int p2), .val (.int p3), .val (.int p4), .val (.int d), .val (.int f), .val (.int (f + d)), .val (.long u), .second, .val (.int (((p4.toUInt32 >>> ((2 : Int32) &&& 31).toUInt32).toInt32) &&& (3 : Int32))), .unset, .unset, .val (.long v0), .second, .val (.long (((1000000000000000000 : Int64) - (1 : Int64)) / v0)), .second] [(.int (lcmpW u (-(((1000000000000000000 : Int64) - (1 : Int64)) / v0))))])) _
  refine XS.ifNo X6.here hx rfl (hb hby at_170) rfl ((if0 _ _).trans (flt hc170).1) ?_
  show Steps p.tables e below (T6.setTop (mkF m 173 #[.val (.long q1), .second, .val (.int p2), .val (.int p3), .val (.int p4), .val (.int d), .val (.int f), .val (.int (f + d)), .val (.long u), .second, .val (.int (((p4.toUInt32 >>> ((2 : Int32) &&& 31).toUInt32).toInt32) &&& (3 : Int32))), .unset, .unset, .val (.long v0), .second, .val (.long (((1000000000000000000 : Int64) - (1 : Int64)) / v0)), .second] [])) _
  refine XS.lload X6.here hx rfl (hb hby at_173) rfl ?_
  show Steps p.tables e below (T6.setTop (mkF m 175 #[.val (.long q1), .second, .val (.int p2), .val (.int p3), .val (.int p4), .val (.int d), .val (.int f), .val (.int (f + d)), .val (.long u), .second, .val (.int (((p4.toUInt32 >>> ((2 : Int32) &&& 31).toUInt32).toInt32) &&& (3 : Int32))), .unset, .unset, .val (.long v0), .second, .val (.long (((1000000000000000000 : Int64) - (1 : Int64)) / v0)), .second] [(.long u)])) _
  refine XS.lload X6.here hx rfl (hb hby at_175) rfl ?_
  show Steps p.tables e below (T6.setTop (mkF m 177 #[.val (.long q1), .second, .val (.int p2), .val (.int p3), .val (.int p4), .val (.int d), .val (.int f), .val (.int (f + d)), .val (.long u), .second, .val (.int (((p4.toUInt32 >>> ((2 : Int32) &&& 31).toUInt32).toInt32) &&& (3 : Int32))), .unset, .unset, .val (.long v0), .second, .val (.long (((1000000000000000000 : Int64) - (1 : Int64)) / v0)), .second] [(.long (((1000000000000000000 : Int64) - (1 : Int64)) / v0)), (.long u)])) _
  refine XS.lcmp X6.here hx rfl (hb hby at_177) rfl ?_
  show Steps p.tables e below (T6.setTop (mkF m 178 #[.val (.long q1), .second, .val (.int p2), .val (.int p3), .val (.int p4), .val (.int d), .val (.int f), .val (.int (f + d)), .val (.long u), .second, .val (.int (((p4.toUInt32 >>> ((2 : Int32) &&& 31).toUInt32).toInt32) &&& (3 : Int32))), .unset, .unset, .val (.long v0), .second, .val (.long (((1000000000000000000 : Int64) - (1 : Int64)) / v0)), .second] [(.int (lcmpW u (((1000000000000000000 : Int64) - (1 : Int64)) / v0)))])) _
  refine XS.ifNo X6.here hx rfl (hb hby at_178) rfl ((if0 _ _).trans (flt hc178).2.2.1) ?_
  show Steps p.tables e below (T6.setTop (mkF m 181 #[.val (.long q1), .second, .val (.int p2), .val (.int p3), .val (.int p4), .val (.int d), .val (.int f), .val (.int (f + d)), .val (.long u), .second, .val (.int (((p4.toUInt32 >>> ((2 : Int32) &&& 31).toUInt32).toInt32) &&& (3 : Int32))), .unset, .unset, .val (.long v0), .second, .val (.long (((1000000000000000000 : Int64) - (1 : Int64)) / v0)), .second] [])) _
  refine XS.lload X6.here hx rfl (hb hby at_181) rfl ?_
  show Steps p.tables e below (T6.setTop (mkF m 183 #[.val (.long q1), .second, .val (.int p2), .val (.int p3), .val (.int p4), .val (.int d), .val (.int f), .val (.int (f + d)), .val (.long u), .second, .val (.int (((p4.toUInt32 >>> ((2 : Int32) &&& 31).toUInt32).toInt32) &&& (3 : Int32))), .unset, .unset, .val (.long v0), .second, .val (.long (((1000000000000000000 : Int64) - (1 : Int64)) / v0)), .second] [(.long u)])) _
  refine XS.lload X6.here hx rfl (hb hby at_183) rfl ?_
  show Steps p.tables e below (T6.setTop (mkF m 185 #[.val (.long q1), .second, .val (.int p2), .val (.int p3), .val (.int p4), .val (.int d), .val (.int f), .val (.int (f + d)), .val (.long u), .second, .val (.int (((p4.toUInt32 >>> ((2 : Int32) &&& 31).toUInt32).toInt32) &&& (3 : Int32))), .unset, .unset, .val (.long v0), .second, .val (.long (((1000000000000000000 : Int64) - (1 : Int64)) / v0)), .second] [(.long v0), (.long u)])) _
  refine XS.lmul X6.here hx rfl (hb hby at_185) rfl ?_
  show Steps p.tables e below (T6.setTop (mkF m 186 #[.val (.long q1), .second, .val (.int p2), .val (.int p3), .val (.int p4), .val (.int d), .val (.int f), .val (.int (f + d)), .val (.long u), .second, .val (.int (((p4.toUInt32 >>> ((2 : Int32) &&& 31).toUInt32).toInt32) &&& (3 : Int32))), .unset, .unset, .val (.long v0), .second, .val (.long (((1000000000000000000 : Int64) - (1 : Int64)) / v0)), .second] [(.long (u * v0))])) _
  refine XS.goto X6.here hx rfl (pc0 := 186) (pc' := 192) rfl (hb hby at_186) (by decide) (by decide) ?_
  show Steps p.tables e below (T6.setTop (mkF m 192 #[.val (.long q1), .second, .val (.int p2), .val (.int p3), .val (.int p4), .val (.int d), .val (.int f), .val (.int (f + d)), .val (.long u), .second, .val (.int (((p4.toUInt32 >>> ((2 : Int32) &&& 31).toUInt32).toInt32) &&& (3 : Int32))), .unset, .unset, .val (.long v0), .second, .val (.long (((1000000000000000000 : Int64) - (1 : Int64)) / v0)), .second] [(.long (u * v0))])) _
  refine XS.lstore X6.here hx rfl (hb hby at_192) rfl (l' := #[.val (.long q1), .second, .val (.int p2), .val (.int p3), .val (.int p4), .val (.int d), .val (.int f), .val (.int (f + d)), .val (.long u), .second, .val (.int (((p4.toUInt32 >>> ((2 : Int32) &&& 31).toUInt32).toInt32) &&& (3 : Int32))), .val (.long (u * v0)), .second, .val (.long v0), .second, .val (.long (((1000000000000000000 : Int64) - (1 : Int64)) / v0)), .second]) rfl ?_
  exact kt
set_option maxRecDepth 65536 in
set_option maxHeartbeats 40000000 in
theorem tn0_130_194_D0b {p : Program} {l : Launch} {e : Env} {R : Room} {s : State} {m : MethodId} {args : Array Value} {below : List Frame} {meth : Method} {c : Code} {T0 : State} {locs : List Loc} {cells slots : Nat} {Z : State} {a0 : Array Value} {h0 : Heap} (q1 : Int64) (p2 : Int32) (p3 : Int32) (p4 : Int32) (d : Int32) (f : Int32) (u : Int64) (b : Int64)
    (X0 : Stand p l e R s m args below meth c T0 locs cells slots) (hx : p.tables.exec = Jvm.exec) (hZ : Z.Warmed39 s.vm) (hw : ∀ d ∈ tables_1, d.before a0 Z = true) (hby : c.code = code) (hml : c.maxLocals = 17) (hown : s.vm.findClass "com/example/tollwise/tollwise/DecimalsRescaledPinLaw" = some m.cls) (e0 : T0.heap = h0) (hc134 : (18 : Int32) < d) :
    ∃ (T' : State), Stand p l e R s m args below meth c T' locs cells slots ∧ T'.heap = h0 ∧
      ∀ target, Steps p.tables e below (T'.setTop (mkF m 194 #[.val (.long q1), .second, .val (.int p2), .val (.int p3), .val (.int p4), .val (.int d), .val (.int f), .val (.int (f + d)), .val (.long u), .second, .val (.int (((p4.toUInt32 >>> ((2 : Int32) &&& 31).toUInt32).toInt32) &&& (3 : Int32))), .val (.long (-9223372036854775808 : Int64)), .second, .unset, .unset, .unset, .unset] [])) target → Steps p.tables e below (T0.setTop (mkF m 130 #[.val (.long q1), .second, .val (.int p2), .val (.int p3), .val (.int p4), .val (.int d), .val (.int f), .val (.int (f + d)), .val (.long u), .second, .val (.int (((p4.toUInt32 >>> ((2 : Int32) &&& 31).toUInt32).toInt32) &&& (3 : Int32))), .val (.long b), .second, .unset, .unset, .unset, .unset] [])) target := by

  refine ⟨T0, X0, e0, fun target kt => ?_⟩
  show Steps p.tables e below (T0.setTop (mkF m 130 #[.val (.long q1), .second, .val (.int p2), .val (.int p3), .val (.int p4), .val (.int d), .val (.int f), .val (.int (f + d)), .val (.long u), .second, .val (.int (((p4.toUInt32 >>> ((2 : Int32) &&& 31).toUInt32).toInt32) &&& (3 : Int32))), .val (.long b), .second, .unset, .unset, .unset, .unset] [])) _
  refine XS.iload X0.here hx rfl (hb hby at_130) rfl ?_
  show Steps p.tables e below (T0.setTop (mkF m 132 #[.val (.long q1), .second, .val (.int p2), .val (.int p3), .val (.int p4), .val (.int d), .val (.int f), .val (.int (f + d)), .val (.long u), .second, .val (.int (((p4.toUInt32 >>> ((2 : Int32) &&& 31).toUInt32).toInt32) &&& (3 : Int32))), .val (.long b), .second, .unset, .unset, .unset, .unset] [(.int d)])) _
  refine XS.bipush X0.here hx rfl (hb hby at_132) ?_
  show Steps p.tables e below (T0.setTop (mkF m 134 #[.val (.long q1), .second, .val (.int p2), .val (.int p3), .val (.int p4), .val (.int d), .val (.int f), .val (.int (f + d)), .val (.long u), .second, .val (.int (((p4.toUInt32 >>> ((2 : Int32) &&& 31).toUInt32).toInt32) &&& (3 : Int32))), .val (.long b), .second, .unset, .unset, .unset, .unset] [(.int (18 : Int32)), (.int d)])) _
  refine XS.icmpNo X0.here hx rfl (hb hby at_134) rfl (tlt hc134).2.2.2 ?_
  show Steps p.tables e below (T0.setTop (mkF m 137 #[.val (.long q1), .second, .val (.int p2), .val (.int p3), .val (.int p4), .val (.int d), .val (.int f), .val (.int (f + d)), .val (.long u), .second, .val (.int (((p4.toUInt32 >>> ((2 : Int32) &&& 31).toUInt32).toInt32) &&& (3 : Int32))), .val (.long b), .second, .unset, .unset, .unset, .unset] [])) _
  refine X0.ldc2Long hx hown (mvT hZ (hw _ (List.mem_of_getElem? (i := 31) rfl))) (g := (mkF m 137 #[.val (.long q1), .second, .val (.int p2), .val (.int p3), .val (.int p4), .val (.int d), .val (.int f), .val (.int (f + d)), .val (.long u), .second, .val (.int (((p4.toUInt32 >>> ((2 : Int32) &&& 31).toUInt32).toInt32) &&& (3 : Int32))), .val (.long b), .second, .unset, .unset, .unset, .unset] [])) rfl (hb hby at_137) _ ?_
  show Steps p.tables e below (T0.setTop (mkF m 140 #[.val (.long q1), .second, .val (.int p2), .val (.int p3), .val (.int p4), .val (.int d), .val (.int f), .val (.int (f + d)), .val (.long u), .second, .val (.int (((p4.toUInt32 >>> ((2 : Int32) &&& 31).toUInt32).toInt32) &&& (3 : Int32))), .val (.long b), .second, .unset, .unset, .unset, .unset] [(.long (-9223372036854775808 : Int64))])) _
  refine XS.lstore X0.here hx rfl (hb hby at_140) rfl (l' := #[.val (.long q1), .second, .val (.int p2), .val (.int p3), .val (.int p4), .val (.int d), .val (.int f), .val (.int (f + d)), .val (.long u), .second, .val (.int (((p4.toUInt32 >>> ((2 : Int32) &&& 31).toUInt32).toInt32) &&& (3 : Int32))), .val (.long (-9223372036854775808 : Int64)), .second, .unset, .unset, .unset, .unset]) rfl ?_
  show Steps p.tables e below (T0.setTop (mkF m 142 #[.val (.long q1), .second, .val (.int p2), .val (.int p3), .val (.int p4), .val (.int d), .val (.int f), .val (.int (f + d)), .val (.long u), .second, .val (.int (((p4.toUInt32 >>> ((2 : Int32) &&& 31).toUInt32).toInt32) &&& (3 : Int32))), .val (.long (-9223372036854775808 : Int64)), .second, .unset, .unset, .unset, .unset] [])) _
  refine XS.goto X0.here hx rfl (pc0 := 142) (pc' := 194) rfl (hb hby at_142) (by decide) (by decide) ?_
  exact kt
set_option maxRecDepth 65536 in
set_option maxHeartbeats 40000000 in
theorem tn0_130_194_D1b {p : Program} {l : Launch} {e : Env} {s : State} {m : MethodId} {args : Array Value} {below : List Frame} {meth : Method} {c : Code} {T0 : State} {locs : List Loc} {n0 : Nat} {Z : State} {a0 : Array Value} {h0 : Heap} (q1 : Int64) (p2 : Int32) (p3 : Int32) (p4 : Int32) (d : Int32) (f : Int32) (u : Int64) (b : Int64) (v0 : Int64)
    (X0 : Stand p l e room_1 s m args below meth c T0 locs 1 19) (hx : p.tables.exec = Jvm.exec) (hZ : Z.Warmed39 s.vm) (hw : ∀ d ∈ tables_1, d.before a0 Z = true) (hby : c.code = code) (hml : c.maxLocals = 17) (hown : s.vm.findClass "com/example/tollwise/tollwise/DecimalsRescaledPinLaw" = some m.cls) (e0 : T0.heap = h0) (N0 : Fr n0 locs) (Z0 : n0 ≤ h0.size) (hp0 : ¬ d < 0 ∧ d < (19 : Int32)) (hv0 : own_pows.getD (d).toNatClampNeg (.long (0 : Int64)) = .long v0) (hp1 : ¬ (18 : Int32) < 0 ∧ (18 : Int32) < (19 : Int32)) (hv1 : own_pows.getD ((18 : Int32)).toNatClampNeg (.long (0 : Int64)) = .long (1000000000000000000 : Int64)) (hc134 : ¬ ((18 : Int32) < d)) (hnz161 : ¬ (v0 = (0 : Int64))) (hc170 : (lcmpW u (-(((1000000000000000000 : Int64) - (1 : Int64)) / v0))) < (0 : Int32)) :
    ∃ (T' : State) (L' : List Loc), Stand p l e room_1 s m args below meth c T' L' 3 57 ∧ Fr n0 L' ∧ Keep h0 T'.heap [] ∧
      ∀ target, Steps p.tables e below (T'.setTop (mkF m 194 #[.val (.long q1), .second, .val (.int p2), .val (.int p3), .val (.int p4), .val (.int d), .val (.int f), .val (.int (f + d)), .val (.long u), .second, .val (.int (((p4.toUInt32 >>> ((2 : Int32) &&& 31).toUInt32).toInt32) &&& (3 : Int32))), .val (.long (-9223372036854775808 : Int64)), .second, .val (.long v0), .second, .val (.long (((1000000000000000000 : Int64) - (1 : Int64)) / v0)), .second] [])) target → Steps p.tables e below (T0.setTop (mkF m 130 #[.val (.long q1), .second, .val (.int p2), .val (.int p3), .val (.int p4), .val (.int d), .val (.int f), .val (.int (f + d)), .val (.long u), .second, .val (.int (((p4.toUInt32 >>> ((2 : Int32) &&& 31).toUInt32).toInt32) &&& (3 : Int32))), .val (.long b), .second, .unset, .unset, .unset, .unset] [])) target := by
  obtain ⟨_, _, ⟨T5, L5, k5, n5⟩, -, X5, ⟨Lc5, hQ5, l5, y5, z5⟩, st5⟩ := Jvm.LawKit.callS X0 hx (y := (⟨"com/example/tollwise/tollwise/DecimalsRescaledPinLaw", "pow10", "(I)J"⟩ : MethodName)) hown (mvT hZ (hw _ (List.mem_of_getElem? (i := 2) rfl))) (mvT hZ (hw _ (List.mem_of_getElem? (i := 3) rfl))) (mvT hZ (hw _ (List.mem_of_getElem? (i := 4) rfl))) (mvT hZ (hw _ (List.mem_of_getElem? (i := 5) rfl))) (by decide) (backOf (W := 0) (rm1 l Z a0 hw [] d v0 h0 n0 Z0 hp0 hv0) hZ (hw _ (List.mem_of_getElem? (i := 5) rfl)) (hw _ (List.mem_of_getElem? (i := 4) rfl)) (by decide) (by decide)) (g := (mkF m 147 #[.val (.long q1), .second, .val (.int p2), .val (.int p3), .val (.int p4), .val (.int d), .val (.int f), .val (.int (f + d)), .val (.long u), .second, .val (.int (((p4.toUInt32 >>> ((2 : Int32) &&& 31).toUInt32).toInt32) &&& (3 : Int32))), .val (.long b), .second, .unset, .unset, .unset, .unset] [(.int d)])) rfl (by rw [hml]; rfl) (argsL := [(.int d)]) (rest := []) (lenOf pd_0_0 rfl) rfl (by show 2 * 0 + _ ≤ _; exact Nat.le_of_eq rfl) (hb hby at_147) (fun _ _ => ⟨rfl, e0, (by decide : 1 + 0 + 1 ≤ _), (by decide : 19 + 0 + 19 ≤ _)⟩)
  dsimp only [Pt.U, Pt.locs, Pt.cells, Pt.slots] at X5 l5 y5 z5 st5 hQ5
  subst l5 y5 z5
  obtain ⟨rfl, N5q, K5⟩ := hQ5
  have N5 := Fr.app N0 N5q
  have KC5 : Keep h0 T5.heap [] := (Keep.refl h0 []).trans K5 (fun _ q => nomatch q)
  obtain ⟨_, _, ⟨T6, L6, k6, n6⟩, -, X6, ⟨Lc6, hQ6, l6, y6, z6⟩, st6⟩ := Jvm.LawKit.callS X5 hx (y := (⟨"com/example/tollwise/tollwise/DecimalsRescaledPinLaw", "pow10", "(I)J"⟩ : MethodName)) hown (mvT hZ (hw _ (List.mem_of_getElem? (i := 2) rfl))) (mvT hZ (hw _ (List.mem_of_getElem? (i := 3) rfl))) (mvT hZ (hw _ (List.mem_of_getElem? (i := 4) rfl))) (mvT hZ (hw _ (List.mem_of_getElem? (i := 5) rfl))) (by decide) (backOf (W := 0) (rm1 l Z a0 hw [] (18 : Int32) (1000000000000000000 : Int64) T5.heap n0 (Nat.le_trans Z0 K5.1) hp1 hv1) hZ (hw _ (List.mem_of_getElem? (i := 5) rfl)) (hw _ (List.mem_of_getElem? (i := 4) rfl)) (by decide) (by decide)) (g := (mkF m 154 #[.val (.long q1), .second, .val (.int p2), .val (.int p3), .val (.int p4), .val (.int d), .val (.int f), .val (.int (f + d)), .val (.long u), .second, .val (.int (((p4.toUInt32 >>> ((2 : Int32) &&& 31).toUInt32).toInt32) &&& (3 : Int32))), .val (.long b), .second, .val (.long v0), .second, .unset, .unset] [(.int (18 : Int32))])) rfl (by rw [hml]; rfl) (argsL := [(.int (18 : Int32))]) (rest := []) (lenOf pd_0_0 rfl) rfl (by show 2 * 0 + _ ≤ _; exact Nat.le_of_eq rfl) (hb hby at_154) (fun _ _ => ⟨rfl, rfl, (by decide : 1 + 1 + 1 ≤ _), (by decide : 19 + 19 + 19 ≤ _)⟩)
  dsimp only [Pt.U, Pt.locs, Pt.cells, Pt.slots] at X6 l6 y6 z6 st6 hQ6
  subst l6 y6 z6
  obtain ⟨rfl, N6q, K6⟩ := hQ6
  have N6 := Fr.app N5 N6q
  have KC6 : Keep h0 T6.heap [] := KC5.trans K6 (fun _ q => nomatch q)
  refine ⟨T6, _, X6, N6, KC6, fun target kt => ?_⟩
  show Steps p.tables e below (T0.setTop (mkF m 130 #[.val (.long q1), .second, .val (.int p2), .val (.int p3), .val (.int p4), .val (.int d), .val (.int f), .val (.int (f + d)), .val (.long u), .second, .val (.int (((p4.toUInt32 >>> ((2 : Int32) &&& 31).toUInt32).toInt32) &&& (3 : Int32))), .val (.long b), .second, .unset, .unset, .unset, .unset] [])) _
  refine XS.iload X0.here hx rfl (hb hby at_130) rfl ?_
  show Steps p.tables e below (T0.setTop (mkF m 132 #[.val (.long q1), .second, .val (.int p2), .val (.int p3), .val (.int p4), .val (.int d), .val (.int f), .val (.int (f + d)), .val (.long u), .second, .val (.int (((p4.toUInt32 >>> ((2 : Int32) &&& 31).toUInt32).toInt32) &&& (3 : Int32))), .val (.long b), .second, .unset, .unset, .unset, .unset] [(.int d)])) _
  refine XS.bipush X0.here hx rfl (hb hby at_132) ?_
  show Steps p.tables e below (T0.setTop (mkF m 134 #[.val (.long q1), .second, .val (.int p2), .val (.int p3), .val (.int p4), .val (.int d), .val (.int f), .val (.int (f + d)), .val (.long u), .second, .val (.int (((p4.toUInt32 >>> ((2 : Int32) &&& 31).toUInt32).toInt32) &&& (3 : Int32))), .val (.long b), .second, .unset, .unset, .unset, .unset] [(.int (18 : Int32)), (.int d)])) _
  refine XS.icmpYes X0.here hx rfl (pc0 := 134) (pc' := 145) rfl (hb hby at_134) rfl (flt hc134).2.2.2 (by decide) (by decide) ?_
  show Steps p.tables e below (T0.setTop (mkF m 145 #[.val (.long q1), .second, .val (.int p2), .val (.int p3), .val (.int p4), .val (.int d), .val (.int f), .val (.int (f + d)), .val (.long u), .second, .val (.int (((p4.toUInt32 >>> ((2 : Int32) &&& 31).toUInt32).toInt32) &&& (3 : Int32))), .val (.long b), .second, .unset, .unset, .unset, .unset] [])) _
  refine XS.iload X0.here hx rfl (hb hby at_145) rfl ?_
  show Steps p.tables e below (T0.setTop (mkF m 147 #[.val (.long q1), .second, .val (.int p2), .val (.int p3), .val (.int p4), .val (.int d), .val (.int f), .val (.int (f + d)), .val (.long u), .second, .val (.int (((p4.toUInt32 >>> ((2 : Int32) &&& 31).toUInt32).toInt32) &&& (3 : Int32))), .val (.long b), .second, .unset, .unset, .unset, .unset] [(.int d)])) _
  refine st5 _ ?_
  show Steps p.tables e below (T5.setTop (mkF m 150 #[.val (.long q1), .second, .val (.int p2), .val (.int p3), .val (.int p4), .val (.int d), .val (.int f), .val (.int (f + d)), .val (.long u), .second, .val (.int (((p4.toUInt32 >>> ((2 : Int32) &&& 31).toUInt32).toInt32) &&& (3 : Int32))), .val (.long b), .second, .unset, .unset, .unset, .unset] [(.long v0)])) _
  refine XS.lstore X5.here hx rfl (hb hby at_150) rfl (l' := #[.val (.long q1), .second, .val (.int p2), .val (.int p3), .val (.int p4), .val (.int d), .val (.int f), .val (.int (f + d)), .val (.long u), .second, .val (.int (((p4.toUInt32 >>> ((2 : Int32) &&& 31).toUInt32).toInt32) &&& (3 : Int32))), .val (.long b), .second, .val (.long v0), .second, .unset, .unset]) rfl ?_
  show Steps p.tables e below (T5.setTop (mkF m 152 #[.val (.long q1), .second, .val (.int p2), .val (.int p3), .val (.int p4), .val (.int d), .val (.int f), .val (.int (f + d)), .val (.long u), .second, .val (.int (((p4.toUInt32 >>> ((2 : Int32) &&& 31).toUInt32).toInt32) &&& (3 : Int32))), .val (.long b), .second, .val (.long v0), .second, .unset, .unset] [])) _
  refine XS.bipush X5.here hx rfl (hb hby at_152) ?_
  show Steps p.tables e below (T5.setTop (mkF m 154 #[.val (.long q1), .second, .val (.int p2), .val (.int p3), .val (.int p4), .val (.int d), .val (.int f), .val (.int (f + d)), .val (.long u), .second, .val (.int (((p4.toUInt32 >>> ((2 : Int32) &&& 31).toUInt32).toInt32) &&& (3 : Int32))), .val (.long b), .second, .val (.long v0), .second, .unset, .unset] [(.int (18 : Int32))])) _
  refine st6 _ ?_
  show Steps p.tables e below (T6.setTop (mkF m 157 #[.val (.long q1), .second, .val (.int p2), .val (.int p3), .val (.int p4), .val (.int d), .val (.int f), .val (.int (f + d)), .val (.long u), .second, .val (.int (((p4.toUInt32 >>> ((2 : Int32) &&& 31).toUInt32).toInt32) &&& (3 : Int32))), .val (.long b), .second, .val (.long v0), .second, .unset, .unset] [(.long (1000000000000000000 : Int64))])) _
  refine XS.lconst X6.here hx rfl (hb hby at_157) ?_
  show Steps p.tables e below (T6.setTop (mkF m 158 #[.val (.long q1), .second, .val (.int p2), .val (.int p3), .val (.int p4), .val (.int d), .val (.int f), .val (.int (f + d)), .val (.long u), .second, .val (.int (((p4.toUInt32 >>> ((2 : Int32) &&& 31).toUInt32).toInt32) &&& (3 : Int32))), .val (.long b), .second, .val (.long v0), .second, .unset, .unset] [(.long (1 : Int64)), (.long (1000000000000000000 : Int64))])) _
  refine XS.lsub X6.here hx rfl (hb hby at_158) rfl ?_
  show Steps p.tables e below (T6.setTop (mkF m 159 #[.val (.long q1), .second, .val (.int p2), .val (.int p3), .val (.int p4), .val (.int d), .val (.int f), .val (.int (f + d)), .val (.long u), .second, .val (.int (((p4.toUInt32 >>> ((2 : Int32) &&& 31).toUInt32).toInt32) &&& (3 : Int32))), .val (.long b), .second, .val (.long v0), .second, .unset, .unset] [(.long ((1000000000000000000 : Int64) - (1 : Int64)))])) _
  refine XS.lload X6.here hx rfl (hb hby at_159) rfl ?_
  show Steps p.tables e below (T6.setTop (mkF m 161 #[.val (.long q1), .second, .val (.int p2), .val (.int p3), .val (.int p4), .val (.int d), .val (.int f), .val (.int (f + d)), .val (.long u), .second, .val (.int (((p4.toUInt32 >>> ((2 : Int32) &&& 31).toUInt32).toInt32) &&& (3 : Int32))), .val (.long b), .second, .val (.long v0), .second, .unset, .unset] [(.long v0), (.long ((1000000000000000000 : Int64) - (1 : Int64)))])) _
  refine XS.ldiv X6.here hx rfl (hb hby at_161) rfl hnz161 ?_
  show Steps p.tables e below (T6.setTop (mkF m 162 #[.val (.long q1), .second, .val (.int p2), .val (.int p3), .val (.int p4), .val (.int d), .val (.int f), .val (.int (f + d)), .val (.long u), .second, .val (.int (((p4.toUInt32 >>> ((2 : Int32) &&& 31).toUInt32).toInt32) &&& (3 : Int32))), .val (.long b), .second, .val (.long v0), .second, .unset, .unset] [(.long (((1000000000000000000 : Int64) - (1 : Int64)) / v0))])) _
  refine XS.lstore X6.here hx rfl (hb hby at_162) rfl (l' := #[.val (.long q1), .second, .val (.int p2), .val (.int p3), .val (.int p4), .val (.int d), .val (.int f), .val (.int (f + d)), .val (.long u), .second, .val (.int (((p4.toUInt32 >>> ((2 : Int32) &&& 31).toUInt32).toInt32) &&& (3 : Int32))), .val (.long b), .second, .val (.long v0), .second, .val (.long (((1000000000000000000 : Int64) - (1 : Int64)) / v0)), .second]) rfl ?_
  show Steps p.tables e below (T6.setTop (mkF m 164 #[.val (.long q1), .second, .val (.int p2), .val (.int p3), .val (.int p4), .val (.int d), .val (.int f), .val (.int (f + d)), .val (.long u), .second, .val (.int (((p4.toUInt32 >>> ((2 : Int32) &&& 31).toUInt32).toInt32) &&& (3 : Int32))), .val (.long b), .second, .val (.long v0), .second, .val (.long (((1000000000000000000 : Int64) - (1 : Int64)) / v0)), .second] [])) _
  refine XS.lload X6.here hx rfl (hb hby at_164) rfl ?_
  show Steps p.tables e below (T6.setTop (mkF m 166 #[.val (.long q1), .second, .val (.int p2), .val (.int p3), .val (.int p4), .val (.int d), .val (.int f), .val (.int (f + d)), .val (.long u), .second, .val (.int (((p4.toUInt32 >>> ((2 : Int32) &&& 31).toUInt32).toInt32) &&& (3 : Int32))), .val (.long b), .second, .val (.long v0), .second, .val (.long (((1000000000000000000 : Int64) - (1 : Int64)) / v0)), .second] [(.long u)])) _
  refine XS.lload X6.here hx rfl (hb hby at_166) rfl ?_
  show Steps p.tables e below (T6.setTop (mkF m 168 #[.val (.long q1), .second, .val (.int p2), .val (.int p3), .val (.int p4), .val (.int d), .val (.int f), .val (.int (f + d)), .val (.long u), .second, .val (.int (((p4.toUInt32 >>> ((2 : Int32) &&& 31).toUInt32).toInt32) &&& (3 : Int32))), .val (.long b), .second, .val (.long v0), .second, .val (.long (((1000000000000000000 : Int64) - (1 : Int64)) / v0)), .second] [(.long (((1000000000000000000 : Int64) - (1 : Int64)) / v0)), (.long u)])) _
  refine XS.lneg X6.here hx rfl (hb hby at_168) rfl ?_
  show Steps p.tables e below (T6.setTop (mkF m 169 #[.val (.long q1), .second, .val (.int p2), .val (.int p3), .val (.int p4), .val (.int d), .val (.int f), .val (.int (f + d)), .val (.long u), .second, .val (.int (((p4.toUInt32 >>> ((2 : Int32) &&& 31).toUInt32).toInt32) &&& (3 : Int32))), .val (.long b), .second, .val (.long v0), .second, .val (.long (((1000000000000000000 : Int64) - (1 : Int64)) / v0)), .second] [(.long (-(((1000000000000000000 : Int64) - (1 : Int64)) / v0))), (.long u)])) _
  refine XS.lcmp X6.here hx rfl (hb hby at_169) rfl ?_
  show Steps p.tables e below (T6.setTop (mkF m 170 #[.val (.long q1), .second, .val (.int p2), .val (.int p3), .val (.int p4), .val (.int d), .val (.int f), .val (.int (f + d)), .val (.long u), .second, .val (.int (((p4.toUInt32 >>> ((2 : Int32) &&& 31).toUInt32).toInt32) &&& (3 : Int32))), .val (.long b), .second, .val (.long v0), .second, .val (.long (((1000000000000000000 : Int64) - (1 : Int64)) / v0)), .second] [(.int (lcmpW u (-(((1000000000000000000 : Int64) - (1 : Int64)) / v0))))])) _
  refine XS.ifYes X6.here hx rfl (pc0 := 170) (pc' := 189) rfl (hb hby at_170) rfl ((if0 _ _).trans (tlt hc170).1) (by decide) (by decide) ?_
  show Steps p.tables e below (T6.setTop (mkF m 189 #[.val (.long q1), .second, .val (.int p2), .val (.int p3), .val (.int p4), .val (.int d), .val (.int f), .val (.int (f + d)), .val (.long u), .second, .val (.int (((p4.toUInt32 >>> ((2 : Int32) &&& 31).toUInt32).toInt32) &&& (3 : Int32))), .val (.long b), .second, .val (.long v0), .second, .val (.long (((1000000000000000000 : Int64) - (1 : Int64)) / v0)), .second] [])) _
  refine X6.ldc2Long hx hown (mvT hZ (hw _ (List.mem_of_getElem? (i := 31) rfl))) (g := (mkF m 189 #[.val (.long q1), .second, .val (.int p2), .val (.int p3), .val (.int p4), .val (.int d), .val (.int f), .val (.int (f + d)), .val (.long u), .second, .val (.int (((p4.toUInt32 >>> ((2 : Int32) &&& 31).toUInt32).toInt32) &&& (3 : Int32))), .val (.long b), .second, .val (.long v0), .second, .val (.long (((1000000000000000000 : Int64) - (1 : Int64)) / v0)), .second] [])) rfl (hb hby at_189) _ ?_
  show Steps p.tables e below (T6.setTop (mkF m 192 #[.val (.long q1), .second, .val (.int p2), .val (.int p3), .val (.int p4), .val (.int d), .val (.int f), .val (.int (f + d)), .val (.long u), .second, .val (.int (((p4.toUInt32 >>> ((2 : Int32) &&& 31).toUInt32).toInt32) &&& (3 : Int32))), .val (.long b), .second, .val (.long v0), .second, .val (.long (((1000000000000000000 : Int64) - (1 : Int64)) / v0)), .second] [(.long (-9223372036854775808 : Int64))])) _
  refine XS.lstore X6.here hx rfl (hb hby at_192) rfl (l' := #[.val (.long q1), .second, .val (.int p2), .val (.int p3), .val (.int p4), .val (.int d), .val (.int f), .val (.int (f + d)), .val (.long u), .second, .val (.int (((p4.toUInt32 >>> ((2 : Int32) &&& 31).toUInt32).toInt32) &&& (3 : Int32))), .val (.long (-9223372036854775808 : Int64)), .second, .val (.long v0), .second, .val (.long (((1000000000000000000 : Int64) - (1 : Int64)) / v0)), .second]) rfl ?_
  exact kt
set_option maxRecDepth 65536 in
set_option maxHeartbeats 40000000 in
theorem tn0_130_194_D2b {p : Program} {l : Launch} {e : Env} {s : State} {m : MethodId} {args : Array Value} {below : List Frame} {meth : Method} {c : Code} {T0 : State} {locs : List Loc} {n0 : Nat} {Z : State} {a0 : Array Value} {h0 : Heap} (q1 : Int64) (p2 : Int32) (p3 : Int32) (p4 : Int32) (d : Int32) (f : Int32) (u : Int64) (b : Int64) (v0 : Int64)
    (X0 : Stand p l e room_1 s m args below meth c T0 locs 1 19) (hx : p.tables.exec = Jvm.exec) (hZ : Z.Warmed39 s.vm) (hw : ∀ d ∈ tables_1, d.before a0 Z = true) (hby : c.code = code) (hml : c.maxLocals = 17) (hown : s.vm.findClass "com/example/tollwise/tollwise/DecimalsRescaledPinLaw" = some m.cls) (e0 : T0.heap = h0) (N0 : Fr n0 locs) (Z0 : n0 ≤ h0.size) (hp0 : ¬ d < 0 ∧ d < (19 : Int32)) (hv0 : own_pows.getD (d).toNatClampNeg (.long (0 : Int64)) = .long v0) (hp1 : ¬ (18 : Int32) < 0 ∧ (18 : Int32) < (19 : Int32)) (hv1 : own_pows.getD ((18 : Int32)).toNatClampNeg (.long (0 : Int64)) = .long (1000000000000000000 : Int64)) (hc134 : ¬ ((18 : Int32) < d)) (hnz161 : ¬ (v0 = (0 : Int64))) (hc170 : ¬ ((lcmpW u (-(((1000000000000000000 : Int64) - (1 : Int64)) / v0))) < (0 : Int32))) (hc178 : (0 : Int32) < (lcmpW u (((1000000000000000000 : Int64) - (1 : Int64)) / v0))) :
    ∃ (T' : State) (L' : List Loc), Stand p l e room_1 s m args below meth c T' L' 3 57 ∧ Fr n0 L' ∧ Keep h0 T'.heap [] ∧
      ∀ target, Steps p.tables e below (T'.setTop (mkF m 194 #[.val (.long q1), .second, .val (.int p2), .val (.int p3), .val (.int p4), .val (.int d), .val (.int f), .val (.int (f + d)), .val (.long u), .second, .val (.int (((p4.toUInt32 >>> ((2 : Int32) &&& 31).toUInt32).toInt32) &&& (3 : Int32))), .val (.long (-9223372036854775808 : Int64)), .second, .val (.long v0), .second, .val (.long (((1000000000000000000 : Int64) - (1 : Int64)) / v0)), .second] [])) target → Steps p.tables e below (T0.setTop (mkF m 130 #[.val (.long q1), .second, .val (.int p2), .val (.int p3), .val (.int p4), .val (.int d), .val (.int f), .val (.int (f + d)), .val (.long u), .second, .val (.int (((p4.toUInt32 >>> ((2 : Int32) &&& 31).toUInt32).toInt32) &&& (3 : Int32))), .val (.long b), .second, .unset, .unset, .unset, .unset] [])) target := by
  obtain ⟨_, _, ⟨T5, L5, k5, n5⟩, -, X5, ⟨Lc5, hQ5, l5, y5, z5⟩, st5⟩ := Jvm.LawKit.callS X0 hx (y := (⟨"com/example/tollwise/tollwise/DecimalsRescaledPinLaw", "pow10", "(I)J"⟩ : MethodName)) hown (mvT hZ (hw _ (List.mem_of_getElem? (i := 2) rfl))) (mvT hZ (hw _ (List.mem_of_getElem? (i := 3) rfl))) (mvT hZ (hw _ (List.mem_of_getElem? (i := 4) rfl))) (mvT hZ (hw _ (List.mem_of_getElem? (i := 5) rfl))) (by decide) (backOf (W := 0) (rm1 l Z a0 hw [] d v0 h0 n0 Z0 hp0 hv0) hZ (hw _ (List.mem_of_getElem? (i := 5) rfl)) (hw _ (List.mem_of_getElem? (i := 4) rfl)) (by decide) (by decide)) (g := (mkF m 147 #[.val (.long q1), .second, .val (.int p2), .val (.int p3), .val (.int p4), .val (.int d), .val (.int f), .val (.int (f + d)), .val (.long u), .second, .val (.int (((p4.toUInt32 >>> ((2 : Int32) &&& 31).toUInt32).toInt32) &&& (3 : Int32))), .val (.long b), .second, .unset, .unset, .unset, .unset] [(.int d)])) rfl (by rw [hml]; rfl) (argsL := [(.int d)]) (rest := []) (lenOf pd_0_0 rfl) rfl (by show 2 * 0 + _ ≤ _; exact Nat.le_of_eq rfl) (hb hby at_147) (fun _ _ => ⟨rfl, e0, (by decide : 1 + 0 + 1 ≤ _), (by decide : 19 + 0 + 19 ≤ _)⟩)
  dsimp only [Pt.U, Pt.locs, Pt.cells, Pt.slots] at X5 l5 y5 z5 st5 hQ5
  subst l5 y5 z5
  obtain ⟨rfl, N5q, K5⟩ := hQ5
  have N5 := Fr.app N0 N5q
  have KC5 : Keep h0 T5.heap [] := (Keep.refl h0 []).trans K5 (fun _ q => nomatch q)
  obtain ⟨_, _, ⟨T6, L6, k6, n6⟩, -, X6, ⟨Lc6, hQ6, l6, y6, z6⟩, st6⟩ := Jvm.LawKit.callS X5 hx (y := (⟨"com/example/tollwise/tollwise/DecimalsRescaledPinLaw", "pow10", "(I)J"⟩ : MethodName)) hown (mvT hZ (hw _ (List.mem_of_getElem? (i := 2) rfl))) (mvT hZ (hw _ (List.mem_of_getElem? (i := 3) rfl))) (mvT hZ (hw _ (List.mem_of_getElem? (i := 4) rfl))) (mvT hZ (hw _ (List.mem_of_getElem? (i := 5) rfl))) (by decide) (backOf (W := 0) (rm1 l Z a0 hw [] (18 : Int32) (1000000000000000000 : Int64) T5.heap n0 (Nat.le_trans Z0 K5.1) hp1 hv1) hZ (hw _ (List.mem_of_getElem? (i := 5) rfl)) (hw _ (List.mem_of_getElem? (i := 4) rfl)) (by decide) (by decide)) (g := (mkF m 154 #[.val (.long q1), .second, .val (.int p2), .val (.int p3), .val (.int p4), .val (.int d), .val (.int f), .val (.int (f + d)), .val (.long u), .second, .val (.int (((p4.toUInt32 >>> ((2 : Int32) &&& 31).toUInt32).toInt32) &&& (3 : Int32))), .val (.long b), .second, .val (.long v0), .second, .unset, .unset] [(.int (18 : Int32))])) rfl (by rw [hml]; rfl) (argsL := [(.int (18 : Int32))]) (rest := []) (lenOf pd_0_0 rfl) rfl (by show 2 * 0 + _ ≤ _; exact Nat.le_of_eq rfl) (hb hby at_154) (fun _ _ => ⟨rfl, rfl, (by decide : 1 + 1 + 1 ≤ _), (by decide : 19 + 19 + 19 ≤ _)⟩)
  dsimp only [Pt.U, Pt.locs, Pt.cells, Pt.slots] at X6 l6 y6 z6 st6 hQ6
  subst l6 y6 z6
  obtain ⟨rfl, N6q, K6⟩ := hQ6
  have N6 := Fr.app N5 N6q
  have KC6 : Keep h0 T6.heap [] := KC5.trans K6 (fun _ q => nomatch q)
  refine ⟨T6, _, X6, N6, KC6, fun target kt => ?_⟩
  show Steps p.tables e below (T0.setTop (mkF m 130 #[.val (.long q1), .second, .val (.int p2), .val (.int p3), .val (.int p4), .val (.int d), .val (.int f), .val (.int (f + d)), .val (.long u), .second, .val (.int (((p4.toUInt32 >>> ((2 : Int32) &&& 31).toUInt32).toInt32) &&& (3 : Int32))), .val (.long b), .second, .unset, .unset, .unset, .unset] [])) _
  refine XS.iload X0.here hx rfl (hb hby at_130) rfl ?_
  show Steps p.tables e below (T0.setTop (mkF m 132 #[.val (.long q1), .second, .val (.int p2), .val (.int p3), .val (.int p4), .val (.int d), .val (.int f), .val (.int (f + d)), .val (.long u), .second, .val (.int (((p4.toUInt32 >>> ((2 : Int32) &&& 31).toUInt32).toInt32) &&& (3 : Int32))), .val (.long b), .second, .unset, .unset, .unset, .unset] [(.int d)])) _
  refine XS.bipush X0.here hx rfl (hb hby at_132) ?_
  show Steps p.tables e below (T0.setTop (mkF m 134 #[.val (.long q1), .second, .val (.int p2), .val (.int p3), .val (.int p4), .val (.int d), .val (.int f), .val (.int (f + d)), .val (.long u), .second, .val (.int (((p4.toUInt32 >>> ((2 : Int32) &&& 31).toUInt32).toInt32) &&& (3 : Int32))), .val (.long b), .second, .unset, .unset, .unset, .unset] [(.int (18 : Int32)), (.int d)])) _
  refine XS.icmpYes X0.here hx rfl (pc0 := 134) (pc' := 145) rfl (hb hby at_134) rfl (flt hc134).2.2.2 (by decide) (by decide) ?_
  show Steps p.tables e below (T0.setTop (mkF m 145 #[.val (.long q1), .second, .val (.int p2), .val (.int p3), .val (.int p4), .val (.int d), .val (.int f), .val (.int (f + d)), .val (.long u), .second, .val (.int (((p4.toUInt32 >>> ((2 : Int32) &&& 31).toUInt32).toInt32) &&& (3 : Int32))), .val (.long b), .second, .unset, .unset, .unset, .unset] [])) _
  refine XS.iload X0.here hx rfl (hb hby at_145) rfl ?_
  show Steps p.tables e below (T0.setTop (mkF m 147 #[.val (.long q1), .second, .val (.int p2), .val (.int p3), .val (.int p4), .val (.int d), .val (.int f), .val (.int (f + d)), .val (.long u), .second, .val (.int (((p4.toUInt32 >>> ((2 : Int32) &&& 31).toUInt32).toInt32) &&& (3 : Int32))), .val (.long b), .second, .unset, .unset, .unset, .unset] [(.int d)])) _
  refine st5 _ ?_
  show Steps p.tables e below (T5.setTop (mkF m 150 #[.val (.long q1), .second, .val (.int p2), .val (.int p3), .val (.int p4), .val (.int d), .val (.int f), .val (.int (f + d)), .val (.long u), .second, .val (.int (((p4.toUInt32 >>> ((2 : Int32) &&& 31).toUInt32).toInt32) &&& (3 : Int32))), .val (.long b), .second, .unset, .unset, .unset, .unset] [(.long v0)])) _
  refine XS.lstore X5.here hx rfl (hb hby at_150) rfl (l' := #[.val (.long q1), .second, .val (.int p2), .val (.int p3), .val (.int p4), .val (.int d), .val (.int f), .val (.int (f + d)), .val (.long u), .second, .val (.int (((p4.toUInt32 >>> ((2 : Int32) &&& 31).toUInt32).toInt32) &&& (3 : Int32))), .val (.long b), .second, .val (.long v0), .second, .unset, .unset]) rfl ?_
  show Steps p.tables e below (T5.setTop (mkF m 152 #[.val (.long q1), .second, .val (.int p2), .val (.int p3), .val (.int p4), .val (.int d), .val (.int f), .val (.int (f + d)), .val (.long u), .second, .val (.int (((p4.toUInt32 >>> ((2 : Int32) &&& 31).toUInt32).toInt32) &&& (3 : Int32))), .val (.long b), .second, .val (.long v0), .second, .unset, .unset] [])) _
  refine XS.bipush X5.here hx rfl (hb hby at_152) ?_
  show Steps p.tables e below (T5.setTop (mkF m 154 #[.val (.long q1), .second, .val (.int p2), .val (.int p3), .val (.int p4), .val (.int d), .val (.int f), .val (.int (f + d)), .val (.long u), .second, .val (.int (((p4.toUInt32 >>> ((2 : Int32) &&& 31).toUInt32).toInt32) &&& (3 : Int32))), .val (.long b), .second, .val (.long v0), .second, .unset, .unset] [(.int (18 : Int32))])) _
  refine st6 _ ?_
  show Steps p.tables e below (T6.setTop (mkF m 157 #[.val (.long q1), .second, .val (.int p2), .val (.int p3), .val (.int p4), .val (.int d), .val (.int f), .val (.int (f + d)), .val (.long u), .second, .val (.int (((p4.toUInt32 >>> ((2 : Int32) &&& 31).toUInt32).toInt32) &&& (3 : Int32))), .val (.long b), .second, .val (.long v0), .second, .unset, .unset] [(.long (1000000000000000000 : Int64))])) _
  refine XS.lconst X6.here hx rfl (hb hby at_157) ?_
  show Steps p.tables e below (T6.setTop (mkF m 158 #[.val (.long q1), .second, .val (.int p2), .val (.int p3), .val (.int p4), .val (.int d), .val (.int f), .val (.int (f + d)), .val (.long u), .second, .val (.int (((p4.toUInt32 >>> ((2 : Int32) &&& 31).toUInt32).toInt32) &&& (3 : Int32))), .val (.long b), .second, .val (.long v0), .second, .unset, .unset] [(.long (1 : Int64)), (.long (1000000000000000000 : Int64))])) _
  refine XS.lsub X6.here hx rfl (hb hby at_158) rfl ?_
  show Steps p.tables e below (T6.setTop (mkF m 159 #[.val (.long q1), .second, .val (.int p2), .val (.int p3), .val (.int p4), .val (.int d), .val (.int f), .val (.int (f + d)), .val (.long u), .second, .val (.int (((p4.toUInt32 >>> ((2 : Int32) &&& 31).toUInt32).toInt32) &&& (3 : Int32))), .val (.long b), .second, .val (.long v0), .second, .unset, .unset] [(.long ((1000000000000000000 : Int64) - (1 : Int64)))])) _
  refine XS.lload X6.here hx rfl (hb hby at_159) rfl ?_
  show Steps p.tables e below (T6.setTop (mkF m 161 #[.val (.long q1), .second, .val (.int p2), .val (.int p3), .val (.int p4), .val (.int d), .val (.int f), .val (.int (f + d)), .val (.long u), .second, .val (.int (((p4.toUInt32 >>> ((2 : Int32) &&& 31).toUInt32).toInt32) &&& (3 : Int32))), .val (.long b), .second, .val (.long v0), .second, .unset, .unset] [(.long v0), (.long ((1000000000000000000 : Int64) - (1 : Int64)))])) _
  refine XS.ldiv X6.here hx rfl (hb hby at_161) rfl hnz161 ?_
  show Steps p.tables e below (T6.setTop (mkF m 162 #[.val (.long q1), .second, .val (.int p2), .val (.int p3), .val (.int p4), .val (.int d), .val (.int f), .val (.int (f + d)), .val (.long u), .second, .val (.int (((p4.toUInt32 >>> ((2 : Int32) &&& 31).toUInt32).toInt32) &&& (3 : Int32))), .val (.long b), .second, .val (.long v0), .second, .unset, .unset] [(.long (((1000000000000000000 : Int64) - (1 : Int64)) / v0))])) _
  refine XS.lstore X6.here hx rfl (hb hby at_162) rfl (l' := #[.val (.long q1), .second, .val (.int p2), .val (.int p3), .val (.int p4), .val (.int d), .val (.int f), .val (.int (f + d)), .val (.long u), .second, .val (.int (((p4.toUInt32 >>> ((2 : Int32) &&& 31).toUInt32).toInt32) &&& (3 : Int32))), .val (.long b), .second, .val (.long v0), .second, .val (.long (((1000000000000000000 : Int64) - (1 : Int64)) / v0)), .second]) rfl ?_
  show Steps p.tables e below (T6.setTop (mkF m 164 #[.val (.long q1), .second, .val (.int p2), .val (.int p3), .val (.int p4), .val (.int d), .val (.int f), .val (.int (f + d)), .val (.long u), .second, .val (.int (((p4.toUInt32 >>> ((2 : Int32) &&& 31).toUInt32).toInt32) &&& (3 : Int32))), .val (.long b), .second, .val (.long v0), .second, .val (.long (((1000000000000000000 : Int64) - (1 : Int64)) / v0)), .second] [])) _
  refine XS.lload X6.here hx rfl (hb hby at_164) rfl ?_
  show Steps p.tables e below (T6.setTop (mkF m 166 #[.val (.long q1), .second, .val (.int p2), .val (.int p3), .val (.int p4), .val (.int d), .val (.int f), .val (.int (f + d)), .val (.long u), .second, .val (.int (((p4.toUInt32 >>> ((2 : Int32) &&& 31).toUInt32).toInt32) &&& (3 : Int32))), .val (.long b), .second, .val (.long v0), .second, .val (.long (((1000000000000000000 : Int64) - (1 : Int64)) / v0)), .second] [(.long u)])) _
  refine XS.lload X6.here hx rfl (hb hby at_166) rfl ?_
  show Steps p.tables e below (T6.setTop (mkF m 168 #[.val (.long q1), .second, .val (.int p2), .val (.int p3), .val (.int p4), .val (.int d), .val (.int f), .val (.int (f + d)), .val (.long u), .second, .val (.int (((p4.toUInt32 >>> ((2 : Int32) &&& 31).toUInt32).toInt32) &&& (3 : Int32))), .val (.long b), .second, .val (.long v0), .second, .val (.long (((1000000000000000000 : Int64) - (1 : Int64)) / v0)), .second] [(.long (((1000000000000000000 : Int64) - (1 : Int64)) / v0)), (.long u)])) _
  refine XS.lneg X6.here hx rfl (hb hby at_168) rfl ?_
  show Steps p.tables e below (T6.setTop (mkF m 169 #[.val (.long q1), .second, .val (.int p2), .val (.int p3), .val (.int p4), .val (.int d), .val (.int f), .val (.int (f + d)), .val (.long u), .second, .val (.int (((p4.toUInt32 >>> ((2 : Int32) &&& 31).toUInt32).toInt32) &&& (3 : Int32))), .val (.long b), .second, .val (.long v0), .second, .val (.long (((1000000000000000000 : Int64) - (1 : Int64)) / v0)), .second] [(.long (-(((1000000000000000000 : Int64) - (1 : Int64)) / v0))), (.long u)])) _
  refine XS.lcmp X6.here hx rfl (hb hby at_169) rfl ?_
  show Steps p.tables e below (T6.setTop (mkF m 170 #[.val (.long q1), .second, .val (.int p2), .val (.int p3), .val (.int p4), .val (.int d), .val (.int f), .val (.int (f + d)), .val (.long u), .second, .val (.int (((p4.toUInt32 >>> ((2 : Int32) &&& 31).toUInt32).toInt32) &&& (3 : Int32))), .val (.long b), .second, .val (.long v0), .second, .val (.long (((1000000000000000000 : Int64) - (1 : Int64)) / v0)), .second] [(.int (lcmpW u (-(((1000000000000000000 : Int64) - (1 : Int64)) / v0))))])) _
  refine XS.ifNo X6.here hx rfl (hb hby at_170) rfl ((if0 _ _).trans (flt hc170).1) ?_
  show Steps p.tables e below (T6.setTop (mkF m 173 #[.val (.long q1), .second, .val (.int p2), .val (.int p3), .val (.int p4), .val (.int d), .val (.int f), .val (.int (f + d)), .val (.long u), .second, .val (.int (((p4.toUInt32 >>> ((2 : Int32) &&& 31).toUInt32).toInt32) &&& (3 : Int32))), .val (.long b), .second, .val (.long v0), .second, .val (.long (((1000000000000000000 : Int64) - (1 : Int64)) / v0)), .second] [])) _
  refine XS.lload X6.here hx rfl (hb hby at_173) rfl ?_
  show Steps p.tables e below (T6.setTop (mkF m 175 #[.val (.long q1), .second, .val (.int p2), .val (.int p3), .val (.int p4), .val (.int d), .val (.int f), .val (.int (f + d)), .val (.long u), .second, .val (.int (((p4.toUInt32 >>> ((2 : Int32) &&& 31).toUInt32).toInt32) &&& (3 : Int32))), .val (.long b), .second, .val (.long v0), .second, .val (.long (((1000000000000000000 : Int64) - (1 : Int64)) / v0)), .second] [(.long u)])) _
  refine XS.lload X6.here hx rfl (hb hby at_175) rfl ?_
  show Steps p.tables e below (T6.setTop (mkF m 177 #[.val (.long q1), .second, .val (.int p2), .val (.int p3), .val (.int p4), .val (.int d), .val (.int f), .val (.int (f + d)), .val (.long u), .second, .val (.int (((p4.toUInt32 >>> ((2 : Int32) &&& 31).toUInt32).toInt32) &&& (3 : Int32))), .val (.long b), .second, .val (.long v0), .second, .val (.long (((1000000000000000000 : Int64) - (1 : Int64)) / v0)), .second] [(.long (((1000000000000000000 : Int64) - (1 : Int64)) / v0)), (.long u)])) _
  refine XS.lcmp X6.here hx rfl (hb hby at_177) rfl ?_
  show Steps p.tables e below (T6.setTop (mkF m 178 #[.val (.long q1), .second, .val (.int p2), .val (.int p3), .val (.int p4), .val (.int d), .val (.int f), .val (.int (f + d)), .val (.long u), .second, .val (.int (((p4.toUInt32 >>> ((2 : Int32) &&& 31).toUInt32).toInt32) &&& (3 : Int32))), .val (.long b), .second, .val (.long v0), .second, .val (.long (((1000000000000000000 : Int64) - (1 : Int64)) / v0)), .second] [(.int (lcmpW u (((1000000000000000000 : Int64) - (1 : Int64)) / v0)))])) _
  refine XS.ifYes X6.here hx rfl (pc0 := 178) (pc' := 189) rfl (hb hby at_178) rfl ((if0 _ _).trans (tlt hc178).2.2.1) (by decide) (by decide) ?_
  show Steps p.tables e below (T6.setTop (mkF m 189 #[.val (.long q1), .second, .val (.int p2), .val (.int p3), .val (.int p4), .val (.int d), .val (.int f), .val (.int (f + d)), .val (.long u), .second, .val (.int (((p4.toUInt32 >>> ((2 : Int32) &&& 31).toUInt32).toInt32) &&& (3 : Int32))), .val (.long b), .second, .val (.long v0), .second, .val (.long (((1000000000000000000 : Int64) - (1 : Int64)) / v0)), .second] [])) _
  refine X6.ldc2Long hx hown (mvT hZ (hw _ (List.mem_of_getElem? (i := 31) rfl))) (g := (mkF m 189 #[.val (.long q1), .second, .val (.int p2), .val (.int p3), .val (.int p4), .val (.int d), .val (.int f), .val (.int (f + d)), .val (.long u), .second, .val (.int (((p4.toUInt32 >>> ((2 : Int32) &&& 31).toUInt32).toInt32) &&& (3 : Int32))), .val (.long b), .second, .val (.long v0), .second, .val (.long (((1000000000000000000 : Int64) - (1 : Int64)) / v0)), .second] [])) rfl (hb hby at_189) _ ?_
  show Steps p.tables e below (T6.setTop (mkF m 192 #[.val (.long q1), .second, .val (.int p2), .val (.int p3), .val (.int p4), .val (.int d), .val (.int f), .val (.int (f + d)), .val (.long u), .second, .val (.int (((p4.toUInt32 >>> ((2 : Int32) &&& 31).toUInt32).toInt32) &&& (3 : Int32))), .val (.long b), .second, .val (.long v0), .second, .val (.long (((1000000000000000000 : Int64) - (1 : Int64)) / v0)), .second] [(.long (-9223372036854775808 : Int64))])) _
  refine XS.lstore X6.here hx rfl (hb hby at_192) rfl (l' := #[.val (.long q1), .second, .val (.int p2), .val (.int p3), .val (.int p4), .val (.int d), .val (.int f), .val (.int (f + d)), .val (.long u), .second, .val (.int (((p4.toUInt32 >>> ((2 : Int32) &&& 31).toUInt32).toInt32) &&& (3 : Int32))), .val (.long (-9223372036854775808 : Int64)), .second, .val (.long v0), .second, .val (.long (((1000000000000000000 : Int64) - (1 : Int64)) / v0)), .second]) rfl ?_
  exact kt
set_option maxRecDepth 65536 in
set_option maxHeartbeats 40000000 in
theorem tn0_130_194_D3b {p : Program} {l : Launch} {e : Env} {s : State} {m : MethodId} {args : Array Value} {below : List Frame} {meth : Method} {c : Code} {T0 : State} {locs : List Loc} {n0 : Nat} {Z : State} {a0 : Array Value} {h0 : Heap} (q1 : Int64) (p2 : Int32) (p3 : Int32) (p4 : Int32) (d : Int32) (f : Int32) (u : Int64) (b : Int64) (v0 : Int64)
    (X0 : Stand p l e room_1 s m args below meth c T0 locs 1 19) (hx : p.tables.exec = Jvm.exec) (hZ : Z.Warmed39 s.vm) (hw : ∀ d ∈ tables_1, d.before a0 Z = true) (hby : c.code = code) (hml : c.maxLocals = 17) (hown : s.vm.findClass "com/example/tollwise/tollwise/DecimalsRescaledPinLaw" = some m.cls) (e0 : T0.heap = h0) (N0 : Fr n0 locs) (Z0 : n0 ≤ h0.size) (hp0 : ¬ d < 0 ∧ d < (19 : Int32)) (hv0 : own_pows.getD (d).toNatClampNeg (.long (0 : Int64)) = .long v0) (hp1 : ¬ (18 : Int32) < 0 ∧ (18 : Int32) < (19 : Int32)) (hv1 : own_pows.getD ((18 : Int32)).toNatClampNeg (.long (0 : Int64)) = .long (1000000000000000000 : Int64)) (hc134 : ¬ ((18 : Int32) < d)) (hnz161 : ¬ (v0 = (0 : Int64))) (hc170 : ¬ ((lcmpW u (-(((1000000000000000000 : Int64) - (1 : Int64)) / v0))) < (0 : Int32))) (hc178 : ¬ ((0 : Int32) < (lcmpW u (((1000000000000000000 : Int64) - (1 : Int64)) / v0)))) :
    ∃ (T' : State) (L' : List Loc), Stand p l e room_1 s m args below meth c T' L' 3 57 ∧ Fr n0 L' ∧ Keep h0 T'.heap [] ∧
      ∀ target, Steps p.tables e below (T'.setTop (mkF m 194 #[.val (.long q1), .second, .val (.int p2), .val (.int p3), .val (.int p4), .val (.int d), .val (.int f), .val (.int (f + d)), .val (.long u), .second, .val (.int (((p4.toUInt32 >>> ((2 : Int32) &&& 31).toUInt32).toInt32) &&& (3 : Int32))), .val (.long (u * v0)), .second, .val (.long v0), .second, .val (.long (((1000000000000000000 : Int64) - (1 : Int64)) / v0)), .second] [])) target → Steps p.tables e below (T0.setTop (mkF m 130 #[.val (.long q1), .second, .val (.int p2), .val (.int p3), .val (.int p4), .val (.int d), .val (.int f), .val (.int (f + d)), .val (.long u), .second, .val (.int (((p4.toUInt32 >>> ((2 : Int32) &&& 31).toUInt32).toInt32) &&& (3 : Int32))), .val (.long b), .second, .unset, .unset, .unset, .unset] [])) target := by
  obtain ⟨_, _, ⟨T5, L5, k5, n5⟩, -, X5, ⟨Lc5, hQ5, l5, y5, z5⟩, st5⟩ := Jvm.LawKit.callS X0 hx (y := (⟨"com/example/tollwise/tollwise/DecimalsRescaledPinLaw", "pow10", "(I)J"⟩ : MethodName)) hown (mvT hZ (hw _ (List.mem_of_getElem? (i := 2) rfl))) (mvT hZ (hw _ (List.mem_of_getElem? (i := 3) rfl))) (mvT hZ (hw _ (List.mem_of_getElem? (i := 4) rfl))) (mvT hZ (hw _ (List.mem_of_getElem? (i := 5) rfl))) (by decide) (backOf (W := 0) (rm1 l Z a0 hw [] d v0 h0 n0 Z0 hp0 hv0) hZ (hw _ (List.mem_of_getElem? (i := 5) rfl)) (hw _ (List.mem_of_getElem? (i := 4) rfl)) (by decide) (by decide)) (g := (mkF m 147 #[.val (.long q1), .second, .val (.int p2), .val (.int p3), .val (.int p4), .val (.int d), .val (.int f), .val (.int (f + d)), .val (.long u), .second, .val (.int (((p4.toUInt32 >>> ((2 : Int32) &&& 31).toUInt32).toInt32) &&& (3 : Int32))), .val (.long b), .second, .unset, .unset, .unset, .unset] [(.int d)])) rfl (by rw [hml]; rfl) (argsL := [(.int d)]) (rest := []) (lenOf pd_0_0 rfl) rfl (by show 2 * 0 + _ ≤ _; exact Nat.le_of_eq rfl) (hb hby at_147) (fun _ _ => ⟨rfl, e0, (by decide : 1 + 0 + 1 ≤ _), (by decide : 19 + 0 + 19 ≤ _)⟩)
  dsimp only [Pt.U, Pt.locs, Pt.cells, Pt.slots] at X5 l5 y5 z5 st5 hQ5
  subst l5 y5 z5
  obtain ⟨rfl, N5q, K5⟩ := hQ5
  have N5 := Fr.app N0 N5q
  have KC5 : Keep h0 T5.heap [] := (Keep.refl h0 []).trans K5 (fun _ q => nomatch q)
  obtain ⟨_, _, ⟨T6, L6, k6, n6⟩, -, X6, ⟨Lc6, hQ6, l6, y6, z6⟩, st6⟩ := Jvm.LawKit.callS X5 hx (y := (⟨"com/example/tollwise/tollwise/DecimalsRescaledPinLaw", "pow10", "(I)J"⟩ : MethodName)) hown (mvT hZ (hw _ (List.mem_of_getElem? (i := 2) rfl))) (mvT hZ (hw _ (List.mem_of_getElem? (i := 3) rfl))) (mvT hZ (hw _ (List.mem_of_getElem? (i := 4) rfl))) (mvT hZ (hw _ (List.mem_of_getElem? (i := 5) rfl))) (by decide) (backOf (W := 0) (rm1 l Z a0 hw [] (18 : Int32) (1000000000000000000 : Int64) T5.heap n0 (Nat.le_trans Z0 K5.1) hp1 hv1) hZ (hw _ (List.mem_of_getElem? (i := 5) rfl)) (hw _ (List.mem_of_getElem? (i := 4) rfl)) (by decide) (by decide)) (g := (mkF m 154 #[.val (.long q1), .second, .val (.int p2), .val (.int p3), .val (.int p4), .val (.int d), .val (.int f), .val (.int (f + d)), .val (.long u), .second, .val (.int (((p4.toUInt32 >>> ((2 : Int32) &&& 31).toUInt32).toInt32) &&& (3 : Int32))), .val (.long b), .second, .val (.long v0), .second, .unset, .unset] [(.int (18 : Int32))])) rfl (by rw [hml]; rfl) (argsL := [(.int (18 : Int32))]) (rest := []) (lenOf pd_0_0 rfl) rfl (by show 2 * 0 + _ ≤ _; exact Nat.le_of_eq rfl) (hb hby at_154) (fun _ _ => ⟨rfl, rfl, (by decide : 1 + 1 + 1 ≤ _), (by decide : 19 + 19 + 19 ≤ _)⟩)
  dsimp only [Pt.U, Pt.locs, Pt.cells, Pt.slots] at X6 l6 y6 z6 st6 hQ6
  subst l6 y6 z6
  obtain ⟨rfl, N6q, K6⟩ := hQ6
  have N6 := Fr.app N5 N6q
  have KC6 : Keep h0 T6.heap [] := KC5.trans K6 (fun _ q => nomatch q)
  refine ⟨T6, _, X6, N6, KC6, fun target kt => ?_⟩
  show Steps p.tables e below (T0.setTop (mkF m 130 #[.val (.long q1), .second, .val (.int p2), .val (.int p3), .val (.int p4), .val (.int d), .val (.int f), .val (.int (f + d)), .val (.long u), .second, .val (.int (((p4.toUInt32 >>> ((2 : Int32) &&& 31).toUInt32).toInt32) &&& (3 : Int32))), .val (.long b), .second, .unset, .unset, .unset, .unset] [])) _
  refine XS.iload X0.here hx rfl (hb hby at_130) rfl ?_
  show Steps p.tables e below (T0.setTop (mkF m 132 #[.val (.long q1), .second, .val (.int p2), .val (.int p3), .val (.int p4), .val (.int d), .val (.int f), .val (.int (f + d)), .val (.long u), .second, .val (.int (((p4.toUInt32 >>> ((2 : Int32) &&& 31).toUInt32).toInt32) &&& (3 : Int32))), .val (.long b), .second, .unset, .unset, .unset, .unset] [(.int d)])) _
  refine XS.bipush X0.here hx rfl (hb hby at_132) ?_
  show Steps p.tables e below (T0.setTop (mkF m 134 #[.val (.long q1), .second, .val (.int p2), .val (.int p3), .val (.int p4), .val (.int d), .val (.int f), .val (.int (f + d)), .val (.long u), .second, .val (.int (((p4.toUInt32 >>> ((2 : Int32) &&& 31).toUInt32).toInt32) &&& (3 : Int32))), .val (.long b), .second, .unset, .unset, .unset, .unset] [(.int (18 : Int32)), (.int d)])) _
  refine XS.icmpYes X0.here hx rfl (pc0 := 134) (pc' := 145) rfl (hb hby at_134) rfl (flt hc134).2.2.2 (by decide) (by decide) ?_
  show Steps p.tables e below (T0.setTop (mkF m 145 #[.val (.long q1), .second, .val (.int p2), .val (.int p3), .val (.int p4), .val (.int d), .val (.int f), .val (.int (f + d)), .val (.long u), .second, .val (.int (((p4.toUInt32 >>> ((2 : Int32) &&& 31).toUInt32).toInt32) &&& (3 : Int32))), .val (.long b), .second, .unset, .unset, .unset, .unset] [])) _
  refine XS.iload X0.here hx rfl (hb hby at_145) rfl ?_
  show Steps p.tables e below (T0.setTop (mkF m 147 #[.val (.long q1), .second, .val (.int p2), .val (.int p3), .val (.int p4), .val (.int d), .val (.int f), .val (.int (f + d)), .val (.long u), .second, .val (.int (((p4.toUInt32 >>> ((2 : Int32) &&& 31).toUInt32).toInt32) &&& (3 : Int32))), .val (.long b), .second, .unset, .unset, .unset, .unset] [(.int d)])) _
  refine st5 _ ?_
  show Steps p.tables e below (T5.setTop (mkF m 150 #[.val (.long q1), .second, .val (.int p2), .val (.int p3), .val (.int p4), .val (.int d), .val (.int f), .val (.int (f + d)), .val (.long u), .second, .val (.int (((p4.toUInt32 >>> ((2 : Int32) &&& 31).toUInt32).toInt32) &&& (3 : Int32))), .val (.long b), .second, .unset, .unset, .unset, .unset] [(.long v0)])) _
  refine XS.lstore X5.here hx rfl (hb hby at_150) rfl (l' := #[.val (.long q1), .second, .val (.int p2), .val (.int p3), .val (.int p4), .val (.int d), .val (.int f), .val (.int (f + d)), .val (.long u), .second, .val (.int (((p4.toUInt32 >>> ((2 : Int32) &&& 31).toUInt32).toInt32) &&& (3 : Int32))), .val (.long b), .second, .val (.long v0), .second, .unset, .unset]) rfl ?_
  show Steps p.tables e below (T5.setTop (mkF m 152 #[.val (.long q1), .second, .val (.int p2), .val (.int p3), .val (.int p4), .val (.int d), .val (.int f), .val (.int (f + d)), .val (.long u), .second, .val (.int (((p4.toUInt32 >>> ((2 : Int32) &&& 31).toUInt32).toInt32) &&& (3 : Int32))), .val (.long b), .second, .val (.long v0), .second, .unset, .unset] [])) _
  refine XS.bipush X5.here hx rfl (hb hby at_152) ?_
  show Steps p.tables e below (T5.setTop (mkF m 154 #[.val (.long q1), .second, .val (.int p2), .val (.int p3), .val (.int p4), .val (.int d), .val (.int f), .val (.int (f + d)), .val (.long u), .second, .val (.int (((p4.toUInt32 >>> ((2 : Int32) &&& 31).toUInt32).toInt32) &&& (3 : Int32))), .val (.long b), .second, .val (.long v0), .second, .unset, .unset] [(.int (18 : Int32))])) _
  refine st6 _ ?_
  show Steps p.tables e below (T6.setTop (mkF m 157 #[.val (.long q1), .second, .val (.int p2), .val (.int p3), .val (.int p4), .val (.int d), .val (.int f), .val (.int (f + d)), .val (.long u), .second, .val (.int (((p4.toUInt32 >>> ((2 : Int32) &&& 31).toUInt32).toInt32) &&& (3 : Int32))), .val (.long b), .second, .val (.long v0), .second, .unset, .unset] [(.long (1000000000000000000 : Int64))])) _
  refine XS.lconst X6.here hx rfl (hb hby at_157) ?_
  show Steps p.tables e below (T6.setTop (mkF m 158 #[.val (.long q1), .second, .val (.int p2), .val (.int p3), .val (.int p4), .val (.int d), .val (.int f), .val (.int (f + d)), .val (.long u), .second, .val (.int (((p4.toUInt32 >>> ((2 : Int32) &&& 31).toUInt32).toInt32) &&& (3 : Int32))), .val (.long b), .second, .val (.long v0), .second, .unset, .unset] [(.long (1 : Int64)), (.long (1000000000000000000 : Int64))])) _
  refine XS.lsub X6.here hx rfl (hb hby at_158) rfl ?_
  show Steps p.tables e below (T6.setTop (mkF m 159 #[.val (.long q1), .second, .val (.int p2), .val (.int p3), .val (.int p4), .val (.int d), .val (.int f), .val (.int (f + d)), .val (.long u), .second, .val (.int (((p4.toUInt32 >>> ((2 : Int32) &&& 31).toUInt32).toInt32) &&& (3 : Int32))), .val (.long b), .second, .val (.long v0), .second, .unset, .unset] [(.long ((1000000000000000000 : Int64) - (1 : Int64)))])) _
  refine XS.lload X6.here hx rfl (hb hby at_159) rfl ?_
  show Steps p.tables e below (T6.setTop (mkF m 161 #[.val (.long q1), .second, .val (.int p2), .val (.int p3), .val (.int p4), .val (.int d), .val (.int f), .val (.int (f + d)), .val (.long u), .second, .val (.int (((p4.toUInt32 >>> ((2 : Int32) &&& 31).toUInt32).toInt32) &&& (3 : Int32))), .val (.long b), .second, .val (.long v0), .second, .unset, .unset] [(.long v0), (.long ((1000000000000000000 : Int64) - (1 : Int64)))])) _
  refine XS.ldiv X6.here hx rfl (hb hby at_161) rfl hnz161 ?_
  show Steps p.tables e below (T6.setTop (mkF m 162 #[.val (.long q1), .second, .val (.int p2), .val (.int p3), .val (.int p4), .val (.int d), .val (.int f), .val (.int (f + d)), .val (.long u), .second, .val (.int (((p4.toUInt32 >>> ((2 : Int32) &&& 31).toUInt32).toInt32) &&& (3 : Int32))), .val (.long b), .second, .val (.long v0), .second, .unset, .unset] [(.long (((1000000000000000000 : Int64) - (1 : Int64)) / v0))])) _
  refine XS.lstore X6.here hx rfl (hb hby at_162) rfl (l' := #[.val (.long q1), .second, .val (.int p2), .val (.int p3), .val (.int p4), .val (.int d), .val (.int f), .val (.int (f + d)), .val (.long u), .second, .val (.int (((p4.toUInt32 >>> ((2 : Int32) &&& 31).toUInt32).toInt32) &&& (3 : Int32))), .val (.long b), .second, .val (.long v0), .second, .val (.long (((1000000000000000000 : Int64) - (1 : Int64)) / v0)), .second]) rfl ?_
  show Steps p.tables e below (T6.setTop (mkF m 164 #[.val (.long q1), .second, .val (.int p2), .val (.int p3), .val (.int p4), .val (.int d), .val (.int f), .val (.int (f + d)), .val (.long u), .second, .val (.int (((p4.toUInt32 >>> ((2 : Int32) &&& 31).toUInt32).toInt32) &&& (3 : Int32))), .val (.long b), .second, .val (.long v0), .second, .val (.long (((1000000000000000000 : Int64) - (1 : Int64)) / v0)), .second] [])) _
  refine XS.lload X6.here hx rfl (hb hby at_164) rfl ?_
  show Steps p.tables e below (T6.setTop (mkF m 166 #[.val (.long q1), .second, .val (.int p2), .val (.int p3), .val (.int p4), .val (.int d), .val (.int f), .val (.int (f + d)), .val (.long u), .second, .val (.int (((p4.toUInt32 >>> ((2 : Int32) &&& 31).toUInt32).toInt32) &&& (3 : Int32))), .val (.long b), .second, .val (.long v0), .second, .val (.long (((1000000000000000000 : Int64) - (1 : Int64)) / v0)), .second] [(.long u)])) _
  refine XS.lload X6.here hx rfl (hb hby at_166) rfl ?_
  show Steps p.tables e below (T6.setTop (mkF m 168 #[.val (.long q1), .second, .val (.int p2), .val (.int p3), .val (.int p4), .val (.int d), .val (.int f), .val (.int (f + d)), .val (.long u), .second, .val (.int (((p4.toUInt32 >>> ((2 : Int32) &&& 31).toUInt32).toInt32) &&& (3 : Int32))), .val (.long b), .second, .val (.long v0), .second, .val (.long (((1000000000000000000 : Int64) - (1 : Int64)) / v0)), .second] [(.long (((1000000000000000000 : Int64) - (1 : Int64)) / v0)), (.long u)])) _
  refine XS.lneg X6.here hx rfl (hb hby at_168) rfl ?_
  show Steps p.tables e below (T6.setTop (mkF m 169 #[.val (.long q1), .second, .val (.int p2), .val (.int p3), .val (.int p4), .val (.int d), .val (.int f), .val (.int (f + d)), .val (.long u), .second, .val (.int (((p4.toUInt32 >>> ((2 : Int32) &&& 31).toUInt32).toInt32) &&& (3 : Int32))), .val (.long b), .second, .val (.long v0), .second, .val (.long (((1000000000000000000 : Int64) - (1 : Int64)) / v0)), .second] [(.long (-(((1000000000000000000 : Int64) - (1 : Int64)) / v0))), (.long u)])) _
  refine XS.lcmp X6.here hx rfl (hb hby at_169) rfl ?_
  show Steps p.tables e below (T6.setTop (mkF m 170 #[.val (.long q1), .second, .val (.int p2), .val (.int p3), .val (.int p4), .val (.int d), .val (.int f), .val (.int (f + d)), .val (.long u), .second, .val (.int (((p4.toUInt32 >>> ((2 : Int32) &&& 31).toUInt32).toInt32) &&& (3 : Int32))), .val (.long b), .second, .val (.long v0), .second, .val (.long (((1000000000000000000 : Int64) - (1 : Int64)) / v0)), .second] [(.int (lcmpW u (-(((1000000000000000000 : Int64) - (1 : Int64)) / v0))))])) _
  refine XS.ifNo X6.here hx rfl (hb hby at_170) rfl ((if0 _ _).trans (flt hc170).1) ?_
  show Steps p.tables e below (T6.setTop (mkF m 173 #[.val (.long q1), .second, .val (.int p2), .val (.int p3), .val (.int p4), .val (.int d), .val (.int f), .val (.int (f + d)), .val (.long u), .second, .val (.int (((p4.toUInt32 >>> ((2 : Int32) &&& 31).toUInt32).toInt32) &&& (3 : Int32))), .val (.long b), .second, .val (.long v0), .second, .val (.long (((1000000000000000000 : Int64) - (1 : Int64)) / v0)), .second] [])) _
  refine XS.lload X6.here hx rfl (hb hby at_173) rfl ?_
  show Steps p.tables e below (T6.setTop (mkF m 175 #[.val (.long q1), .second, .val (.int p2), .val (.int p3), .val (.int p4), .val (.int d), .val (.int f), .val (.int (f + d)), .val (.long u), .second, .val (.int (((p4.toUInt32 >>> ((2 : Int32) &&& 31).toUInt32).toInt32) &&& (3 : Int32))), .val (.long b), .second, .val (.long v0), .second, .val (.long (((1000000000000000000 : Int64) - (1 : Int64)) / v0)), .second] [(.long u)])) _
  refine XS.lload X6.here hx rfl (hb hby at_175) rfl ?_
  show Steps p.tables e below (T6.setTop (mkF m 177 #[.val (.long q1), .second, .val (.int p2), .val (.int p3), .val (.int p4), .val (.int d), .val (.int f), .val (.int (f + d)), .val (.long u), .second, .val (.int (((p4.toUInt32 >>> ((2 : Int32) &&& 31).toUInt32).toInt32) &&& (3 : Int32))), .val (.long b), .second, .val (.long v0), .second, .val (.long (((1000000000000000000 : Int64) - (1 : Int64)) / v0)), .second] [(.long (((1000000000000000000 : Int64) - (1 : Int64)) / v0)), (.long u)])) _
  refine XS.lcmp X6.here hx rfl (hb hby at_177) rfl ?_
  show Steps p.tables e below (T6.setTop (mkF m 178 #[.val (.long q1), .second, .val (.int p2), .val (.int p3), .val (.int p4), .val (.int d), .val (.int f), .val (.int (f + d)), .val (.long u), .second, .val (.int (((p4.toUInt32 >>> ((2 : Int32) &&& 31).toUInt32).toInt32) &&& (3 : Int32))), .val (.long b), .second, .val (.long v0), .second, .val (.long (((1000000000000000000 : Int64) - (1 : Int64)) / v0)), .second] [(.int (lcmpW u (((1000000000000000000 : Int64) - (1 : Int64)) / v0)))])) _
  refine XS.ifNo X6.here hx rfl (hb hby at_178) rfl ((if0 _ _).trans (flt hc178).2.2.1) ?_
  show Steps p.tables e below (T6.setTop (mkF m 181 #[.val (.long q1), .second, .val (.int p2), .val (.int p3), .val (.int p4), .val (.int d), .val (.int f), .val (.int (f + d)), .val (.long u), .second, .val (.int (((p4.toUInt32 >>> ((2 : Int32) &&& 31).toUInt32).toInt32) &&& (3 : Int32))), .val (.long b), .second, .val (.long v0), .second, .val (.long (((1000000000000000000 : Int64) - (1 : Int64)) / v0)), .second] [])) _
  refine XS.lload X6.here hx rfl (hb hby at_181) rfl ?_
  show Steps p.tables e below (T6.setTop (mkF m 183 #[.val (.long q1), .second, .val (.int p2), .val (.int p3), .val (.int p4), .val (.int d), .val (.int f), .val (.int (f + d)), .val (.long u), .second, .val (.int (((p4.toUInt32 >>> ((2 : Int32) &&& 31).toUInt32).toInt32) &&& (3 : Int32))), .val (.long b), .second, .val (.long v0), .second, .val (.long (((1000000000000000000 : Int64) - (1 : Int64)) / v0)), .second] [(.long u)])) _
  refine XS.lload X6.here hx rfl (hb hby at_183) rfl ?_
  show Steps p.tables e below (T6.setTop (mkF m 185 #[.val (.long q1), .second, .val (.int p2), .val (.int p3), .val (.int p4), .val (.int d), .val (.int f), .val (.int (f + d)), .val (.long u), .second, .val (.int (((p4.toUInt32 >>> ((2 : Int32) &&& 31).toUInt32).toInt32) &&& (3 : Int32))), .val (.long b), .second, .val (.long v0), .second, .val (.long (((1000000000000000000 : Int64) - (1 : Int64)) / v0)), .second] [(.long v0), (.long u)])) _
  refine XS.lmul X6.here hx rfl (hb hby at_185) rfl ?_
  show Steps p.tables e below (T6.setTop (mkF m 186 #[.val (.long q1), .second, .val (.int p2), .val (.int p3), .val (.int p4), .val (.int d), .val (.int f), .val (.int (f + d)), .val (.long u), .second, .val (.int (((p4.toUInt32 >>> ((2 : Int32) &&& 31).toUInt32).toInt32) &&& (3 : Int32))), .val (.long b), .second, .val (.long v0), .second, .val (.long (((1000000000000000000 : Int64) - (1 : Int64)) / v0)), .second] [(.long (u * v0))])) _
  refine XS.goto X6.here hx rfl (pc0 := 186) (pc' := 192) rfl (hb hby at_186) (by decide) (by decide) ?_
  show Steps p.tables e below (T6.setTop (mkF m 192 #[.val (.long q1), .second, .val (.int p2), .val (.int p3), .val (.int p4), .val (.int d), .val (.int f), .val (.int (f + d)), .val (.long u), .second, .val (.int (((p4.toUInt32 >>> ((2 : Int32) &&& 31).toUInt32).toInt32) &&& (3 : Int32))), .val (.long b), .second, .val (.long v0), .second, .val (.long (((1000000000000000000 : Int64) - (1 : Int64)) / v0)), .second] [(.long (u * v0))])) _
  refine XS.lstore X6.here hx rfl (hb hby at_192) rfl (l' := #[.val (.long q1), .second, .val (.int p2), .val (.int p3), .val (.int p4), .val (.int d), .val (.int f), .val (.int (f + d)), .val (.long u), .second, .val (.int (((p4.toUInt32 >>> ((2 : Int32) &&& 31).toUInt32).toInt32) &&& (3 : Int32))), .val (.long (u * v0)), .second, .val (.long v0), .second, .val (.long (((1000000000000000000 : Int64) - (1 : Int64)) / v0)), .second]) rfl ?_
  exact kt
theorem pn_0 : plainName "com/example/tollwise/tollwise/DecimalsRescaledPinLaw" = true := by first | (simp [plainName, overriddenIn]; done) | decide +kernel
theorem pd_0_1 : parseMethodDescriptor "(JII)J" = some ⟨[.long, .int, .int], some .long⟩ := by decide +kernel
theorem ef_0 (m : MethodId) (x0 : Int64) (x1 : Int32) (x2 : Int32) (x3 : Int32) : entryFrame m #[(.long x0), (.int x1), (.int x2), (.int x3)] maxLocals = mkF m 0 #[.val (.long x0), .second, .val (.int x1), .val (.int x2), .val (.int x3), .unset, .unset, .unset, .unset, .unset, .unset, .unset, .unset, .unset, .unset, .unset, .unset] [] := by first | (simp [entryFrame, mkF, argsToLocals, Value.category, maxLocals]; done) | rfl
def Q0 (Z : State) (q1 : Int64) (p2 : Int32) (p3 : Int32) (p4 : Int32) (wT : Addr) (kT : ClassId) (h0 : Heap) (n0 : Nat) (v : Option Value) (h : Heap) (L : List Loc) : Prop := v = some (.int (1 : Int32)) ∧ Fr n0 L ∧ Keep h0 h []
set_option maxRecDepth 65536 in
set_option maxHeartbeats 40000000 in
theorem rm0 (l : Launch) (Z : State) (a0 : Array Value) (hw : ∀ d ∈ tables_1, d.before a0 Z = true) (ws : List Jvm.Cond) (q1 : Int64) (p2 : Int32) (p3 : Int32) (p4 : Int32) (wT : Addr) (kT : ClassId) (h0 : Heap) (n0 : Nat) (Z0 : n0 ≤ h0.size) (S_T : Sta Z h0 "com/example/tollwise/tollwise/Decimals" "TEN_TO_THE" "[J" (.ref wT)) (VT : Arv Z h0 wT kT .long (19 : Int32) own_pows (.long (0 : Int64))) :
    MetFree l x (head1 (Jvm.Cond.code x code maxLocals ret :: ws) room_1) (fun a U => a = #[(.long q1), (.int p2), (.int p3), (.int p4)] ∧ Z.Warmed39 U.vm ∧ U.heap = h0) (fun _ _ _ _ _ => True) (fun _ U o U' => ∃ v L, o = .returned v ∧ Q0 Z q1 p2 p3 p4 wT kT h0 n0 v U'.heap L ∧ FrameEnd U o U' L room_1.cells room_1.slots) := by
  refine MetFree.of_bodySF (plainFor_of_name pn_0) hisR ?_
  intro p e s m args below meth c s₁ Bd hml0 hP hK
  obtain ⟨rfl, hZ, hh⟩ := hP
  have hx := Bd.exec
  have hby := Bd.bytes
  have hml : c.maxLocals = 17 := hml0
  have hown : s.vm.findClass "com/example/tollwise/tollwise/DecimalsRescaledPinLaw" = some m.cls := findClass_of_methodNamed Bd.named
  have hnm := (name_of_methodNamed Bd.named Bd.method).1
  have X0 : Stand p l e room_1 s m #[(.long q1), (.int p2), (.int p3), (.int p4)] below meth c s₁ [] 0 0 := Stand.of_body Bd
  have e0 : s₁.heap = h0 := by rw [← hh, Bd.state]; rfl
  have N0 := Fr.nil n0
  have pre0 : ∀ t, Steps p.tables e below (s₁.setTop (mkF m 0 #[.val (.long q1), .second, .val (.int p2), .val (.int p3), .val (.int p4), .unset, .unset, .unset, .unset, .unset, .unset, .unset, .unset, .unset, .unset, .unset, .unset] [])) t → Steps p.tables e below (s₁.setTop (entryFrame m #[(.long q1), (.int p2), (.int p3), (.int p4)] maxLocals)) t := fun t k => castTop (ef_0 m q1 p2 p3 p4) k
  obtain ⟨d, hd0, T1, X1, e1, k1⟩ : ∃ (d : Int32), 0 ≤ d.toInt ∧ ∃ T', Stand p l e room_1 s m #[(.long q1), (.int p2), (.int p3), (.int p4)] below meth c T' [] 0 0 ∧ T'.heap = h0 ∧ ∀ target, Steps p.tables e below (T'.setTop (mkF m 23 #[.val (.long q1), .second, .val (.int p2), .val (.int p3), .val (.int p4), .val (.int d), .unset, .unset, .unset, .unset, .unset, .unset, .unset, .unset, .unset, .unset, .unset] [])) target → Steps p.tables e below (s₁.setTop (mkF m 0 #[.val (.long q1), .second, .val (.int p2), .val (.int p3), .val (.int p4), .unset, .unset, .unset, .unset, .unset, .unset, .unset, .unset, .unset, .unset, .unset, .unset] [])) target := by
    by_cases c0 : (p4 &&& (3 : Int32)) = (0 : Int32)
    · obtain ⟨T', X', e', k'⟩ := tn0_0_23_A0 q1 p2 p3 p4 X0 hx hZ hw hby hml hown e0 c0
      exact ⟨_, own_and31 p3, T', X', e', k'⟩
    · obtain ⟨T', X', e', k'⟩ := tn0_0_23_A1 q1 p2 p3 p4 X0 hx hZ hw hby hml hown e0 c0
      exact ⟨_, by rw [own_rem (own_and31 p3) (by decide)]; exact Int.emod_nonneg _ (by decide), T', X', e', k'⟩
  obtain ⟨f, T2, X2, e2, k2⟩ : ∃ (f : Int32), ∃ T', Stand p l e room_1 s m #[(.long q1), (.int p2), (.int p3), (.int p4)] below meth c T' [] 0 0 ∧ T'.heap = h0 ∧ ∀ target, Steps p.tables e below (T'.setTop (mkF m 54 #[.val (.long q1), .second, .val (.int p2), .val (.int p3), .val (.int p4), .val (.int d), .val (.int f), .val (.int (f + d)), .unset, .unset, .unset, .unset, .unset, .unset, .unset, .unset, .unset] [])) target → Steps p.tables e below (T1.setTop (mkF m 23 #[.val (.long q1), .second, .val (.int p2), .val (.int p3), .val (.int p4), .val (.int d), .unset, .unset, .unset, .unset, .unset, .unset, .unset, .unset, .unset, .unset, .unset] [])) target := by
    by_cases c37 : (0 : Int32) < (lcmpW ((p2.toInt64) + (d.toInt64)) (2147483647 : Int64))
    · obtain ⟨T', X', e', k'⟩ := tn0_23_54_B1 q1 p2 p3 p4 d X1 hx hZ hw hby hml hown e1 c37
      exact ⟨_, T', X', e', k'⟩
    · obtain ⟨T', X', e', k'⟩ := tn0_23_54_B0 q1 p2 p3 p4 d X1 hx hZ hw hby hml hown e1 c37
      exact ⟨_, T', X', e', k'⟩
  obtain ⟨u, sA, sB, hAB, T3, L3, X3, N3, K3, k3⟩ : ∃ (u : Int64) (sA sB : Slot), ((sA = .unset ∧ sB = .unset) ∨ ∃ b : Int64, sA = .val (.long b) ∧ sB = .second) ∧ ∃ (T' : State) (L' : List Loc), Stand p l e room_1 s m #[(.long q1), (.int p2), (.int p3), (.int p4)] below meth c T' L' 1 19 ∧ Fr n0 L' ∧ Keep h0 T'.heap [] ∧ ∀ target, Steps p.tables e below (T'.setTop (mkF m 130 #[.val (.long q1), .second, .val (.int p2), .val (.int p3), .val (.int p4), .val (.int d), .val (.int f), .val (.int (f + d)), .val (.long u), .second, .val (.int (((p4.toUInt32 >>> ((2 : Int32) &&& 31).toUInt32).toInt32) &&& (3 : Int32))), sA, sB, .unset, .unset, .unset, .unset] [])) target → Steps p.tables e below (T2.setTop (mkF m 54 #[.val (.long q1), .second, .val (.int p2), .val (.int p3), .val (.int p4), .val (.int d), .val (.int f), .val (.int (f + d)), .unset, .unset, .unset, .unset, .unset, .unset, .unset, .unset, .unset] [])) target := by
    by_cases c64 : (((p4.toUInt32 >>> ((2 : Int32) &&& 31).toUInt32).toInt32) &&& (3 : Int32)) = (0 : Int32)
    · obtain ⟨T', X', e', k'⟩ := tn0_54_130_C0 q1 p2 p3 p4 d f X2 hx hZ hw hby hml hown e2 c64
      exact ⟨_, .unset, .unset, Or.inl ⟨rfl, rfl⟩, T', [], X'.more (by decide) (by decide), Fr.nil _, by rw [e']; exact Keep.refl _ _, k'⟩
    by_cases c71 : (18 : Int32) < d
    · obtain ⟨T', X', e', k'⟩ := tn0_54_130_C1 q1 p2 p3 p4 d f X2 hx hZ hw hby hml hown e2 c64 c71
      exact ⟨_, .unset, .unset, Or.inl ⟨rfl, rfl⟩, T', [], X'.more (by decide) (by decide), Fr.nil _, by rw [e']; exact Keep.refl _ _, k'⟩
    by_cases c83 : (((p4.toUInt32 >>> ((2 : Int32) &&& 31).toUInt32).toInt32) &&& (3 : Int32)) = (1 : Int32)
    · obtain ⟨T', X', e', k'⟩ := tn0_54_130_C2 q1 p2 p3 p4 d f X2 hx hZ hw hby hml hown e2 c64 c71 c83
      exact ⟨_, .unset, .unset, Or.inl ⟨rfl, rfl⟩, T', [], X'.more (by decide) (by decide), Fr.nil _, by rw [e']; exact Keep.refl _ _, k'⟩
    obtain ⟨b1, b2, b3, b4, b5, b6⟩ := own_dBounds hd0 c71
    by_cases c117 : (p4 &&& (16 : Int32)) = (0 : Int32)
    · obtain ⟨T', L', X', N', K', k'⟩ := tn0_54_130_C4 q1 p2 p3 p4 d f _ X2 hx hZ hw hby hml hown e2 N0 Z0 ⟨b4, b5⟩ (own_powsAt _) c64 c71 c83 c117
      exact ⟨_, _, _, Or.inr ⟨_, rfl, rfl⟩, T', L', X', N', K', k'⟩
    · obtain ⟨T', L', X', N', K', k'⟩ := tn0_54_130_C3 q1 p2 p3 p4 d f _ X2 hx hZ hw hby hml hown e2 N0 Z0 ⟨b4, b5⟩ (own_powsAt _) c64 c71 c83 c117
      exact ⟨_, _, _, Or.inr ⟨_, rfl, rfl⟩, T', L', X', N', K', k'⟩
  have Z3 : n0 ≤ T3.heap.size := Nat.le_trans Z0 K3.1
  obtain ⟨ex, s13, s14, s15, s16, T4, L4, HR, X4, N4, K4, k4⟩ : ∃ (ex : Int64) (s13 s14 s15 s16 : Slot) (T' : State) (L' : List Loc), own_Resc l Z T'.heap n0 u f (f + d) ex ∧ Stand p l e room_1 s m #[(.long q1), (.int p2), (.int p3), (.int p4)] below meth c T' L' 3 57 ∧ Fr n0 L' ∧ Keep h0 T'.heap [] ∧ ∀ target, Steps p.tables e below (T'.setTop (mkF m 194 #[.val (.long q1), .second, .val (.int p2), .val (.int p3), .val (.int p4), .val (.int d), .val (.int f), .val (.int (f + d)), .val (.long u), .second, .val (.int (((p4.toUInt32 >>> ((2 : Int32) &&& 31).toUInt32).toInt32) &&& (3 : Int32))), .val (.long ex), .second, s13, s14, s15, s16] [])) target → Steps p.tables e below (T3.setTop (mkF m 130 #[.val (.long q1), .second, .val (.int p2), .val (.int p3), .val (.int p4), .val (.int d), .val (.int f), .val (.int (f + d)), .val (.long u), .second, .val (.int (((p4.toUInt32 >>> ((2 : Int32) &&& 31).toUInt32).toInt32) &&& (3 : Int32))), sA, sB, .unset, .unset, .unset, .unset] [])) target := by
    by_cases c134 : (18 : Int32) < d
    · have HR : own_Resc l Z T3.heap n0 u f (f + d) (-9223372036854775808 : Int64) := rm2_f l Z a0 hw [] u f (f + d) T3.heap n0 Z3 (by rw [own_diff]; exact c134)
      rcases hAB with ⟨rfl, rfl⟩ | ⟨b, rfl, rfl⟩
      · obtain ⟨T', X', e', k'⟩ := tn0_130_194_D0x q1 p2 p3 p4 d f u X3 hx hZ hw hby hml hown rfl c134
        exact ⟨_, _, _, _, _, T', _, by rw [e']; exact HR, X'.more (by decide) (by decide), N3, by rw [e']; exact K3, k'⟩
      · obtain ⟨T', X', e', k'⟩ := tn0_130_194_D0b q1 p2 p3 p4 d f u b X3 hx hZ hw hby hml hown rfl c134
        exact ⟨_, _, _, _, _, T', _, by rw [e']; exact HR, X'.more (by decide) (by decide), N3, by rw [e']; exact K3, k'⟩
    obtain ⟨b1, b2, b3, b4, b5, b6⟩ := own_dBounds hd0 c134
    obtain ⟨f1, f2, f3, f4⟩ := own_powFacts ⟨d.toNatClampNeg, b1⟩
    dsimp only at f1 f2 f3 f4
    have hv0 := own_powsAt d.toNatClampNeg
    have hvP : own_pows.getD ((18 : Int32) - d).toNatClampNeg (.long (0 : Int64)) = .long (own_pow (18 - d.toNatClampNeg)) := by rw [b6]; exact own_powsAt _
    have hv1 : own_pows.getD (18 : Int32).toNatClampNeg (.long (0 : Int64)) = .long (1000000000000000000 : Int64) := rfl
    generalize own_pow (18 - d.toNatClampNeg) = P at *
    generalize own_pow d.toNatClampNeg = v0 at *
    have nz : ¬ (v0 = (0 : Int64)) := fun q => by rw [q] at f2; exact absurd f2 (by decide)
    obtain ⟨w1, w2, w3⟩ := own_cmp (u := u) f3 f4
    have RS : ∀ (h : Heap), Keep h0 h [] → n0 ≤ h.size → (lcmpW u (-(((1000000000000000000 : Int64) - (1 : Int64)) / v0)) < (0 : Int32) → own_Resc l Z h n0 u f (f + d) (-9223372036854775808 : Int64)) ∧ (¬ lcmpW u (-(((1000000000000000000 : Int64) - (1 : Int64)) / v0)) < (0 : Int32) → (0 : Int32) < lcmpW u (((1000000000000000000 : Int64) - (1 : Int64)) / v0) → own_Resc l Z h n0 u f (f + d) (-9223372036854775808 : Int64)) ∧ (¬ lcmpW u (-(((1000000000000000000 : Int64) - (1 : Int64)) / v0)) < (0 : Int32) → ¬ (0 : Int32) < lcmpW u (((1000000000000000000 : Int64) - (1 : Int64)) / v0) → own_Resc l Z h n0 u f (f + d) (u * v0)) := by
      intro h Kh Zh
      obtain ⟨clT, ArT, -, ST, NT, HT, -⟩ := VT.ext (own_kext Kh)
      have SS := S_T.ext (own_kext Kh)
      rw [f1]
      have i24 := own_inb19 b4 b5 ST
      have i48 := own_inb19 b2 b3 ST
      have a24 := Has.at HT i24 hvP
      have a48 := Has.at HT i48 hv0
      rw [← own_diff f d] at i24 i48 a24 a48 c134
      refine ⟨fun c => ?_, fun c c' => ?_, fun c c' => ?_⟩
      · exact rm2_tft l Z a0 hw [] u f (f + d) wT P clT h n0 Zh SS ArT i24 a24 c134 (w1 c).1 (w1 c).2
      · exact rm2_tt l Z a0 hw [] u f (f + d) wT P clT h n0 Zh SS ArT i24 a24 c134 (w2 c')
      · exact rm2_tff l Z a0 hw [] u f (f + d) wT P clT v0 h n0 Zh SS ArT i24 a24 i48 a48 c134 (w3 c c').1 (w3 c c').2
    by_cases c170 : (lcmpW u (-(((1000000000000000000 : Int64) - (1 : Int64)) / v0))) < (0 : Int32)
    · rcases hAB with ⟨rfl, rfl⟩ | ⟨b, rfl, rfl⟩
      · obtain ⟨T', L', X', N', K', k'⟩ := tn0_130_194_D1x q1 p2 p3 p4 d f u v0 X3 hx hZ hw hby hml hown rfl N3 Z3 ⟨b2, b3⟩ hv0 (by decide) hv1 c134 nz c170
        have K'' := K3.trans K' (fun _ q => nomatch q)
        exact ⟨_, _, _, _, _, T', L', (RS _ K'' (Nat.le_trans Z0 K''.1)).1 c170, X', N', K'', k'⟩
      · obtain ⟨T', L', X', N', K', k'⟩ := tn0_130_194_D1b q1 p2 p3 p4 d f u b v0 X3 hx hZ hw hby hml hown rfl N3 Z3 ⟨b2, b3⟩ hv0 (by decide) hv1 c134 nz c170
        have K'' := K3.trans K' (fun _ q => nomatch q)
        exact ⟨_, _, _, _, _, T', L', (RS _ K'' (Nat.le_trans Z0 K''.1)).1 c170, X', N', K'', k'⟩
    by_cases c178 : (0 : Int32) < (lcmpW u (((1000000000000000000 : Int64) - (1 : Int64)) / v0))
    · rcases hAB with ⟨rfl, rfl⟩ | ⟨b, rfl, rfl⟩
      · obtain ⟨T', L', X', N', K', k'⟩ := tn0_130_194_D2x q1 p2 p3 p4 d f u v0 X3 hx hZ hw hby hml hown rfl N3 Z3 ⟨b2, b3⟩ hv0 (by decide) hv1 c134 nz c170 c178
        have K'' := K3.trans K' (fun _ q => nomatch q)
        exact ⟨_, _, _, _, _, T', L', (RS _ K'' (Nat.le_trans Z0 K''.1)).2.1 c170 c178, X', N', K'', k'⟩
      · obtain ⟨T', L', X', N', K', k'⟩ := tn0_130_194_D2b q1 p2 p3 p4 d f u b v0 X3 hx hZ hw hby hml hown rfl N3 Z3 ⟨b2, b3⟩ hv0 (by decide) hv1 c134 nz c170 c178
        have K'' := K3.trans K' (fun _ q => nomatch q)
        exact ⟨_, _, _, _, _, T', L', (RS _ K'' (Nat.le_trans Z0 K''.1)).2.1 c170 c178, X', N', K'', k'⟩
    rcases hAB with ⟨rfl, rfl⟩ | ⟨b, rfl, rfl⟩
    · obtain ⟨T', L', X', N', K', k'⟩ := tn0_130_194_D3x q1 p2 p3 p4 d f u v0 X3 hx hZ hw hby hml hown rfl N3 Z3 ⟨b2, b3⟩ hv0 (by decide) hv1 c134 nz c170 c178
      have K'' := K3.trans K' (fun _ q => nomatch q)
      exact ⟨_, _, _, _, _, T', L', (RS _ K'' (Nat.le_trans Z0 K''.1)).2.2 c170 c178, X', N', K'', k'⟩
    · obtain ⟨T', L', X', N', K', k'⟩ := tn0_130_194_D3b q1 p2 p3 p4 d f u b v0 X3 hx hZ hw hby hml hown rfl N3 Z3 ⟨b2, b3⟩ hv0 (by decide) hv1 c134 nz c170 c178
      have K'' := K3.trans K' (fun _ q => nomatch q)
      exact ⟨_, _, _, _, _, T', L', (RS _ K'' (Nat.le_trans Z0 K''.1)).2.2 c170 c178, X', N', K'', k'⟩
  obtain ⟨_, _, ⟨T5, L5, k5, n5⟩, -, X5, ⟨Lc5, hQ5, l5, y5, z5⟩, st5⟩ := Jvm.LawKit.callS X4 hx (y := (⟨"com/example/tollwise/tollwise/Decimals", "rescaled", "(JII)J"⟩ : MethodName)) hown (mvT hZ (hw _ (List.mem_of_getElem? (i := 25) rfl))) (mvT hZ (hw _ (List.mem_of_getElem? (i := 26) rfl))) (mvT hZ (hw _ (List.mem_of_getElem? (i := 27) rfl))) (mvT hZ (hw _ (List.mem_of_getElem? (i := 28) rfl))) (by decide) (backOf (W := 0) (HR) hZ (hw _ (List.mem_of_getElem? (i := 28) rfl)) (hw _ (List.mem_of_getElem? (i := 27) rfl)) (by decide) (by decide)) (g := (mkF m 200 #[.val (.long q1), .second, .val (.int p2), .val (.int p3), .val (.int p4), .val (.int d), .val (.int f), .val (.int (f + d)), .val (.long u), .second, .val (.int (((p4.toUInt32 >>> ((2 : Int32) &&& 31).toUInt32).toInt32) &&& (3 : Int32))), .val (.long ex), .second, s13, s14, s15, s16] [(.int (f + d)), (.int f), (.long u)])) rfl (by rw [hml]; rfl) (argsL := [(.long u), (.int f), (.int (f + d))]) (rest := []) (lenOf pd_0_1 rfl) rfl (by show 2 * 0 + _ ≤ _; exact Nat.le_of_eq rfl) (hb hby at_200) (fun _ _ => ⟨rfl, rfl, (by decide : 3 + 0 ≤ _), (by decide : 57 + 0 ≤ _)⟩)
  dsimp only [Pt.U, Pt.locs, Pt.cells, Pt.slots] at X5 l5 y5 z5 st5 hQ5
  subst l5 y5 z5
  obtain ⟨rfl, N5q, e5⟩ := hQ5
  have N5 := Fr.app N4 N5q
  obtain ⟨fs, hr, hrun, hended, hW, hsame⟩ := X5.leave (v := some (.int (1 : Int32))) (fun h => by rw [Bd.returns] at h; cases h)
  refine ⟨_, _, pre0 _ (k1 _ (k2 _ (k3 _ (k4 _ ?_)))), hrun, hended, _, _, rfl, ?_, ⟨_, rfl⟩, hW, hsame.mono (by decide) (by decide)⟩
  · show Steps p.tables e below (T4.setTop (mkF m 194 #[.val (.long q1), .second, .val (.int p2), .val (.int p3), .val (.int p4), .val (.int d), .val (.int f), .val (.int (f + d)), .val (.long u), .second, .val (.int (((p4.toUInt32 >>> ((2 : Int32) &&& 31).toUInt32).toInt32) &&& (3 : Int32))), .val (.long ex), .second, s13, s14, s15, s16] [])) _
    refine XS.lload X4.here hx rfl (hb hby at_194) rfl ?_
    show Steps p.tables e below (T4.setTop (mkF m 196 #[.val (.long q1), .second, .val (.int p2), .val (.int p3), .val (.int p4), .val (.int d), .val (.int f), .val (.int (f + d)), .val (.long u), .second, .val (.int (((p4.toUInt32 >>> ((2 : Int32) &&& 31).toUInt32).toInt32) &&& (3 : Int32))), .val (.long ex), .second, s13, s14, s15, s16] [(.long u)])) _
    refine XS.iload X4.here hx rfl (hb hby at_196) rfl ?_
    show Steps p.tables e below (T4.setTop (mkF m 198 #[.val (.long q1), .second, .val (.int p2), .val (.int p3), .val (.int p4), .val (.int d), .val (.int f), .val (.int (f + d)), .val (.long u), .second, .val (.int (((p4.toUInt32 >>> ((2 : Int32) &&& 31).toUInt32).toInt32) &&& (3 : Int32))), .val (.long ex), .second, s13, s14, s15, s16] [(.int f), (.long u)])) _
    refine XS.iload X4.here hx rfl (hb hby at_198) rfl ?_
    show Steps p.tables e below (T4.setTop (mkF m 200 #[.val (.long q1), .second, .val (.int p2), .val (.int p3), .val (.int p4), .val (.int d), .val (.int f), .val (.int (f + d)), .val (.long u), .second, .val (.int (((p4.toUInt32 >>> ((2 : Int32) &&& 31).toUInt32).toInt32) &&& (3 : Int32))), .val (.long ex), .second, s13, s14, s15, s16] [(.int (f + d)), (.int f), (.long u)])) _
    refine st5 _ ?_
    show Steps p.tables e below (T5.setTop (mkF m 203 #[.val (.long q1), .second, .val (.int p2), .val (.int p3), .val (.int p4), .val (.int d), .val (.int f), .val (.int (f + d)), .val (.long u), .second, .val (.int (((p4.toUInt32 >>> ((2 : Int32) &&& 31).toUInt32).toInt32) &&& (3 : Int32))), .val (.long ex), .second, s13, s14, s15, s16] [(.long ex)])) _
    refine XS.lload X5.here hx rfl (hb hby at_203) rfl ?_
    show Steps p.tables e below (T5.setTop (mkF m 205 #[.val (.long q1), .second, .val (.int p2), .val (.int p3), .val (.int p4), .val (.int d), .val (.int f), .val (.int (f + d)), .val (.long u), .second, .val (.int (((p4.toUInt32 >>> ((2 : Int32) &&& 31).toUInt32).toInt32) &&& (3 : Int32))), .val (.long ex), .second, s13, s14, s15, s16] [(.long ex), (.long ex)])) _
    refine XS.lcmp X5.here hx rfl (hb hby at_205) rfl ?_
    show Steps p.tables e below (T5.setTop (mkF m 206 #[.val (.long q1), .second, .val (.int p2), .val (.int p3), .val (.int p4), .val (.int d), .val (.int f), .val (.int (f + d)), .val (.long u), .second, .val (.int (((p4.toUInt32 >>> ((2 : Int32) &&& 31).toUInt32).toInt32) &&& (3 : Int32))), .val (.long ex), .second, s13, s14, s15, s16] [(.int (lcmpW ex ex))])) _
    refine XS.ifNo X5.here hx rfl (hb hby at_206) rfl ((if0 _ _).trans (teq ((lw_eq ex ex).mpr rfl)).2) ?_
    show Steps p.tables e below (T5.setTop (mkF m 209 #[.val (.long q1), .second, .val (.int p2), .val (.int p3), .val (.int p4), .val (.int d), .val (.int f), .val (.int (f + d)), .val (.long u), .second, .val (.int (((p4.toUInt32 >>> ((2 : Int32) &&& 31).toUInt32).toInt32) &&& (3 : Int32))), .val (.long ex), .second, s13, s14, s15, s16] [])) _
    refine XS.iconst X5.here hx rfl (hb hby at_209) ?_
    show Steps p.tables e below (T5.setTop (mkF m 210 #[.val (.long q1), .second, .val (.int p2), .val (.int p3), .val (.int p4), .val (.int d), .val (.int f), .val (.int (f + d)), .val (.long u), .second, .val (.int (((p4.toUInt32 >>> ((2 : Int32) &&& 31).toUInt32).toInt32) &&& (3 : Int32))), .val (.long ex), .second, s13, s14, s15, s16] [(.int (1 : Int32))])) _
    refine XS.goto X5.here hx rfl (pc0 := 210) (pc' := 214) rfl (hb hby at_210) (by decide) (by decide) ?_
    show Steps p.tables e below (T5.setTop (mkF m 214 #[.val (.long q1), .second, .val (.int p2), .val (.int p3), .val (.int p4), .val (.int d), .val (.int f), .val (.int (f + d)), .val (.long u), .second, .val (.int (((p4.toUInt32 >>> ((2 : Int32) &&& 31).toUInt32).toInt32) &&& (3 : Int32))), .val (.long ex), .second, s13, s14, s15, s16] [(.int (1 : Int32))])) _
    exact retN X5 hx (t := .boolean) Bd.returns (by simp) (hb hby at_214) hr
  · show Q0 Z q1 p2 p3 p4 wT kT h0 n0 _ T5.heap _
    rw [e5]
    exact ⟨rfl, N5, K4⟩
set_option maxRecDepth 65536 in
set_option maxHeartbeats 40000000 in
theorem comes_1 {Post : Tables → Env → Array Value → State → Outcome → State → Prop} (hpost : ∀ tb e args s v u, (limb_1_1.after args s (.returned v) u = true ∧ limb_1_2.after args s (.returned v) u = true ∧ True) → FrameEnd s (.returned v) u (Jvm.fieldLocs frame_1_writes args s ++ Jvm.arrayLocs frame_1_arrays args s ++ Jvm.staticLocs frame_1_statics s) 16 192 → Post tb e args s (.returned v) u) :
    ArmFor flags0 classFile x code maxLocals ret World_1 tables_1 room_1 Calls_1 rest_1 Pre_1 Post := by
  intro l hfl _ _ p e ha hc hk s m args below hf hA hF happ hP
  obtain ⟨hcalls, hrest, hpre⟩ := hP
  obtain ⟨-, -, -, hnamed, -, -, -, hat⟩ := (Spec.applies_iff hf).mp happ
  obtain ⟨hg, hn⟩ := and_e (Cond.before_iff.mp (show (Jvm.Cond.and given_1 narrow_1).before args s = true from hpre))
  obtain ⟨g6, g7⟩ := and_e hg
  obtain ⟨g8, g9⟩ := and_e g7
  obtain ⟨g10, g11⟩ := and_e g9
  obtain ⟨g12, g13⟩ := and_e g11
  obtain ⟨w0, w1, w2, w3, rfl⟩ : ∃ w0 w1 w2 w3 : Value, args = #[w0, w1, w2, w3] := by
    have hs : args.size = 4 := by simpa [Cond.value, given_1] using g6
    obtain ⟨L⟩ := args
    match L, hs with
    | [w0, w1, w2, w3], _ => exact ⟨w0, w1, w2, w3, rfl⟩
  have hw := fun d (hd : d ∈ tables_1) => atoms_spec (ws := Jvm.Cond.code x code maxLocals ret :: tables_1) hat d (List.mem_cons_of_mem _ hd)
  have hfit : Fit s := fun {y c} hc i hi => by
    obtain ⟨ha, rfl⟩ := Array.getElem?_eq_some_iff.mp hc
    have q := List.all_eq_true.mp ((Array.all_eq_true_iff_forall_mem.mp hF) _ (Array.getElem_mem ha)) i (List.mem_range.mpr hi)
    simpa [Array.getElem?_eq_getElem hi] using q
  obtain ⟨i0, ei0⟩ := isL_v g8
  obtain rfl : w0 = (.long i0) := Option.some.inj ei0
  obtain ⟨i1, ei1⟩ := is_v g10
  obtain rfl : w1 = (.int i1) := Option.some.inj ei1
  obtain ⟨i2, ei2⟩ := is_v g12
  obtain rfl : w2 = (.int i2) := Option.some.inj ei2
  obtain ⟨i3, ei3⟩ := is_v g13
  obtain rfl : w3 = (.int i3) := Option.some.inj ei3
  obtain ⟨nA, hn_1⟩ := and_e hn
  obtain ⟨nL, hn_2⟩ := and_e hn_1
  obtain ⟨n0, hn_3⟩ := and_e hn_2
  obtain ⟨n1, hn_4⟩ := and_e hn_3
  obtain ⟨n2, hn_5⟩ := and_e hn_4
  obtain ⟨n3, hn_6⟩ := and_e hn_5
  obtain ⟨n4, hn_7⟩ := and_e hn_6
  obtain ⟨n5, hn_8⟩ := and_e hn_7
  obtain ⟨n6, hn_9⟩ := and_e hn_8
  obtain ⟨n7, hn_10⟩ := and_e hn_9
  obtain ⟨n8, hn_11⟩ := and_e hn_10
  obtain ⟨n9, hn_12⟩ := and_e hn_11
  obtain ⟨n10, hn_13⟩ := and_e hn_12
  obtain ⟨n11, hn_14⟩ := and_e hn_13
  obtain ⟨n12, hn_15⟩ := and_e hn_14
  obtain ⟨n13, hn_16⟩ := and_e hn_15
  obtain ⟨n14, hn_17⟩ := and_e hn_16
  obtain ⟨n15, hn_18⟩ := and_e hn_17
  obtain ⟨n16, hn_19⟩ := and_e hn_18
  obtain ⟨n17, n18⟩ := and_e hn_19
  obtain ⟨wT, eT⟩ := arr_v nA
  obtain ⟨clT, AT⟩ := Arr.start eT nA
  obtain ⟨sT, -⟩ := own_len eT AT nL
  have ST := Sta.start eT (Or.inr ⟨(hw _ (List.mem_of_getElem? (i := 27) rfl)), (hw _ (List.mem_of_getElem? (i := 30) rfl))⟩)
  have sz : clT.slots.size = 19 := sT
  have VT : Arv s s.heap wT clT.cls .long (19 : Int32) own_pows (.long (0 : Int64)) := Arv.start hfit AT (by omega) (by rw [sz]; rfl) (by decide) rfl ⟨own_elemL eT AT n0, own_elemL eT AT n1, own_elemL eT AT n2, own_elemL eT AT n3, own_elemL eT AT n4, own_elemL eT AT n5, own_elemL eT AT n6, own_elemL eT AT n7, own_elemL eT AT n8, own_elemL eT AT n9, own_elemL eT AT n10, own_elemL eT AT n11, own_elemL eT AT n12, own_elemL eT AT n13, own_elemL eT AT n14, own_elemL eT AT n15, own_elemL eT AT n16, own_elemL eT AT n17, own_elemL eT AT n18, trivial⟩
  obtain ⟨n, o, h1, h2, h3, _, L, rfl, ⟨rfl, N, -⟩, hq⟩ := rm0 l s _ hw tables_1 i0 i1 i2 i3 wT clT.cls s.heap s.heap.size (Nat.le_refl _) ST VT p e ha hc hk s m _ below hf ((Spec.applies_iff_loose hf).mp happ).1 ⟨rfl, State.Warmed39.refl s, rfl⟩ trivial
  refine ⟨n, _, h1, h2, h3, hpost _ _ _ _ _ _ ⟨Cond.after_iff.mpr rfl, Cond.after_iff.mpr (eq_i res_at (Term.int_eval (1)) rfl), trivial⟩ ⟨hq.1, hq.2.1, (hq.2.2.sift fun y hy => Or.inr (N y hy)).mono (by decide) (by decide)⟩⟩
theorem main_1_1 : Claimed_1_1 := comes_1 fun _ _ _ _ _ _ h hF => ⟨h.1, hF⟩
theorem main_1_2 : Claimed_1_2 := comes_1 fun _ _ _ _ _ _ h hF => ⟨h.2.1, hF⟩
end Jvm.Pilot.@@N@@
namespace Jvm.Pilot.@@N@@
open Jvm Jvm.ClassFile Sem Op Lib Jvm.Free Jvm.Stand Jvm.Pilot.@@N@@.Jvm.D
/-! MADE BY PROGRAM (witnessworld.py) out of the Statement's table words and the real class files: 11 classes; the members and pool entries that the words name. The judged class is class 1, her method 2. -/
namespace start1
open Jvm.ClassFile
def u (s : String) : CpInfo := .utf8 (stringToUtf16 s)
/-- a pool by its gaps: so many unusable entries, then the entry; so many at the end -/
def gap : Nat → List CpInfo → List CpInfo
  | 0, r => r
  | n + 1, r => .unusable :: gap n r
def poolList (es : List (Nat × CpInfo)) (last : Nat) : List CpInfo := es.foldr (fun e r => gap e.1 (e.2 :: r)) (gap last [])
def pool (es : List (Nat × CpInfo)) (last : Nat) : Array CpInfo := ⟨poolList es last⟩
def fileOf (pool : Array CpInfo) (this : Nat) (attrs : Array Attribute := #[]) (ms : Array MethodInfo := #[]) (fl : Nat := 33) (sup : Nat := 0) (ifs : Array Nat := #[]) (fds : Array FieldInfo := #[]) : ClassFile where
  minorVersion := 0
  majorVersion := 65
  constantPool := pool
  accessFlags := fl
  thisClass := this
  superClass := sup
  interfaces := ifs
  fields := fds
  methods := ms
  attributes := attrs
def plain (name : String) (sup : Option ClassId) : Class where
  name := name
  kind := .ordinary
  loader := none
  accessFlags := 33
  super := sup
  interfaces := #[]
  cf := none
  fields := #[]
  methods := #[]
  instanceTypes := #[]
  staticTypes := #[]
  resolved := #[]
  callSites := []
  init := .initialized
  statics := none
  mirror := none

def pool0 : Array CpInfo := pool [(5, u "<init>"), (0, u "()V"), (1, .class_ 10), (1, u "java/lang/Object")] 113

def k0m0 : Method := { name := "<init>", desc := "()V", sig := { parameters := [], returnType := none }, accessFlags := 1, code := none }
/-- java/lang/Object -/
def k0 : Class := { plain "java/lang/Object" none with
  accessFlags := 33
  interfaces := #[]
  cf := some (fileOf pool0 8 #[] #[{ accessFlags := 1, nameIndex := 5, descriptorIndex := 6, attributes := #[] }] 33 0 #[] #[])
  fields := #[]
  methods := #[k0m0]
  instanceTypes := #[]
  staticTypes := #[]
  resolved := Array.replicate 124 none
  statics := none }

def pool1 : Array CpInfo := pool [(2, .class_ 4), (1, u "java/lang/Object"), (0, u "<init>"), (0, u "()V"), (0, .long 10), (1, .long 100), (1, .long 1000), (1, .long 10000), (1, .long 100000), (1, .long 1000000), (1, .long 10000000), (1, .long 100000000), (1, .long 1000000000), (1, .long 10000000000), (1, .long 100000000000), (1, .long 1000000000000), (1, .long 10000000000000), (1, .long 100000000000000), (1, .long 1000000000000000), (1, .long 10000000000000000), (1, .long 100000000000000000), (1, .long 1000000000000000000), (1, .integer 2147483647), (2, .long 2147483647), (1, .methodref 49 50), (0, .class_ 51), (0, .nameAndType 52 53), (0, u "com/example/tollwise/tollwise/DecimalsRescaledPinLaw"), (0, u "pow10"), (0, u "(I)J"), (0, .long 3), (3, .long 9223372036854775808), (1, .methodref 61 62), (0, .class_ 63), (0, .nameAndType 64 65), (0, u "com/example/tollwise/tollwise/Decimals"), (0, u "rescaled"), (0, u "(JII)J"), (2, u "law"), (0, u "(JIII)Z")] 3

def k1m0 : Method := { name := "<init>", desc := "()V", sig := { parameters := [], returnType := none }, accessFlags := 1, code := none }
def k1c1 : Code := { maxStack := 5, maxLocals := 2, code := method_2_code, exceptionTable := #[], attributes := #[] }
def k1m1 : Method := { name := "pow10", desc := "(I)J", sig := { parameters := [.int], returnType := some .long }, accessFlags := 10, code := some k1c1 }
def k1c2 : Code := { maxStack := 6, maxLocals := 17, code := code, exceptionTable := #[], attributes := #[] }
def k1m2 : Method := { name := "law", desc := "(JIII)Z", sig := { parameters := [.long, .int, .int, .int], returnType := some .boolean }, accessFlags := 9, code := some k1c2 }
/-- com/example/tollwise/tollwise/DecimalsRescaledPinLaw -/
def k1 : Class := { plain "com/example/tollwise/tollwise/DecimalsRescaledPinLaw" (some 0) with
  accessFlags := 49
  interfaces := #[]
  cf := some (fileOf pool1 49 #[] #[{ accessFlags := 1, nameIndex := 5, descriptorIndex := 6, attributes := #[] }, { accessFlags := 10, nameIndex := 52, descriptorIndex := 53, attributes := #[] }, { accessFlags := 9, nameIndex := 68, descriptorIndex := 69, attributes := #[] }] 49 2 #[] #[])
  fields := #[]
  methods := #[k1m0, k1m1, k1m2]
  instanceTypes := #[]
  staticTypes := #[]
  resolved := Array.replicate 73 none
  statics := none }

def pool2 : Array CpInfo := pool [(1, .class_ 2), (0, u "com/example/tollwise/tollwise/Decimals"), (3, .class_ 8), (1, u "java/lang/Object"), (0, u "<init>"), (0, u "()V"), (137, .fieldref 1 149), (0, .nameAndType 150 151), (0, u "TEN_TO_THE"), (0, u "[J"), (0, .long 9223372036854775808), (17, u "MAX_DIGITS"), (0, u "I"), (2, u "MAX_SIGNIFICANT_DIGITS"), (1, u "DIVISION_PLACES"), (1, u "SHORT_DIGITS"), (1, u "MAX_SHORT_LENGTH"), (1, u "NOT_SHORT"), (0, u "J"), (16, u "rescaled"), (0, u "(JII)J")] 27

def k2m0 : Method := { name := "<init>", desc := "()V", sig := { parameters := [], returnType := none }, accessFlags := 2, code := none }
def k2c1 : Code := { maxStack := 4, maxLocals := 7, code := prog_8_method_15_code, exceptionTable := #[], attributes := #[] }
def k2m1 : Method := { name := "rescaled", desc := "(JII)J", sig := { parameters := [.long, .int, .int], returnType := some .long }, accessFlags := 8, code := some k2c1 }
/-- com/example/tollwise/tollwise/Decimals -/
def k2 : Class := { plain "com/example/tollwise/tollwise/Decimals" (some 0) with
  accessFlags := 49
  interfaces := #[]
  cf := some (fileOf pool2 1 #[] #[{ accessFlags := 2, nameIndex := 9, descriptorIndex := 10, attributes := #[] }, { accessFlags := 8, nameIndex := 200, descriptorIndex := 201, attributes := #[] }] 49 6 #[] #[{ accessFlags := 24, nameIndex := 170, descriptorIndex := 171, attributes := #[] }, { accessFlags := 25, nameIndex := 174, descriptorIndex := 171, attributes := #[] }, { accessFlags := 26, nameIndex := 176, descriptorIndex := 171, attributes := #[] }, { accessFlags := 26, nameIndex := 178, descriptorIndex := 171, attributes := #[] }, { accessFlags := 25, nameIndex := 180, descriptorIndex := 171, attributes := #[] }, { accessFlags := 24, nameIndex := 182, descriptorIndex := 183, attributes := #[] }, { accessFlags := 26, nameIndex := 150, descriptorIndex := 151, attributes := #[] }])
  fields := #[{ name := "MAX_DIGITS", type := .int, accessFlags := 24, slot := 0, constantValue := 0 }, { name := "MAX_SIGNIFICANT_DIGITS", type := .int, accessFlags := 25, slot := 1, constantValue := 0 }, { name := "DIVISION_PLACES", type := .int, accessFlags := 26, slot := 2, constantValue := 0 }, { name := "SHORT_DIGITS", type := .int, accessFlags := 26, slot := 3, constantValue := 0 }, { name := "MAX_SHORT_LENGTH", type := .int, accessFlags := 25, slot := 4, constantValue := 0 }, { name := "NOT_SHORT", type := .long, accessFlags := 24, slot := 5, constantValue := 0 }, { name := "TEN_TO_THE", type := (.array .long), accessFlags := 26, slot := 6, constantValue := 0 }]
  methods := #[k2m0, k2m1]
  instanceTypes := #[]
  staticTypes := #[.int, .int, .int, .int, .int, .long, (.array .long)]
  resolved := Array.replicate 229 none
  statics := some 0 }

def pool3 : Array CpInfo := pool [(1, u "java/lang/Cloneable"), (0, .class_ 1), (0, u "java/lang/Object"), (0, .class_ 3)] 3

/-- java/lang/Cloneable -/
def k3 : Class := { plain "java/lang/Cloneable" (some 0) with
  accessFlags := 1537
  interfaces := #[]
  cf := some (fileOf pool3 2 #[] #[] 1537 4 #[] #[])
  fields := #[]
  methods := #[]
  instanceTypes := #[]
  staticTypes := #[]
  resolved := Array.replicate 8 none
  statics := none }

def pool4 : Array CpInfo := pool [(1, u "java/io/Serializable"), (0, .class_ 1), (0, u "java/lang/Object"), (0, .class_ 3)] 3

/-- java/io/Serializable -/
def k4 : Class := { plain "java/io/Serializable" (some 0) with
  accessFlags := 1537
  interfaces := #[]
  cf := some (fileOf pool4 2 #[] #[] 1537 4 #[] #[])
  fields := #[]
  methods := #[]
  instanceTypes := #[]
  staticTypes := #[]
  resolved := Array.replicate 8 none
  statics := none }

/-- the primitive byte -/
def k5 : Class := { plain "byte" none with kind := .primitive 'B', accessFlags := 0x411 }
/-- [B -/
def k6 : Class := { plain "[B" (some 0) with kind := .array 5 .byte, interfaces := #[3, 4], accessFlags := 1041 }

/-- the primitive int -/
def k7 : Class := { plain "int" none with kind := .primitive 'I', accessFlags := 0x411 }
/-- [I -/
def k8 : Class := { plain "[I" (some 0) with kind := .array 7 .int, interfaces := #[3, 4], accessFlags := 1041 }

/-- the primitive long -/
def k9 : Class := { plain "long" none with kind := .primitive 'J', accessFlags := 0x411 }
/-- [J -/
def k10 : Class := { plain "[J" (some 0) with kind := .array 9 .long, interfaces := #[3, 4], accessFlags := 1041 }

def heap : Heap := #[{ cls := 2, slots := #[.int 0, .int 0, .int 0, .int 0, .int 0, .long 0, .ref 1], vm := .statics 2 },
  { cls := 10, slots := #[.long 1, .long 10, .long 100, .long 1000, .long 10000, .long 100000, .long 1000000, .long 10000000, .long 100000000, .long 1000000000, .long 10000000000, .long 100000000000, .long 1000000000000, .long 10000000000000, .long 100000000000000, .long 1000000000000000, .long 10000000000000000, .long 100000000000000000, .long 1000000000000000000], vm := .none }]
def classes : Array Class := #[k0, k1, k2, k3, k4, k5, k6, k7, k8, k9, k10]
def interned : List (Array UInt16 × Addr) := []
def slotsUsed : Nat := 26
def theMethod : MethodId := ⟨1, 2⟩
def args0 : Array Value := #[.long 12345, .int 2, .int 3, .int 9]
def aboutOver (below : List Frame) : State where
  vm := { classes := classes, interned := interned.toArray }
  heap := heap
  slotsUsed := slotsUsed
  threads := #[{ frames := .invoking theMethod args0 :: below }]
def below0 : List Frame := [.native { method := ⟨0, 0⟩, args := #[] }]
def about1 : State := aboutOver below0
def p0 : Program := .bare "" "" ""
def e0 : Env := launch0.env 0 0 0
theorem w_frames : about1.frames = Frame.invoking theMethod args0 :: below0 := rfl
set_option maxRecDepth 65536 in
theorem w_args : argsFit about1.vm theMethod args0 = true := by decide +kernel
set_option maxRecDepth 65536 in
theorem w_heap : heapFits about1 = true := by decide +kernel
set_option maxRecDepth 65536 in
theorem w_runnable : about1.curStatus? = some .runnable := by decide +kernel
set_option maxRecDepth 65536 in
theorem w_alone : about1.alone = true := by decide +kernel
set_option maxRecDepth 65536 in
theorem w_named : about1.methodNamed? x = some theMethod := by decide +kernel
set_option maxRecDepth 65536 in
theorem w_hears : about1.hears theMethod below0 = true := by decide +kernel
set_option maxRecDepth 65536 in
theorem w_ripe : about1.ripe theMethod args0 below0 = true := by decide +kernel
theorem w_running : about1.status = .running := rfl
set_option maxRecDepth 65536 in
theorem w_room : about1.hasRoom e0.platform room_1 = true :=
  launch0.hasRoom_least _ room_1 (by decide +kernel) (by decide +kernel) (by decide +kernel) (by decide +kernel) (by decide +kernel) (by decide +kernel)
theorem allAtoms_all (ts : List Jvm.Cond) (a : Array Jvm.Value) (st : Jvm.State) : (allAtoms ts).before a st = ts.all (fun c => c.before a st) := by
  induction ts with
  | nil => rfl
  | cons c t ih =>
    show (Jvm.Cond.and c (allAtoms t)).before a st = _
    rw [Jvm.Cond.before_and, ih, List.all_cons]
def words1 : List Jvm.Cond := Jvm.Cond.code x code maxLocals ret :: tables_1
/-- a 'code' word, met by the world's own term for the bytes: nothing is compared byte by byte -/
theorem code_word {y : MethodName} {bytes : ByteArray} {mx : Nat} {rt : Option FieldType} {a : Array Value} {s : State} {m : MethodId} {meth : Method} {c : Code} (h1 : s.methodNamed? y = some m) (h2 : s.vm.method? m = some meth) (h3 : meth.code = some c) (h4 : c.code = bytes)
    (h5 : (c.maxLocals == mx && c.exceptionTable.isEmpty && decide (c.maxStack ≤ mostOperands) && decide (meth.sig.returnType = rt) && !meth.locks && decide (parseMethodDescriptor y.desc = some meth.sig)) = true) : (Jvm.Cond.code y bytes mx rt).before a s = true := by
  simp only [Bool.and_eq_true, beq_iff_eq, Bool.not_eq_true', decide_eq_true_eq] at h5
  obtain ⟨⟨⟨⟨⟨g1, g2⟩, g3⟩, g4⟩, g5⟩, g6⟩ := h5
  simp [Cond.before, Cond.holds, Cond.value, h1, h2, h3, h4, g1, g2, g3, g4, g5, g6]
def isCode : Jvm.Cond → Bool
  | .code _ _ _ _ => true
  | _ => false
theorem all_split {L : List Jvm.Cond} {P : Jvm.Cond → Bool} (h1 : L.all (fun c => isCode c || P c) = true) (h2 : ∀ c ∈ L.filter isCode, P c = true) : L.all P = true := by
  refine List.all_eq_true.mpr fun c hc => ?_
  have h := List.all_eq_true.mp h1 c hc
  rcases Bool.eq_false_or_eq_true (isCode c) with hi | hi
  · exact h2 c (List.mem_filter.mpr ⟨hc, hi⟩)
  · simpa [hi] using h
set_option maxRecDepth 65536 in
theorem w_c0 : (Jvm.Cond.code x code maxLocals ret).before args0 about1 = true := code_word (m := ⟨1, 2⟩) (meth := k1m2) (c := k1c2) (by decide +kernel) rfl rfl rfl (by decide +kernel)
set_option maxRecDepth 65536 in
theorem w_c1 : (Jvm.Cond.code ({ cls := "com/example/tollwise/tollwise/DecimalsRescaledPinLaw", name := "pow10", desc := "(I)J" } : Jvm.MethodName) method_2_code (2 : Nat) (Option.some Jvm.ClassFile.FieldType.long)).before args0 about1 = true := code_word (m := ⟨1, 1⟩) (meth := k1m1) (c := k1c1) (by decide +kernel) rfl rfl rfl (by decide +kernel)
set_option maxRecDepth 65536 in
theorem w_c2 : (Jvm.Cond.code ({ cls := "com/example/tollwise/tollwise/Decimals", name := "rescaled", desc := "(JII)J" } : Jvm.MethodName) prog_8_method_15_code (7 : Nat) (Option.some Jvm.ClassFile.FieldType.long)).before args0 about1 = true := code_word (m := ⟨2, 1⟩) (meth := k2m1) (c := k2c1) (by decide +kernel) rfl rfl rfl (by decide +kernel)
def codes1 : List Jvm.Cond := [Jvm.Cond.code x code maxLocals ret, Jvm.Cond.code ({ cls := "com/example/tollwise/tollwise/DecimalsRescaledPinLaw", name := "pow10", desc := "(I)J" } : Jvm.MethodName) method_2_code (2 : Nat) (Option.some Jvm.ClassFile.FieldType.long), Jvm.Cond.code ({ cls := "com/example/tollwise/tollwise/Decimals", name := "rescaled", desc := "(JII)J" } : Jvm.MethodName) prog_8_method_15_code (7 : Nat) (Option.some Jvm.ClassFile.FieldType.long)]
set_option maxRecDepth 65536 in
theorem codes_eq : words1.filter isCode = codes1 := rfl
theorem w_codes : ∀ c ∈ words1.filter isCode, c.before args0 about1 = true := by
  rw [codes_eq]
  intro c hc
  simp only [codes1, List.mem_cons, List.not_mem_nil, or_false] at hc
  rcases hc with rfl | rfl | rfl
  · exact w_c0
  · exact w_c1
  · exact w_c2
set_option maxRecDepth 65536 in
theorem w_t1 : (words1.take 24).all (fun c => isCode c || c.before args0 about1) = true := by decide +kernel
set_option maxRecDepth 65536 in
theorem w_t2 : (words1.drop 24).all (fun c => isCode c || c.before args0 about1) = true := by decide +kernel
theorem w_tables : (allAtoms (Jvm.Cond.code x code maxLocals ret :: tables_1)).before args0 about1 = true := by
  rw [allAtoms_all]
  show words1.all (fun c => c.before args0 about1) = true
  refine all_split ?_ w_codes
  rw [← List.take_append_drop 24 words1, List.all_append, w_t1, w_t2]
  rfl
set_option maxRecDepth 65536 in
theorem w_case : (Jvm.Cond.and given_1 narrow_1).before args0 about1 = true := by decide +kernel
theorem w_applies : (headSpec (Jvm.Cond.code x code maxLocals ret :: tables_1) room_1).applies x e0.platform about1 = true :=
  (Spec.applies_iff w_frames).mpr ⟨w_running, w_runnable, w_alone, w_named, w_hears, w_ripe, w_room, w_tables⟩
theorem atStart : AtStart classFile x code maxLocals ret World_1 tables_1 room_1 Calls_1 rest_1 Pre_1 launch0 p0 e0 about1 theMethod args0 below0 :=
  ⟨lists_1, trivial, launch0.admits_env _ _ _, launch0.least_env, fairChoices_fair.cas, fairChoices_fair.clock, w_frames, w_args, w_heap, w_applies, trivial, trivial, w_case⟩
end start1
theorem witness_1 : WitnessClaimed_1 := ⟨start1.p0, start1.e0, start1.about1, start1.theMethod, start1.args0, start1.below0, start1.atStart⟩
end Jvm.Pilot.@@N@@
