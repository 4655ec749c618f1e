import JvmDerived
import JvmDerived.Pilot.@@N@@Statement
import JvmDerived.Pilot.@@N@@Code
set_option linter.unusedVariables false
set_option linter.unusedSimpArgs false
@@BLOCK:NumsL.lean.txt@@
namespace Jvm.RoadKit
open Sem ClassFile Op Lib Jvm.Stand Jvm.Free Jvm.LawKit
section New
variable {p : Program} {l : Launch} {e : Env} {R : Room} {s : State} {m : MethodId} {args : Array Value} {below : List Frame} {meth : Method} {c : Code} {T : State} {locs : List Loc} {cells slots : Nat}
theorem retI (X : Stand p l e R s m args below meth c T locs cells slots) (hx : p.tables.exec = Jvm.exec) {pc : Nat} {Ls : Array Slot} {z : Int32} {rest : List Value} (hret : meth.sig.returnType = some .int) (hd : decode c.code pc = .ok (.ireturn, 1)) {fs : List Frame}
    (hl : ∀ (f : JFrame) (acts : List Action), f.method = m → f.locked = none → f.entered = [] → (doReturn e (T.setTop f) acts (some (.int z))).1 = T.setFrames fs) : Steps p.tables e below (T.setTop (mkF m pc Ls (.int z :: rest))) (T.setFrames fs) := by
  have hm' : T.vm.method? m = some meth := X.method'
  have hn : narrow .int (.int z) = .int z := rfl
  show Steps p.tables e below (T.setTop { method := m, pc := pc, locals := Ls, stack := _ :: rest, locked := none }) _
  jvm_step X.here [X.here.top, hx, hd, hm', hret, hn]
  first | (intro acts; rw [hl _ acts rfl rfl rfl]) | rw [hl _ _ rfl rfl rfl]
  exact Steps.refl _
end New
end Jvm.RoadKit
namespace Jvm.Pilot.@@N@@
open Jvm Jvm.ClassFile Sem Op Lib Jvm.Free Jvm.Stand Jvm.LawKit Jvm.RoadKit Bundle Jvm.Pilot.@@N@@.Jvm.D
section OwnWords
variable {args : Array Value} {Z : State}
theorem own_eqI {t : Term} {k : Int32} (h : (Cond.eq t (.int k)).value args Z none Z [] = some true) : t.eval args Z none [] Z = some (.int k) := by
  simp only [Cond.value, Term.int_eval] at h
  cases ht : t.eval args Z none [] Z with
  | none => simp [ht] at h
  | some x => cases x <;> simp [ht] at h ⊢; exact h
theorem own_eqT {t u : Term} {a : Addr} (h : (Cond.eq t u).value args Z none Z [] = some true) (hu : u.eval args Z none [] Z = some (.ref a)) : t.eval args Z none [] Z = some (.ref a) := by
  simp only [Cond.value, hu] at h
  cases ht : t.eval args Z none [] Z with
  | none => simp [ht] at h
  | some x => cases x <;> simp [ht] at h ⊢; exact h
theorem own_sta {C n d K : String} (h : (Cond.exactly (.static C n d) K).value args Z none Z [] = some true) (hi : (Cond.initialized C).before args Z = true) (hl : (Cond.laysStatic C n d).before args Z = true) :
    ∃ a, (Term.static C n d).eval args Z none [] Z = some (.ref a) ∧ Sta Z Z.heap C n d (.ref a) ∧ Exa Z Z.heap a K := by
  obtain ⟨a, ea⟩ := exa_v h
  exact ⟨a, ea, Sta.start ea (Or.inr ⟨hi, hl⟩), Exa.start ea h⟩
theorem own_fldI {t : Term} {C n d : String} {a : Addr} {k : Int32} (ea : t.eval args Z none [] Z = some (.ref a)) (h : (Cond.eq (.field t C n d) (.int k)).value args Z none Z [] = some true) : Z.fieldOf? a C n d = some (.int k) := by
  have e1 := own_eqI h
  rw [fld_at ea] at e1
  exact e1
theorem own_ne {t t' : Term} {C n d : String} {a b : Addr} {k k' : Int32} (ea : t.eval args Z none [] Z = some (.ref a)) (eb : t'.eval args Z none [] Z = some (.ref b))
    (h : (Cond.eq (.field t C n d) (.int k)).value args Z none Z [] = some true) (h' : (Cond.eq (.field t' C n d) (.int k')).value args Z none Z [] = some true) (hk : k ≠ k') : ¬ a = b := fun q => by
  subst q
  have e1 := own_fldI ea h
  have e2 := own_fldI eb h'
  exact hk (Value.int.inj (Option.some.inj (e1.symm.trans e2)))
end OwnWords
theorem own_kext {h h' : Heap} (K : Keep h h' []) : Ext h h' := ⟨K.1, fun a c q => K.2.1 a c q nin0⟩
section OwnWords2
variable {args : Array Value} {Z : State}
theorem own_fldT {t u : Term} {C n d : String} {a b : Addr} (ea : t.eval args Z none [] Z = some (.ref a)) (h : (Cond.eq (.field t C n d) u).value args Z none Z [] = some true) (hu : u.eval args Z none [] Z = some (.ref b)) : Fld Z Z.heap a C n d (.ref b) := by
  have e1 := own_eqT h hu
  rw [fld_at ea] at e1
  exact Fld.start e1
theorem own_fldK {t : Term} {C n d : String} {a : Addr} {k : Int32} (ea : t.eval args Z none [] Z = some (.ref a)) (h : (Cond.eq (.field t C n d) (.int k)).value args Z none Z [] = some true) : Fld Z Z.heap a C n d (.int k) := Fld.start (own_fldI ea h)
theorem own_fldN {t : Term} {C n d : String} {a : Addr} (ea : t.eval args Z none [] Z = some (.ref a)) (h : (Cond.eq (.field t C n d) .null).value args Z none Z [] = some true) : Fld Z Z.heap a C n d .null := by
  have e1 := null_v h
  rw [fld_at ea] at e1
  exact Fld.start e1
theorem own_fldX {t : Term} {C n d K : String} {a : Addr} (ea : t.eval args Z none [] Z = some (.ref a)) (h : (Cond.exactly (.field t C n d) K).value args Z none Z [] = some true) :
    ∃ b, (Term.field t C n d).eval args Z none [] Z = some (.ref b) ∧ Fld Z Z.heap a C n d (.ref b) ∧ Exa Z Z.heap b K := by
  obtain ⟨b, eb⟩ := exa_v h
  have e1 := eb
  rw [fld_at ea] at e1
  exact ⟨b, eb, Fld.start e1, Exa.start eb h⟩
theorem own_fldA {t : Term} {C n d : String} {a : Addr} {ty : FieldType} (ea : t.eval args Z none [] Z = some (.ref a)) (h : (Cond.arrayOf (.field t C n d) ty).value args Z none Z [] = some true) :
    ∃ b c, (Term.field t C n d).eval args Z none [] Z = some (.ref b) ∧ Fld Z Z.heap a C n d (.ref b) ∧ Arr Z Z.heap b c ty := by
  obtain ⟨b, eb⟩ := arr_v h
  obtain ⟨c, A⟩ := Arr.start eb h
  have e1 := eb
  rw [fld_at ea] at e1
  exact ⟨b, c, eb, Fld.start e1, A⟩
theorem own_len {t : Term} {a : Addr} {cl : Cell} {ty : FieldType} {k : Int32} (ea : t.eval args Z none [] Z = some (.ref a)) (A : Arr Z Z.heap a cl ty) (h : (Cond.eq (.length t) (.int k)).value args Z none Z [] = some true) : cl.slots.size = k.toNatClampNeg ∧ ¬ k < 0 := by
  have e1 := own_eqI h
  have e2 := A.fin (Vm.Alike.refl _)
  by_cases hn : cl.slots.size < 2 ^ 31
  · rw [len_f ea e2 hn] at e1
    have e3 : cl.slots.size.toInt32 = k := Value.int.inj (Option.some.inj e1)
    refine ⟨by rw [← e3]; simp only [Int32.toNatClampNeg, len_toInt hn]; rfl, ?_⟩
    rw [← e3, Int32.lt_iff_toInt_lt, len_toInt hn]
    have : (0 : Int32).toInt = 0 := rfl
    omega
  · simp [Term.eval, ea, e2] at e1
    omega
end OwnWords2
section OwnNums
theorem own_and31 (x : Int32) : 0 ≤ (x &&& (2147483647 : Int32)).toInt := by
  have e : (x &&& (2147483647 : Int32)).toInt = x.toInt % 2 ^ 31 := Jvm.Kit.i32_mask x 2147483647 (k := 31) (by decide) (by decide)
  omega
theorem own_rem {x m : Int32} (hx : 0 ≤ x.toInt) (hm : 0 < m.toInt) : (x - (x / m) * m).toInt = x.toInt % m.toInt := by
  have a := x.toInt_lt
  have e1 : (x / m).toInt = x.toInt / m.toInt := by rw [Jvm.Kit.i32_div (by omega), Int.tdiv_eq_ediv_of_nonneg hx]
  have q0 : 0 ≤ x.toInt / m.toInt * m.toInt := Int.mul_nonneg (Int.ediv_nonneg hx (Int.le_of_lt hm)) (Int.le_of_lt hm)
  have q1 : x.toInt / m.toInt * m.toInt ≤ x.toInt := Int.ediv_mul_le _ (by omega)
  have e2 : ((x / m) * m).toInt = x.toInt / m.toInt * m.toInt := by rw [Jvm.Kit.i32_mul (by rw [e1]; omega) (by rw [e1]; omega), e1]
  rw [Jvm.Kit.i32_sub (by rw [e2]; omega) (by rw [e2]; omega), e2, Int.emod_def, Int.mul_comm]
end OwnNums
theorem own_sub0 {x y : Int32} (h : x - y = 0) : x = y := by
  have e : x - y + y = 0 + y := by rw [h]
  simpa [Int32.sub_add_cancel] using e
def own_Q (r : Value) (h0 : Heap) (n0 : Nat) (v : Option Value) (h : Heap) (L : List Loc) : Prop := v = some r ∧ Fr n0 L ∧ h = h0
theorem d1_0 : decode prog_24_method_7_code 0 = .ok (.iload_n 1, 1) := by decide +kernel
theorem d1_1 : decode prog_24_method_7_code 1 = .ok (.iconst 4, 1) := by decide +kernel
theorem d1_2 : decode prog_24_method_7_code 2 = .ok (.if_icmp .le 15, 3) := by decide +kernel
theorem d1_17 : decode prog_24_method_7_code 17 = .ok (.iconst 2, 1) := by decide +kernel
theorem d1_18 : decode prog_24_method_7_code 18 = .ok (.ireturn, 1) := by decide +kernel
theorem pn_1 : plainName "com/example/xml_table_store/xmltablestore/MichiganDocument$Scale" = true := by first | (simp [plainName, overriddenIn]; done) | decide +kernel
theorem ef_1 (m : MethodId) (x0 : Addr) (x1 : Int32) (x2 : Int32) : entryFrame m #[(.ref x0), (.int x1), (.int x2)] 3 = mkF m 0 #[.val (.ref x0), .val (.int x1), .val (.int x2)] [] := by first | (simp [entryFrame, mkF, argsToLocals, Value.category]; done) | rfl
def Q1_a (Z : State) (a1 : Addr) (p2 : Int32) (p3 : Int32) (h0 : Heap) (n0 : Nat) (v : Option Value) (h : Heap) (L : List Loc) : Prop := v = some (.int (2 : Int32)) ∧ Fr n0 L ∧ h = h0
set_option maxRecDepth 65536 in
set_option maxHeartbeats 40000000 in
theorem rm1_a (l : Launch) (Z : State) (a0 : Array Value) (hw : ∀ d ∈ tables_1, d.before a0 Z = true) (ws : List Jvm.Cond) (a1 : Addr) (p2 : Int32) (p3 : Int32) (h0 : Heap) (n0 : Nat) (Z0 : n0 ≤ h0.size) (hc2 : ¬ ((4 : Int32) < p2)) :
    MetFree l (⟨"com/example/xml_table_store/xmltablestore/MichiganDocument$Scale", "children", "(II)I"⟩ : MethodName) (head1 (Jvm.Cond.code (⟨"com/example/xml_table_store/xmltablestore/MichiganDocument$Scale", "children", "(II)I"⟩ : MethodName) prog_24_method_7_code 3 (some .int) :: ws) ({ frames := 0, cells := 0, slots := 0, locals := 0 } : Room)) (fun a U => a = #[(.ref a1), (.int p2), (.int p3)] ∧ Z.Warmed39 U.vm ∧ U.heap = h0) (fun _ _ _ _ _ => True) (fun _ U o U' => ∃ v L, o = .returned v ∧ Q1_a Z a1 p2 p3 h0 n0 v U'.heap L ∧ FrameEnd U o U' L ({ frames := 0, cells := 0, slots := 0, locals := 0 } : Room).cells ({ frames := 0, cells := 0, slots := 0, locals := 0 } : Room).slots) := by
  refine MetFree.of_bodySF (plainFor_of_name pn_1) hisR ?_
  intro p e s m args below meth c s₁ Bd hml0 hP hK
  obtain ⟨rfl, hZ, hh⟩ := hP
  have hx := Bd.exec
  have hby := Bd.bytes
  have hml : c.maxLocals = 3 := hml0
  have hown : s.vm.findClass "com/example/xml_table_store/xmltablestore/MichiganDocument$Scale" = some m.cls := findClass_of_methodNamed Bd.named
  have hnm := (name_of_methodNamed Bd.named Bd.method).1
  have X0 : Stand p l e ({ frames := 0, cells := 0, slots := 0, locals := 0 } : Room) s m #[(.ref a1), (.int p2), (.int p3)] below meth c s₁ [] 0 0 := Stand.of_body Bd
  have e0 : s₁.heap = h0 := by rw [← hh, Bd.state]; rfl
  have N0 := Fr.nil n0
  have pre0 : ∀ t, Steps p.tables e below (s₁.setTop (mkF m 0 #[.val (.ref a1), .val (.int p2), .val (.int p3)] [])) t → Steps p.tables e below (s₁.setTop (entryFrame m #[(.ref a1), (.int p2), (.int p3)] 3)) t := fun t k => castTop (ef_1 m a1 p2 p3) k

  obtain ⟨fs, hr, hrun, hended, hW, hsame⟩ := X0.leave (v := some (.int (2 : Int32))) (fun h => by rw [Bd.returns] at h; cases h)
  refine ⟨_, _, pre0 _ ?_, hrun, hended, _, _, rfl, ?_, ⟨_, rfl⟩, hW, hsame.mono (by decide) (by decide)⟩
  · show Steps p.tables e below (s₁.setTop (mkF m 0 #[.val (.ref a1), .val (.int p2), .val (.int p3)] [])) _
    refine XS.iloadN X0.here hx rfl (hb hby d1_0) rfl ?_
    show Steps p.tables e below (s₁.setTop (mkF m 1 #[.val (.ref a1), .val (.int p2), .val (.int p3)] [(.int p2)])) _
    refine XS.iconst X0.here hx rfl (hb hby d1_1) ?_
    show Steps p.tables e below (s₁.setTop (mkF m 2 #[.val (.ref a1), .val (.int p2), .val (.int p3)] [(.int (4 : Int32)), (.int p2)])) _
    refine XS.icmpYes X0.here hx rfl (pc0 := 2) (pc' := 17) rfl (hb hby d1_2) rfl (flt hc2).2.2.2 (by decide) (by decide) ?_
    show Steps p.tables e below (s₁.setTop (mkF m 17 #[.val (.ref a1), .val (.int p2), .val (.int p3)] [])) _
    refine XS.iconst X0.here hx rfl (hb hby d1_17) ?_
    show Steps p.tables e below (s₁.setTop (mkF m 18 #[.val (.ref a1), .val (.int p2), .val (.int p3)] [(.int (2 : Int32))])) _
    exact retI X0 hx Bd.returns (hb hby d1_18) hr
  · show Q1_a Z a1 p2 p3 h0 n0 _ s₁.heap _
    rw [e0]
    exact ⟨rfl, N0, rfl⟩
theorem d1_5 : decode prog_24_method_7_code 5 = .ok (.iload_n 1, 1) := by decide +kernel
theorem d1_6 : decode prog_24_method_7_code 6 = .ok (.bipush 9, 2) := by decide +kernel
theorem d1_8 : decode prog_24_method_7_code 8 = .ok (.if_icmp .lt 11, 3) := by decide +kernel
theorem d1_19 : decode prog_24_method_7_code 19 = .ok (.iload_n 1, 1) := by decide +kernel
theorem d1_20 : decode prog_24_method_7_code 20 = .ok (.bipush 7, 2) := by decide +kernel
theorem d1_22 : decode prog_24_method_7_code 22 = .ok (.if_icmp .gt 8, 3) := by decide +kernel
theorem d1_25 : decode prog_24_method_7_code 25 = .ok (.aload_n 0, 1) := by decide +kernel
theorem d1_26 : decode prog_24_method_7_code 26 = .ok (.getfield 41, 3) := by decide +kernel
theorem d1_29 : decode prog_24_method_7_code 29 = .ok (.ireturn, 1) := by decide +kernel
def Q1_b (Z : State) (a1 : Addr) (p2 : Int32) (p3 : Int32) (f : Int32) (h0 : Heap) (n0 : Nat) (v : Option Value) (h : Heap) (L : List Loc) : Prop := v = some (.int f) ∧ Fr n0 L ∧ h = h0
set_option maxRecDepth 65536 in
set_option maxHeartbeats 40000000 in
theorem rm1_b (l : Launch) (Z : State) (a0 : Array Value) (hw : ∀ d ∈ tables_1, d.before a0 Z = true) (ws : List Jvm.Cond) (a1 : Addr) (p2 : Int32) (p3 : Int32) (f : Int32) (h0 : Heap) (n0 : Nat) (Z0 : n0 ≤ h0.size) (F_fanout_a1 : Fld Z h0 a1 "com/example/xml_table_store/xmltablestore/MichiganDocument$Scale" "fanout" "I" (.int f)) (hc2 : (4 : Int32) < p2) (hc8 : p2 < (9 : Int32)) (hc22 : ¬ ((7 : Int32) < p2)) :
    MetFree l (⟨"com/example/xml_table_store/xmltablestore/MichiganDocument$Scale", "children", "(II)I"⟩ : MethodName) (head1 (Jvm.Cond.code (⟨"com/example/xml_table_store/xmltablestore/MichiganDocument$Scale", "children", "(II)I"⟩ : MethodName) prog_24_method_7_code 3 (some .int) :: ws) ({ frames := 0, cells := 0, slots := 0, locals := 0 } : Room)) (fun a U => a = #[(.ref a1), (.int p2), (.int p3)] ∧ Z.Warmed39 U.vm ∧ U.heap = h0) (fun _ _ _ _ _ => True) (fun _ U o U' => ∃ v L, o = .returned v ∧ Q1_b Z a1 p2 p3 f h0 n0 v U'.heap L ∧ FrameEnd U o U' L ({ frames := 0, cells := 0, slots := 0, locals := 0 } : Room).cells ({ frames := 0, cells := 0, slots := 0, locals := 0 } : Room).slots) := by
  refine MetFree.of_bodySF (plainFor_of_name pn_1) hisR ?_
  intro p e s m args below meth c s₁ Bd hml0 hP hK
  obtain ⟨rfl, hZ, hh⟩ := hP
  have hx := Bd.exec
  have hby := Bd.bytes
  have hml : c.maxLocals = 3 := hml0
  have hown : s.vm.findClass "com/example/xml_table_store/xmltablestore/MichiganDocument$Scale" = some m.cls := findClass_of_methodNamed Bd.named
  have hnm := (name_of_methodNamed Bd.named Bd.method).1
  have X0 : Stand p l e ({ frames := 0, cells := 0, slots := 0, locals := 0 } : Room) s m #[(.ref a1), (.int p2), (.int p3)] below meth c s₁ [] 0 0 := Stand.of_body Bd
  have e0 : s₁.heap = h0 := by rw [← hh, Bd.state]; rfl
  have N0 := Fr.nil n0
  have pre0 : ∀ t, Steps p.tables e below (s₁.setTop (mkF m 0 #[.val (.ref a1), .val (.int p2), .val (.int p3)] [])) t → Steps p.tables e below (s₁.setTop (entryFrame m #[(.ref a1), (.int p2), (.int p3)] 3)) t := fun t k => castTop (ef_1 m a1 p2 p3) k
  obtain ⟨T4, X4, e4, st4⟩ := getF X0 hx hZ hown (host := "") (Or.inl (hw _ (List.mem_of_getElem? (i := 15) rfl))) Via.refl e0 F_fanout_a1 (g := (mkF m 26 #[.val (.ref a1), .val (.int p2), .val (.int p3)] [(.ref a1)])) rfl rfl (hb hby d1_26)
  obtain ⟨fs, hr, hrun, hended, hW, hsame⟩ := X4.leave (v := some (.int f)) (fun h => by rw [Bd.returns] at h; cases h)
  refine ⟨_, _, pre0 _ ?_, hrun, hended, _, _, rfl, ?_, ⟨_, rfl⟩, hW, hsame.mono (by decide) (by decide)⟩
  · show Steps p.tables e below (s₁.setTop (mkF m 0 #[.val (.ref a1), .val (.int p2), .val (.int p3)] [])) _
    refine XS.iloadN X0.here hx rfl (hb hby d1_0) rfl ?_
    show Steps p.tables e below (s₁.setTop (mkF m 1 #[.val (.ref a1), .val (.int p2), .val (.int p3)] [(.int p2)])) _
    refine XS.iconst X0.here hx rfl (hb hby d1_1) ?_
    show Steps p.tables e below (s₁.setTop (mkF m 2 #[.val (.ref a1), .val (.int p2), .val (.int p3)] [(.int (4 : Int32)), (.int p2)])) _
    refine XS.icmpNo X0.here hx rfl (hb hby d1_2) rfl (tlt hc2).2.2.2 ?_
    show Steps p.tables e below (s₁.setTop (mkF m 5 #[.val (.ref a1), .val (.int p2), .val (.int p3)] [])) _
    refine XS.iloadN X0.here hx rfl (hb hby d1_5) rfl ?_
    show Steps p.tables e below (s₁.setTop (mkF m 6 #[.val (.ref a1), .val (.int p2), .val (.int p3)] [(.int p2)])) _
    refine XS.bipush X0.here hx rfl (hb hby d1_6) ?_
    show Steps p.tables e below (s₁.setTop (mkF m 8 #[.val (.ref a1), .val (.int p2), .val (.int p3)] [(.int (9 : Int32)), (.int p2)])) _
    refine XS.icmpYes X0.here hx rfl (pc0 := 8) (pc' := 19) rfl (hb hby d1_8) rfl (tlt hc8).1 (by decide) (by decide) ?_
    show Steps p.tables e below (s₁.setTop (mkF m 19 #[.val (.ref a1), .val (.int p2), .val (.int p3)] [])) _
    refine XS.iloadN X0.here hx rfl (hb hby d1_19) rfl ?_
    show Steps p.tables e below (s₁.setTop (mkF m 20 #[.val (.ref a1), .val (.int p2), .val (.int p3)] [(.int p2)])) _
    refine XS.bipush X0.here hx rfl (hb hby d1_20) ?_
    show Steps p.tables e below (s₁.setTop (mkF m 22 #[.val (.ref a1), .val (.int p2), .val (.int p3)] [(.int (7 : Int32)), (.int p2)])) _
    refine XS.icmpNo X0.here hx rfl (hb hby d1_22) rfl (flt hc22).2.2.1 ?_
    show Steps p.tables e below (s₁.setTop (mkF m 25 #[.val (.ref a1), .val (.int p2), .val (.int p3)] [])) _
    refine XS.aloadN X0.here hx rfl (hb hby d1_25) rfl rfl ?_
    show Steps p.tables e below (s₁.setTop (mkF m 26 #[.val (.ref a1), .val (.int p2), .val (.int p3)] [(.ref a1)])) _
    refine st4 _ ?_
    show Steps p.tables e below (T4.setTop (mkF m 29 #[.val (.ref a1), .val (.int p2), .val (.int p3)] [(.int f)])) _
    exact retI X4 hx Bd.returns (hb hby d1_29) hr
  · show Q1_b Z a1 p2 p3 f h0 n0 _ T4.heap _
    rw [e4]
    exact ⟨rfl, N0, rfl⟩
theorem d1_30 : decode prog_24_method_7_code 30 = .ok (.iload_n 1, 1) := by decide +kernel
theorem d1_31 : decode prog_24_method_7_code 31 = .ok (.bipush 8, 2) := by decide +kernel
theorem d1_33 : decode prog_24_method_7_code 33 = .ok (.if_icmp .ne 18, 3) := by decide +kernel
theorem d1_36 : decode prog_24_method_7_code 36 = .ok (.iload_n 2, 1) := by decide +kernel
theorem d1_37 : decode prog_24_method_7_code 37 = .ok (.aload_n 0, 1) := by decide +kernel
theorem d1_38 : decode prog_24_method_7_code 38 = .ok (.getfield 41, 3) := by decide +kernel
theorem d1_41 : decode prog_24_method_7_code 41 = .ok (.irem, 1) := by decide +kernel
theorem d1_42 : decode prog_24_method_7_code 42 = .ok (.ifCond .ne 7, 3) := by decide +kernel
theorem d1_45 : decode prog_24_method_7_code 45 = .ok (.iconst 1, 1) := by decide +kernel
theorem d1_46 : decode prog_24_method_7_code 46 = .ok (.goto 4, 3) := by decide +kernel
theorem d1_50 : decode prog_24_method_7_code 50 = .ok (.ireturn, 1) := by decide +kernel
def Q1_c (Z : State) (a1 : Addr) (p2 : Int32) (p3 : Int32) (f : Int32) (h0 : Heap) (n0 : Nat) (v : Option Value) (h : Heap) (L : List Loc) : Prop := v = some (.int (1 : Int32)) ∧ Fr n0 L ∧ h = h0
set_option maxRecDepth 65536 in
set_option maxHeartbeats 40000000 in
theorem rm1_c (l : Launch) (Z : State) (a0 : Array Value) (hw : ∀ d ∈ tables_1, d.before a0 Z = true) (ws : List Jvm.Cond) (a1 : Addr) (p2 : Int32) (p3 : Int32) (f : Int32) (h0 : Heap) (n0 : Nat) (Z0 : n0 ≤ h0.size) (F_fanout_a1 : Fld Z h0 a1 "com/example/xml_table_store/xmltablestore/MichiganDocument$Scale" "fanout" "I" (.int f)) (hc2 : (4 : Int32) < p2) (hc8 : p2 < (9 : Int32)) (hc22 : (7 : Int32) < p2) (hc33 : p2 = (8 : Int32)) (hnz41 : ¬ (f = (0 : Int32))) (hc42 : (p3 - (p3 / f) * f) = (0 : Int32)) :
    MetFree l (⟨"com/example/xml_table_store/xmltablestore/MichiganDocument$Scale", "children", "(II)I"⟩ : MethodName) (head1 (Jvm.Cond.code (⟨"com/example/xml_table_store/xmltablestore/MichiganDocument$Scale", "children", "(II)I"⟩ : MethodName) prog_24_method_7_code 3 (some .int) :: ws) ({ frames := 0, cells := 0, slots := 0, locals := 0 } : Room)) (fun a U => a = #[(.ref a1), (.int p2), (.int p3)] ∧ Z.Warmed39 U.vm ∧ U.heap = h0) (fun _ _ _ _ _ => True) (fun _ U o U' => ∃ v L, o = .returned v ∧ Q1_c Z a1 p2 p3 f h0 n0 v U'.heap L ∧ FrameEnd U o U' L ({ frames := 0, cells := 0, slots := 0, locals := 0 } : Room).cells ({ frames := 0, cells := 0, slots := 0, locals := 0 } : Room).slots) := by
  refine MetFree.of_bodySF (plainFor_of_name pn_1) hisR ?_
  intro p e s m args below meth c s₁ Bd hml0 hP hK
  obtain ⟨rfl, hZ, hh⟩ := hP
  have hx := Bd.exec
  have hby := Bd.bytes
  have hml : c.maxLocals = 3 := hml0
  have hown : s.vm.findClass "com/example/xml_table_store/xmltablestore/MichiganDocument$Scale" = some m.cls := findClass_of_methodNamed Bd.named
  have hnm := (name_of_methodNamed Bd.named Bd.method).1
  have X0 : Stand p l e ({ frames := 0, cells := 0, slots := 0, locals := 0 } : Room) s m #[(.ref a1), (.int p2), (.int p3)] below meth c s₁ [] 0 0 := Stand.of_body Bd
  have e0 : s₁.heap = h0 := by rw [← hh, Bd.state]; rfl
  have N0 := Fr.nil n0
  have pre0 : ∀ t, Steps p.tables e below (s₁.setTop (mkF m 0 #[.val (.ref a1), .val (.int p2), .val (.int p3)] [])) t → Steps p.tables e below (s₁.setTop (entryFrame m #[(.ref a1), (.int p2), (.int p3)] 3)) t := fun t k => castTop (ef_1 m a1 p2 p3) k
  obtain ⟨T4, X4, e4, st4⟩ := getF X0 hx hZ hown (host := "") (Or.inl (hw _ (List.mem_of_getElem? (i := 15) rfl))) Via.refl e0 F_fanout_a1 (g := (mkF m 38 #[.val (.ref a1), .val (.int p2), .val (.int p3)] [(.ref a1), (.int p3)])) rfl rfl (hb hby d1_38)
  obtain ⟨fs, hr, hrun, hended, hW, hsame⟩ := X4.leave (v := some (.int (1 : Int32))) (fun h => by rw [Bd.returns] at h; cases h)
  refine ⟨_, _, pre0 _ ?_, hrun, hended, _, _, rfl, ?_, ⟨_, rfl⟩, hW, hsame.mono (by decide) (by decide)⟩
  · show Steps p.tables e below (s₁.setTop (mkF m 0 #[.val (.ref a1), .val (.int p2), .val (.int p3)] [])) _
    refine XS.iloadN X0.here hx rfl (hb hby d1_0) rfl ?_
    show Steps p.tables e below (s₁.setTop (mkF m 1 #[.val (.ref a1), .val (.int p2), .val (.int p3)] [(.int p2)])) _
    refine XS.iconst X0.here hx rfl (hb hby d1_1) ?_
    show Steps p.tables e below (s₁.setTop (mkF m 2 #[.val (.ref a1), .val (.int p2), .val (.int p3)] [(.int (4 : Int32)), (.int p2)])) _
    refine XS.icmpNo X0.here hx rfl (hb hby d1_2) rfl (tlt hc2).2.2.2 ?_
    show Steps p.tables e below (s₁.setTop (mkF m 5 #[.val (.ref a1), .val (.int p2), .val (.int p3)] [])) _
    refine XS.iloadN X0.here hx rfl (hb hby d1_5) rfl ?_
    show Steps p.tables e below (s₁.setTop (mkF m 6 #[.val (.ref a1), .val (.int p2), .val (.int p3)] [(.int p2)])) _
    refine XS.bipush X0.here hx rfl (hb hby d1_6) ?_
    show Steps p.tables e below (s₁.setTop (mkF m 8 #[.val (.ref a1), .val (.int p2), .val (.int p3)] [(.int (9 : Int32)), (.int p2)])) _
    refine XS.icmpYes X0.here hx rfl (pc0 := 8) (pc' := 19) rfl (hb hby d1_8) rfl (tlt hc8).1 (by decide) (by decide) ?_
    show Steps p.tables e below (s₁.setTop (mkF m 19 #[.val (.ref a1), .val (.int p2), .val (.int p3)] [])) _
    refine XS.iloadN X0.here hx rfl (hb hby d1_19) rfl ?_
    show Steps p.tables e below (s₁.setTop (mkF m 20 #[.val (.ref a1), .val (.int p2), .val (.int p3)] [(.int p2)])) _
    refine XS.bipush X0.here hx rfl (hb hby d1_20) ?_
    show Steps p.tables e below (s₁.setTop (mkF m 22 #[.val (.ref a1), .val (.int p2), .val (.int p3)] [(.int (7 : Int32)), (.int p2)])) _
    refine XS.icmpYes X0.here hx rfl (pc0 := 22) (pc' := 30) rfl (hb hby d1_22) rfl (tlt hc22).2.2.1 (by decide) (by decide) ?_
    show Steps p.tables e below (s₁.setTop (mkF m 30 #[.val (.ref a1), .val (.int p2), .val (.int p3)] [])) _
    refine XS.iloadN X0.here hx rfl (hb hby d1_30) rfl ?_
    show Steps p.tables e below (s₁.setTop (mkF m 31 #[.val (.ref a1), .val (.int p2), .val (.int p3)] [(.int p2)])) _
    refine XS.bipush X0.here hx rfl (hb hby d1_31) ?_
    show Steps p.tables e below (s₁.setTop (mkF m 33 #[.val (.ref a1), .val (.int p2), .val (.int p3)] [(.int (8 : Int32)), (.int p2)])) _
    refine XS.icmpNo X0.here hx rfl (hb hby d1_33) rfl (teq hc33).2 ?_
    show Steps p.tables e below (s₁.setTop (mkF m 36 #[.val (.ref a1), .val (.int p2), .val (.int p3)] [])) _
    refine XS.iloadN X0.here hx rfl (hb hby d1_36) rfl ?_
    show Steps p.tables e below (s₁.setTop (mkF m 37 #[.val (.ref a1), .val (.int p2), .val (.int p3)] [(.int p3)])) _
    refine XS.aloadN X0.here hx rfl (hb hby d1_37) rfl rfl ?_
    show Steps p.tables e below (s₁.setTop (mkF m 38 #[.val (.ref a1), .val (.int p2), .val (.int p3)] [(.ref a1), (.int p3)])) _
    refine st4 _ ?_
    show Steps p.tables e below (T4.setTop (mkF m 41 #[.val (.ref a1), .val (.int p2), .val (.int p3)] [(.int f), (.int p3)])) _
    refine XS.irem X4.here hx rfl (hb hby d1_41) rfl hnz41 ?_
    show Steps p.tables e below (T4.setTop (mkF m 42 #[.val (.ref a1), .val (.int p2), .val (.int p3)] [(.int (p3 - (p3 / f) * f))])) _
    refine XS.ifNo X4.here hx rfl (hb hby d1_42) rfl ((if0 _ _).trans (teq hc42).2) ?_
    show Steps p.tables e below (T4.setTop (mkF m 45 #[.val (.ref a1), .val (.int p2), .val (.int p3)] [])) _
    refine XS.iconst X4.here hx rfl (hb hby d1_45) ?_
    show Steps p.tables e below (T4.setTop (mkF m 46 #[.val (.ref a1), .val (.int p2), .val (.int p3)] [(.int (1 : Int32))])) _
    refine XS.goto X4.here hx rfl (pc0 := 46) (pc' := 50) rfl (hb hby d1_46) (by decide) (by decide) ?_
    show Steps p.tables e below (T4.setTop (mkF m 50 #[.val (.ref a1), .val (.int p2), .val (.int p3)] [(.int (1 : Int32))])) _
    exact retI X4 hx Bd.returns (hb hby d1_50) hr
  · show Q1_c Z a1 p2 p3 f h0 n0 _ T4.heap _
    rw [e4]
    exact ⟨rfl, N0, rfl⟩
theorem d1_49 : decode prog_24_method_7_code 49 = .ok (.iconst 0, 1) := by decide +kernel
def Q1_d (Z : State) (a1 : Addr) (p2 : Int32) (p3 : Int32) (f : Int32) (h0 : Heap) (n0 : Nat) (v : Option Value) (h : Heap) (L : List Loc) : Prop := v = some (.int (0 : Int32)) ∧ Fr n0 L ∧ h = h0
set_option maxRecDepth 65536 in
set_option maxHeartbeats 40000000 in
theorem rm1_d (l : Launch) (Z : State) (a0 : Array Value) (hw : ∀ d ∈ tables_1, d.before a0 Z = true) (ws : List Jvm.Cond) (a1 : Addr) (p2 : Int32) (p3 : Int32) (f : Int32) (h0 : Heap) (n0 : Nat) (Z0 : n0 ≤ h0.size) (F_fanout_a1 : Fld Z h0 a1 "com/example/xml_table_store/xmltablestore/MichiganDocument$Scale" "fanout" "I" (.int f)) (hc2 : (4 : Int32) < p2) (hc8 : p2 < (9 : Int32)) (hc22 : (7 : Int32) < p2) (hc33 : p2 = (8 : Int32)) (hnz41 : ¬ (f = (0 : Int32))) (hc42 : ¬ ((p3 - (p3 / f) * f) = (0 : Int32))) :
    MetFree l (⟨"com/example/xml_table_store/xmltablestore/MichiganDocument$Scale", "children", "(II)I"⟩ : MethodName) (head1 (Jvm.Cond.code (⟨"com/example/xml_table_store/xmltablestore/MichiganDocument$Scale", "children", "(II)I"⟩ : MethodName) prog_24_method_7_code 3 (some .int) :: ws) ({ frames := 0, cells := 0, slots := 0, locals := 0 } : Room)) (fun a U => a = #[(.ref a1), (.int p2), (.int p3)] ∧ Z.Warmed39 U.vm ∧ U.heap = h0) (fun _ _ _ _ _ => True) (fun _ U o U' => ∃ v L, o = .returned v ∧ Q1_d Z a1 p2 p3 f h0 n0 v U'.heap L ∧ FrameEnd U o U' L ({ frames := 0, cells := 0, slots := 0, locals := 0 } : Room).cells ({ frames := 0, cells := 0, slots := 0, locals := 0 } : Room).slots) := by
  refine MetFree.of_bodySF (plainFor_of_name pn_1) hisR ?_
  intro p e s m args below meth c s₁ Bd hml0 hP hK
  obtain ⟨rfl, hZ, hh⟩ := hP
  have hx := Bd.exec
  have hby := Bd.bytes
  have hml : c.maxLocals = 3 := hml0
  have hown : s.vm.findClass "com/example/xml_table_store/xmltablestore/MichiganDocument$Scale" = some m.cls := findClass_of_methodNamed Bd.named
  have hnm := (name_of_methodNamed Bd.named Bd.method).1
  have X0 : Stand p l e ({ frames := 0, cells := 0, slots := 0, locals := 0 } : Room) s m #[(.ref a1), (.int p2), (.int p3)] below meth c s₁ [] 0 0 := Stand.of_body Bd
  have e0 : s₁.heap = h0 := by rw [← hh, Bd.state]; rfl
  have N0 := Fr.nil n0
  have pre0 : ∀ t, Steps p.tables e below (s₁.setTop (mkF m 0 #[.val (.ref a1), .val (.int p2), .val (.int p3)] [])) t → Steps p.tables e below (s₁.setTop (entryFrame m #[(.ref a1), (.int p2), (.int p3)] 3)) t := fun t k => castTop (ef_1 m a1 p2 p3) k
  obtain ⟨T4, X4, e4, st4⟩ := getF X0 hx hZ hown (host := "") (Or.inl (hw _ (List.mem_of_getElem? (i := 15) rfl))) Via.refl e0 F_fanout_a1 (g := (mkF m 38 #[.val (.ref a1), .val (.int p2), .val (.int p3)] [(.ref a1), (.int p3)])) rfl rfl (hb hby d1_38)
  obtain ⟨fs, hr, hrun, hended, hW, hsame⟩ := X4.leave (v := some (.int (0 : Int32))) (fun h => by rw [Bd.returns] at h; cases h)
  refine ⟨_, _, pre0 _ ?_, hrun, hended, _, _, rfl, ?_, ⟨_, rfl⟩, hW, hsame.mono (by decide) (by decide)⟩
  · show Steps p.tables e below (s₁.setTop (mkF m 0 #[.val (.ref a1), .val (.int p2), .val (.int p3)] [])) _
    refine XS.iloadN X0.here hx rfl (hb hby d1_0) rfl ?_
    show Steps p.tables e below (s₁.setTop (mkF m 1 #[.val (.ref a1), .val (.int p2), .val (.int p3)] [(.int p2)])) _
    refine XS.iconst X0.here hx rfl (hb hby d1_1) ?_
    show Steps p.tables e below (s₁.setTop (mkF m 2 #[.val (.ref a1), .val (.int p2), .val (.int p3)] [(.int (4 : Int32)), (.int p2)])) _
    refine XS.icmpNo X0.here hx rfl (hb hby d1_2) rfl (tlt hc2).2.2.2 ?_
    show Steps p.tables e below (s₁.setTop (mkF m 5 #[.val (.ref a1), .val (.int p2), .val (.int p3)] [])) _
    refine XS.iloadN X0.here hx rfl (hb hby d1_5) rfl ?_
    show Steps p.tables e below (s₁.setTop (mkF m 6 #[.val (.ref a1), .val (.int p2), .val (.int p3)] [(.int p2)])) _
    refine XS.bipush X0.here hx rfl (hb hby d1_6) ?_
    show Steps p.tables e below (s₁.setTop (mkF m 8 #[.val (.ref a1), .val (.int p2), .val (.int p3)] [(.int (9 : Int32)), (.int p2)])) _
    refine XS.icmpYes X0.here hx rfl (pc0 := 8) (pc' := 19) rfl (hb hby d1_8) rfl (tlt hc8).1 (by decide) (by decide) ?_
    show Steps p.tables e below (s₁.setTop (mkF m 19 #[.val (.ref a1), .val (.int p2), .val (.int p3)] [])) _
    refine XS.iloadN X0.here hx rfl (hb hby d1_19) rfl ?_
    show Steps p.tables e below (s₁.setTop (mkF m 20 #[.val (.ref a1), .val (.int p2), .val (.int p3)] [(.int p2)])) _
    refine XS.bipush X0.here hx rfl (hb hby d1_20) ?_
    show Steps p.tables e below (s₁.setTop (mkF m 22 #[.val (.ref a1), .val (.int p2), .val (.int p3)] [(.int (7 : Int32)), (.int p2)])) _
    refine XS.icmpYes X0.here hx rfl (pc0 := 22) (pc' := 30) rfl (hb hby d1_22) rfl (tlt hc22).2.2.1 (by decide) (by decide) ?_
    show Steps p.tables e below (s₁.setTop (mkF m 30 #[.val (.ref a1), .val (.int p2), .val (.int p3)] [])) _
    refine XS.iloadN X0.here hx rfl (hb hby d1_30) rfl ?_
    show Steps p.tables e below (s₁.setTop (mkF m 31 #[.val (.ref a1), .val (.int p2), .val (.int p3)] [(.int p2)])) _
    refine XS.bipush X0.here hx rfl (hb hby d1_31) ?_
    show Steps p.tables e below (s₁.setTop (mkF m 33 #[.val (.ref a1), .val (.int p2), .val (.int p3)] [(.int (8 : Int32)), (.int p2)])) _
    refine XS.icmpNo X0.here hx rfl (hb hby d1_33) rfl (teq hc33).2 ?_
    show Steps p.tables e below (s₁.setTop (mkF m 36 #[.val (.ref a1), .val (.int p2), .val (.int p3)] [])) _
    refine XS.iloadN X0.here hx rfl (hb hby d1_36) rfl ?_
    show Steps p.tables e below (s₁.setTop (mkF m 37 #[.val (.ref a1), .val (.int p2), .val (.int p3)] [(.int p3)])) _
    refine XS.aloadN X0.here hx rfl (hb hby d1_37) rfl rfl ?_
    show Steps p.tables e below (s₁.setTop (mkF m 38 #[.val (.ref a1), .val (.int p2), .val (.int p3)] [(.ref a1), (.int p3)])) _
    refine st4 _ ?_
    show Steps p.tables e below (T4.setTop (mkF m 41 #[.val (.ref a1), .val (.int p2), .val (.int p3)] [(.int f), (.int p3)])) _
    refine XS.irem X4.here hx rfl (hb hby d1_41) rfl hnz41 ?_
    show Steps p.tables e below (T4.setTop (mkF m 42 #[.val (.ref a1), .val (.int p2), .val (.int p3)] [(.int (p3 - (p3 / f) * f))])) _
    refine XS.ifYes X4.here hx rfl (pc0 := 42) (pc' := 49) rfl (hb hby d1_42) rfl ((if0 _ _).trans (feq hc42).2) (by decide) (by decide) ?_
    show Steps p.tables e below (T4.setTop (mkF m 49 #[.val (.ref a1), .val (.int p2), .val (.int p3)] [])) _
    refine XS.iconst X4.here hx rfl (hb hby d1_49) ?_
    show Steps p.tables e below (T4.setTop (mkF m 50 #[.val (.ref a1), .val (.int p2), .val (.int p3)] [(.int (0 : Int32))])) _
    exact retI X4 hx Bd.returns (hb hby d1_50) hr
  · show Q1_d Z a1 p2 p3 f h0 n0 _ T4.heap _
    rw [e4]
    exact ⟨rfl, N0, rfl⟩
theorem d1_11 : decode prog_24_method_7_code 11 = .ok (.iload_n 1, 1) := by decide +kernel
theorem d1_12 : decode prog_24_method_7_code 12 = .ok (.bipush 16, 2) := by decide +kernel
theorem d1_14 : decode prog_24_method_7_code 14 = .ok (.if_icmp .ge 5, 3) := by decide +kernel
def Q1_e (Z : State) (a1 : Addr) (p2 : Int32) (p3 : Int32) (h0 : Heap) (n0 : Nat) (v : Option Value) (h : Heap) (L : List Loc) : Prop := v = some (.int (2 : Int32)) ∧ Fr n0 L ∧ h = h0
set_option maxRecDepth 65536 in
set_option maxHeartbeats 40000000 in
theorem rm1_e (l : Launch) (Z : State) (a0 : Array Value) (hw : ∀ d ∈ tables_1, d.before a0 Z = true) (ws : List Jvm.Cond) (a1 : Addr) (p2 : Int32) (p3 : Int32) (h0 : Heap) (n0 : Nat) (Z0 : n0 ≤ h0.size) (hc2 : (4 : Int32) < p2) (hc8 : ¬ (p2 < (9 : Int32))) (hc14 : p2 < (16 : Int32)) :
    MetFree l (⟨"com/example/xml_table_store/xmltablestore/MichiganDocument$Scale", "children", "(II)I"⟩ : MethodName) (head1 (Jvm.Cond.code (⟨"com/example/xml_table_store/xmltablestore/MichiganDocument$Scale", "children", "(II)I"⟩ : MethodName) prog_24_method_7_code 3 (some .int) :: ws) ({ frames := 0, cells := 0, slots := 0, locals := 0 } : Room)) (fun a U => a = #[(.ref a1), (.int p2), (.int p3)] ∧ Z.Warmed39 U.vm ∧ U.heap = h0) (fun _ _ _ _ _ => True) (fun _ U o U' => ∃ v L, o = .returned v ∧ Q1_e Z a1 p2 p3 h0 n0 v U'.heap L ∧ FrameEnd U o U' L ({ frames := 0, cells := 0, slots := 0, locals := 0 } : Room).cells ({ frames := 0, cells := 0, slots := 0, locals := 0 } : Room).slots) := by
  refine MetFree.of_bodySF (plainFor_of_name pn_1) hisR ?_
  intro p e s m args below meth c s₁ Bd hml0 hP hK
  obtain ⟨rfl, hZ, hh⟩ := hP
  have hx := Bd.exec
  have hby := Bd.bytes
  have hml : c.maxLocals = 3 := hml0
  have hown : s.vm.findClass "com/example/xml_table_store/xmltablestore/MichiganDocument$Scale" = some m.cls := findClass_of_methodNamed Bd.named
  have hnm := (name_of_methodNamed Bd.named Bd.method).1
  have X0 : Stand p l e ({ frames := 0, cells := 0, slots := 0, locals := 0 } : Room) s m #[(.ref a1), (.int p2), (.int p3)] below meth c s₁ [] 0 0 := Stand.of_body Bd
  have e0 : s₁.heap = h0 := by rw [← hh, Bd.state]; rfl
  have N0 := Fr.nil n0
  have pre0 : ∀ t, Steps p.tables e below (s₁.setTop (mkF m 0 #[.val (.ref a1), .val (.int p2), .val (.int p3)] [])) t → Steps p.tables e below (s₁.setTop (entryFrame m #[(.ref a1), (.int p2), (.int p3)] 3)) t := fun t k => castTop (ef_1 m a1 p2 p3) k

  obtain ⟨fs, hr, hrun, hended, hW, hsame⟩ := X0.leave (v := some (.int (2 : Int32))) (fun h => by rw [Bd.returns] at h; cases h)
  refine ⟨_, _, pre0 _ ?_, hrun, hended, _, _, rfl, ?_, ⟨_, rfl⟩, hW, hsame.mono (by decide) (by decide)⟩
  · show Steps p.tables e below (s₁.setTop (mkF m 0 #[.val (.ref a1), .val (.int p2), .val (.int p3)] [])) _
    refine XS.iloadN X0.here hx rfl (hb hby d1_0) rfl ?_
    show Steps p.tables e below (s₁.setTop (mkF m 1 #[.val (.ref a1), .val (.int p2), .val (.int p3)] [(.int p2)])) _
    refine XS.iconst X0.here hx rfl (hb hby d1_1) ?_
    show Steps p.tables e below (s₁.setTop (mkF m 2 #[.val (.ref a1), .val (.int p2), .val (.int p3)] [(.int (4 : Int32)), (.int p2)])) _
    refine XS.icmpNo X0.here hx rfl (hb hby d1_2) rfl (tlt hc2).2.2.2 ?_
    show Steps p.tables e below (s₁.setTop (mkF m 5 #[.val (.ref a1), .val (.int p2), .val (.int p3)] [])) _
    refine XS.iloadN X0.here hx rfl (hb hby d1_5) rfl ?_
    show Steps p.tables e below (s₁.setTop (mkF m 6 #[.val (.ref a1), .val (.int p2), .val (.int p3)] [(.int p2)])) _
    refine XS.bipush X0.here hx rfl (hb hby d1_6) ?_
    show Steps p.tables e below (s₁.setTop (mkF m 8 #[.val (.ref a1), .val (.int p2), .val (.int p3)] [(.int (9 : Int32)), (.int p2)])) _
    refine XS.icmpNo X0.here hx rfl (hb hby d1_8) rfl (flt hc8).1 ?_
    show Steps p.tables e below (s₁.setTop (mkF m 11 #[.val (.ref a1), .val (.int p2), .val (.int p3)] [])) _
    refine XS.iloadN X0.here hx rfl (hb hby d1_11) rfl ?_
    show Steps p.tables e below (s₁.setTop (mkF m 12 #[.val (.ref a1), .val (.int p2), .val (.int p3)] [(.int p2)])) _
    refine XS.bipush X0.here hx rfl (hb hby d1_12) ?_
    show Steps p.tables e below (s₁.setTop (mkF m 14 #[.val (.ref a1), .val (.int p2), .val (.int p3)] [(.int (16 : Int32)), (.int p2)])) _
    refine XS.icmpNo X0.here hx rfl (hb hby d1_14) rfl (tlt hc14).2.1 ?_
    show Steps p.tables e below (s₁.setTop (mkF m 17 #[.val (.ref a1), .val (.int p2), .val (.int p3)] [])) _
    refine XS.iconst X0.here hx rfl (hb hby d1_17) ?_
    show Steps p.tables e below (s₁.setTop (mkF m 18 #[.val (.ref a1), .val (.int p2), .val (.int p3)] [(.int (2 : Int32))])) _
    exact retI X0 hx Bd.returns (hb hby d1_18) hr
  · show Q1_e Z a1 p2 p3 h0 n0 _ s₁.heap _
    rw [e0]
    exact ⟨rfl, N0, rfl⟩
theorem d1_51 : decode prog_24_method_7_code 51 = .ok (.iconst 0, 1) := by decide +kernel
theorem d1_52 : decode prog_24_method_7_code 52 = .ok (.ireturn, 1) := by decide +kernel
def Q1_g (Z : State) (a1 : Addr) (p2 : Int32) (p3 : Int32) (h0 : Heap) (n0 : Nat) (v : Option Value) (h : Heap) (L : List Loc) : Prop := v = some (.int (0 : Int32)) ∧ Fr n0 L ∧ h = h0
set_option maxRecDepth 65536 in
set_option maxHeartbeats 40000000 in
theorem rm1_g (l : Launch) (Z : State) (a0 : Array Value) (hw : ∀ d ∈ tables_1, d.before a0 Z = true) (ws : List Jvm.Cond) (a1 : Addr) (p2 : Int32) (p3 : Int32) (h0 : Heap) (n0 : Nat) (Z0 : n0 ≤ h0.size) (hc2 : (4 : Int32) < p2) (hc8 : ¬ (p2 < (9 : Int32))) (hc14 : ¬ (p2 < (16 : Int32))) (hc22 : (7 : Int32) < p2) (hc33 : ¬ (p2 = (8 : Int32))) :
    MetFree l (⟨"com/example/xml_table_store/xmltablestore/MichiganDocument$Scale", "children", "(II)I"⟩ : MethodName) (head1 (Jvm.Cond.code (⟨"com/example/xml_table_store/xmltablestore/MichiganDocument$Scale", "children", "(II)I"⟩ : MethodName) prog_24_method_7_code 3 (some .int) :: ws) ({ frames := 0, cells := 0, slots := 0, locals := 0 } : Room)) (fun a U => a = #[(.ref a1), (.int p2), (.int p3)] ∧ Z.Warmed39 U.vm ∧ U.heap = h0) (fun _ _ _ _ _ => True) (fun _ U o U' => ∃ v L, o = .returned v ∧ Q1_g Z a1 p2 p3 h0 n0 v U'.heap L ∧ FrameEnd U o U' L ({ frames := 0, cells := 0, slots := 0, locals := 0 } : Room).cells ({ frames := 0, cells := 0, slots := 0, locals := 0 } : Room).slots) := by
  refine MetFree.of_bodySF (plainFor_of_name pn_1) hisR ?_
  intro p e s m args below meth c s₁ Bd hml0 hP hK
  obtain ⟨rfl, hZ, hh⟩ := hP
  have hx := Bd.exec
  have hby := Bd.bytes
  have hml : c.maxLocals = 3 := hml0
  have hown : s.vm.findClass "com/example/xml_table_store/xmltablestore/MichiganDocument$Scale" = some m.cls := findClass_of_methodNamed Bd.named
  have hnm := (name_of_methodNamed Bd.named Bd.method).1
  have X0 : Stand p l e ({ frames := 0, cells := 0, slots := 0, locals := 0 } : Room) s m #[(.ref a1), (.int p2), (.int p3)] below meth c s₁ [] 0 0 := Stand.of_body Bd
  have e0 : s₁.heap = h0 := by rw [← hh, Bd.state]; rfl
  have N0 := Fr.nil n0
  have pre0 : ∀ t, Steps p.tables e below (s₁.setTop (mkF m 0 #[.val (.ref a1), .val (.int p2), .val (.int p3)] [])) t → Steps p.tables e below (s₁.setTop (entryFrame m #[(.ref a1), (.int p2), (.int p3)] 3)) t := fun t k => castTop (ef_1 m a1 p2 p3) k

  obtain ⟨fs, hr, hrun, hended, hW, hsame⟩ := X0.leave (v := some (.int (0 : Int32))) (fun h => by rw [Bd.returns] at h; cases h)
  refine ⟨_, _, pre0 _ ?_, hrun, hended, _, _, rfl, ?_, ⟨_, rfl⟩, hW, hsame.mono (by decide) (by decide)⟩
  · show Steps p.tables e below (s₁.setTop (mkF m 0 #[.val (.ref a1), .val (.int p2), .val (.int p3)] [])) _
    refine XS.iloadN X0.here hx rfl (hb hby d1_0) rfl ?_
    show Steps p.tables e below (s₁.setTop (mkF m 1 #[.val (.ref a1), .val (.int p2), .val (.int p3)] [(.int p2)])) _
    refine XS.iconst X0.here hx rfl (hb hby d1_1) ?_
    show Steps p.tables e below (s₁.setTop (mkF m 2 #[.val (.ref a1), .val (.int p2), .val (.int p3)] [(.int (4 : Int32)), (.int p2)])) _
    refine XS.icmpNo X0.here hx rfl (hb hby d1_2) rfl (tlt hc2).2.2.2 ?_
    show Steps p.tables e below (s₁.setTop (mkF m 5 #[.val (.ref a1), .val (.int p2), .val (.int p3)] [])) _
    refine XS.iloadN X0.here hx rfl (hb hby d1_5) rfl ?_
    show Steps p.tables e below (s₁.setTop (mkF m 6 #[.val (.ref a1), .val (.int p2), .val (.int p3)] [(.int p2)])) _
    refine XS.bipush X0.here hx rfl (hb hby d1_6) ?_
    show Steps p.tables e below (s₁.setTop (mkF m 8 #[.val (.ref a1), .val (.int p2), .val (.int p3)] [(.int (9 : Int32)), (.int p2)])) _
    refine XS.icmpNo X0.here hx rfl (hb hby d1_8) rfl (flt hc8).1 ?_
    show Steps p.tables e below (s₁.setTop (mkF m 11 #[.val (.ref a1), .val (.int p2), .val (.int p3)] [])) _
    refine XS.iloadN X0.here hx rfl (hb hby d1_11) rfl ?_
    show Steps p.tables e below (s₁.setTop (mkF m 12 #[.val (.ref a1), .val (.int p2), .val (.int p3)] [(.int p2)])) _
    refine XS.bipush X0.here hx rfl (hb hby d1_12) ?_
    show Steps p.tables e below (s₁.setTop (mkF m 14 #[.val (.ref a1), .val (.int p2), .val (.int p3)] [(.int (16 : Int32)), (.int p2)])) _
    refine XS.icmpYes X0.here hx rfl (pc0 := 14) (pc' := 19) rfl (hb hby d1_14) rfl (flt hc14).2.1 (by decide) (by decide) ?_
    show Steps p.tables e below (s₁.setTop (mkF m 19 #[.val (.ref a1), .val (.int p2), .val (.int p3)] [])) _
    refine XS.iloadN X0.here hx rfl (hb hby d1_19) rfl ?_
    show Steps p.tables e below (s₁.setTop (mkF m 20 #[.val (.ref a1), .val (.int p2), .val (.int p3)] [(.int p2)])) _
    refine XS.bipush X0.here hx rfl (hb hby d1_20) ?_
    show Steps p.tables e below (s₁.setTop (mkF m 22 #[.val (.ref a1), .val (.int p2), .val (.int p3)] [(.int (7 : Int32)), (.int p2)])) _
    refine XS.icmpYes X0.here hx rfl (pc0 := 22) (pc' := 30) rfl (hb hby d1_22) rfl (tlt hc22).2.2.1 (by decide) (by decide) ?_
    show Steps p.tables e below (s₁.setTop (mkF m 30 #[.val (.ref a1), .val (.int p2), .val (.int p3)] [])) _
    refine XS.iloadN X0.here hx rfl (hb hby d1_30) rfl ?_
    show Steps p.tables e below (s₁.setTop (mkF m 31 #[.val (.ref a1), .val (.int p2), .val (.int p3)] [(.int p2)])) _
    refine XS.bipush X0.here hx rfl (hb hby d1_31) ?_
    show Steps p.tables e below (s₁.setTop (mkF m 33 #[.val (.ref a1), .val (.int p2), .val (.int p3)] [(.int (8 : Int32)), (.int p2)])) _
    refine XS.icmpYes X0.here hx rfl (pc0 := 33) (pc' := 51) rfl (hb hby d1_33) rfl (feq hc33).2 (by decide) (by decide) ?_
    show Steps p.tables e below (s₁.setTop (mkF m 51 #[.val (.ref a1), .val (.int p2), .val (.int p3)] [])) _
    refine XS.iconst X0.here hx rfl (hb hby d1_51) ?_
    show Steps p.tables e below (s₁.setTop (mkF m 52 #[.val (.ref a1), .val (.int p2), .val (.int p3)] [(.int (0 : Int32))])) _
    exact retI X0 hx Bd.returns (hb hby d1_52) hr
  · show Q1_g Z a1 p2 p3 h0 n0 _ s₁.heap _
    rw [e0]
    exact ⟨rfl, N0, rfl⟩
abbrev own_Children (l : Launch) (Z : State) (h0 : Heap) (n0 : Nat) (a1 : Addr) (p2 p3 : Int32) (r : Int32) : Prop := MetFree l (⟨"com/example/xml_table_store/xmltablestore/MichiganDocument$Scale", "children", "(II)I"⟩ : MethodName) (head1 (Jvm.Cond.code (⟨"com/example/xml_table_store/xmltablestore/MichiganDocument$Scale", "children", "(II)I"⟩ : MethodName) prog_24_method_7_code 3 (some .int) :: []) ({ frames := 0, cells := 0, slots := 0, locals := 0 } : Room)) (fun a U => a = #[(.ref a1), (.int p2), (.int p3)] ∧ Z.Warmed39 U.vm ∧ U.heap = h0) (fun _ _ _ _ _ => True) (fun _ U o U' => ∃ v L, o = .returned v ∧ own_Q (.int r) h0 n0 v U'.heap L ∧ FrameEnd U o U' L ({ frames := 0, cells := 0, slots := 0, locals := 0 } : Room).cells ({ frames := 0, cells := 0, slots := 0, locals := 0 } : Room).slots)
theorem os0_3 {z0 : Value} {z1 : Value} {z2 : Value} {s3 : Slot} {s4 : Slot} {s5 : Slot} {s6 : Slot} {s7 : Slot} {s8 : Slot} {v : Int32} (h : One s3) : storeLocals #[.val z0, .val z1, .val z2, s3, s4, s5, s6, s7, s8] 3 (.int v) = some #[.val z0, .val z1, .val z2, .val (.int v), s4, s5, s6, s7, s8] := by
  rcases h with rfl | ⟨w, rfl, hw⟩
  · rfl
  · cases w <;> first | rfl | (simp [Value.category] at hw)
theorem os0_11 {z0 : Value} {z1 : Value} {z2 : Value} {z3 : Value} {s4 : Slot} {s5 : Slot} {s6 : Slot} {s7 : Slot} {s8 : Slot} {v : Addr} (h : One s4) : storeLocals #[.val z0, .val z1, .val z2, .val z3, s4, s5, s6, s7, s8] 4 (.ref v) = some #[.val z0, .val z1, .val z2, .val z3, .val (.ref v), s5, s6, s7, s8] := by
  rcases h with rfl | ⟨w, rfl, hw⟩
  · rfl
  · cases w <;> first | rfl | (simp [Value.category] at hw)
theorem os0_14 {z0 : Value} {z1 : Value} {z2 : Value} {z3 : Value} {z4 : Value} {s5 : Slot} {s6 : Slot} {s7 : Slot} {s8 : Slot} {v : Int32} (h : One s5) : storeLocals #[.val z0, .val z1, .val z2, .val z3, .val z4, s5, s6, s7, s8] 5 (.int v) = some #[.val z0, .val z1, .val z2, .val z3, .val z4, .val (.int v), s6, s7, s8] := by
  rcases h with rfl | ⟨w, rfl, hw⟩
  · rfl
  · cases w <;> first | rfl | (simp [Value.category] at hw)
set_option maxRecDepth 65536 in
set_option maxHeartbeats 40000000 in
theorem tn0_0_62_A0 {p : Program} {l : Launch} {e : Env} {R : Room} {s : State} {m : MethodId} {args : Array Value} {below : List Frame} {meth : Method} {c : Code} {T0 : State} {locs : List Loc} {cells slots : Nat} {Z : State} {a0 : Array Value} {h0 : Heap} (i0 : Int32) (i1 : Int32) (i2 : Int32) (s3 : Slot) (s4 : Slot) (s5 : Slot) (s6 : Slot) (s7 : Slot) (s8 : Slot) (w : Addr)
    (X0 : Stand p l e R s m args below meth c T0 locs cells slots) (hx : p.tables.exec = Jvm.exec) (hZ : Z.Warmed39 s.vm) (hw : ∀ d ∈ tables_1, d.before a0 Z = true) (hby : c.code = code) (hml : c.maxLocals = 9) (hown : s.vm.findClass "com/example/xml_table_store/xmltablestore/ScaleChildrenPinLaw" = some m.cls) (e0 : T0.heap = h0) (hs3 : One s3) (S_MichiganDocument_Scale_TENTH : Sta Z h0 "com/example/xml_table_store/xmltablestore/MichiganDocument$Scale" "TENTH" "Lcom/example/xml_table_store/xmltablestore/MichiganDocument$Scale;" (.ref w)) (hs4 : One s4) (hs5 : One s5) (hc5 : (i0 &&& (3 : Int32)) = (0 : Int32)) :
    ∃ (T' : State), Stand p l e R s m args below meth c T' locs cells slots ∧ T'.heap = h0 ∧
      ∀ target, Steps p.tables e below (T'.setTop (mkF m 62 #[.val (.int i0), .val (.int i1), .val (.int i2), .val (.int (i0 &&& (3 : Int32))), .val (.ref w), .val (.int (4 : Int32)), s6, s7, s8] [])) target → Steps p.tables e below (T0.setTop (mkF m 0 #[.val (.int i0), .val (.int i1), .val (.int i2), s3, s4, s5, s6, s7, s8] [])) target := by
  obtain ⟨T4, X4, e4, st4⟩ := getS2 X0 hx hZ hown (host := "") (Or.inl (hw _ (List.mem_of_getElem? (i := 0) rfl))) Via.refl e0 S_MichiganDocument_Scale_TENTH (g := (mkF m 8 #[.val (.int i0), .val (.int i1), .val (.int i2), .val (.int (i0 &&& (3 : Int32))), s4, s5, s6, s7, s8] [])) rfl (hb hby at_8)
  refine ⟨T4, X4, e4, fun target kt => ?_⟩
  show Steps p.tables e below (T0.setTop (mkF m 0 #[.val (.int i0), .val (.int i1), .val (.int i2), s3, s4, s5, s6, s7, s8] [])) _
  refine XS.iloadN X0.here hx rfl (hb hby at_0) rfl ?_
  show Steps p.tables e below (T0.setTop (mkF m 1 #[.val (.int i0), .val (.int i1), .val (.int i2), s3, s4, s5, s6, s7, s8] [(.int i0)])) _
  refine XS.iconst X0.here hx rfl (hb hby at_1) ?_
  show Steps p.tables e below (T0.setTop (mkF m 2 #[.val (.int i0), .val (.int i1), .val (.int i2), s3, s4, s5, s6, s7, s8] [(.int (3 : Int32)), (.int i0)])) _
  refine XS.iand X0.here hx rfl (hb hby at_2) rfl ?_
  show Steps p.tables e below (T0.setTop (mkF m 3 #[.val (.int i0), .val (.int i1), .val (.int i2), s3, s4, s5, s6, s7, s8] [(.int (i0 &&& (3 : Int32)))])) _
  refine XS.istoreN X0.here hx rfl (hb hby at_3) rfl (l' := #[.val (.int i0), .val (.int i1), .val (.int i2), .val (.int (i0 &&& (3 : Int32))), s4, s5, s6, s7, s8]) (os0_3 hs3) ?_
  show Steps p.tables e below (T0.setTop (mkF m 4 #[.val (.int i0), .val (.int i1), .val (.int i2), .val (.int (i0 &&& (3 : Int32))), s4, s5, s6, s7, s8] [])) _
  refine XS.iloadN X0.here hx rfl (hb hby at_4) rfl ?_
  show Steps p.tables e below (T0.setTop (mkF m 5 #[.val (.int i0), .val (.int i1), .val (.int i2), .val (.int (i0 &&& (3 : Int32))), s4, s5, s6, s7, s8] [(.int (i0 &&& (3 : Int32)))])) _
  refine XS.ifNo X0.here hx rfl (hb hby at_5) rfl ((if0 _ _).trans (teq hc5).2) ?_
  show Steps p.tables e below (T0.setTop (mkF m 8 #[.val (.int i0), .val (.int i1), .val (.int i2), .val (.int (i0 &&& (3 : Int32))), s4, s5, s6, s7, s8] [])) _
  refine st4 _ ?_
  show Steps p.tables e below (T4.setTop (mkF m 11 #[.val (.int i0), .val (.int i1), .val (.int i2), .val (.int (i0 &&& (3 : Int32))), s4, s5, s6, s7, s8] [(.ref w)])) _
  refine XS.astore X4.here hx rfl (hb hby at_11) rfl rfl (l' := #[.val (.int i0), .val (.int i1), .val (.int i2), .val (.int (i0 &&& (3 : Int32))), .val (.ref w), s5, s6, s7, s8]) (os0_11 hs4) ?_
  show Steps p.tables e below (T4.setTop (mkF m 13 #[.val (.int i0), .val (.int i1), .val (.int i2), .val (.int (i0 &&& (3 : Int32))), .val (.ref w), s5, s6, s7, s8] [])) _
  refine XS.iconst X4.here hx rfl (hb hby at_13) ?_
  show Steps p.tables e below (T4.setTop (mkF m 14 #[.val (.int i0), .val (.int i1), .val (.int i2), .val (.int (i0 &&& (3 : Int32))), .val (.ref w), s5, s6, s7, s8] [(.int (4 : Int32))])) _
  refine XS.istore X4.here hx rfl (hb hby at_14) rfl (l' := #[.val (.int i0), .val (.int i1), .val (.int i2), .val (.int (i0 &&& (3 : Int32))), .val (.ref w), .val (.int (4 : Int32)), s6, s7, s8]) (os0_14 hs5) ?_
  show Steps p.tables e below (T4.setTop (mkF m 16 #[.val (.int i0), .val (.int i1), .val (.int i2), .val (.int (i0 &&& (3 : Int32))), .val (.ref w), .val (.int (4 : Int32)), s6, s7, s8] [])) _
  refine XS.goto X4.here hx rfl (pc0 := 16) (pc' := 62) rfl (hb hby at_16) (by decide) (by decide) ?_
  exact kt
theorem os0_27 {z0 : Value} {z1 : Value} {z2 : Value} {z3 : Value} {s4 : Slot} {s5 : Slot} {s6 : Slot} {s7 : Slot} {s8 : Slot} {v : Addr} (h : One s4) : storeLocals #[.val z0, .val z1, .val z2, .val z3, s4, s5, s6, s7, s8] 4 (.ref v) = some #[.val z0, .val z1, .val z2, .val z3, .val (.ref v), s5, s6, s7, s8] := by
  rcases h with rfl | ⟨w, rfl, hw⟩
  · rfl
  · cases w <;> first | rfl | (simp [Value.category] at hw)
theorem os0_31 {z0 : Value} {z1 : Value} {z2 : Value} {z3 : Value} {z4 : Value} {s5 : Slot} {s6 : Slot} {s7 : Slot} {s8 : Slot} {v : Int32} (h : One s5) : storeLocals #[.val z0, .val z1, .val z2, .val z3, .val z4, s5, s6, s7, s8] 5 (.int v) = some #[.val z0, .val z1, .val z2, .val z3, .val z4, .val (.int v), s6, s7, s8] := by
  rcases h with rfl | ⟨w, rfl, hw⟩
  · rfl
  · cases w <;> first | rfl | (simp [Value.category] at hw)
set_option maxRecDepth 65536 in
set_option maxHeartbeats 40000000 in
theorem tn0_0_62_A1 {p : Program} {l : Launch} {e : Env} {R : Room} {s : State} {m : MethodId} {args : Array Value} {below : List Frame} {meth : Method} {c : Code} {T0 : State} {locs : List Loc} {cells slots : Nat} {Z : State} {a0 : Array Value} {h0 : Heap} (i0 : Int32) (i1 : Int32) (i2 : Int32) (s3 : Slot) (s4 : Slot) (s5 : Slot) (s6 : Slot) (s7 : Slot) (s8 : Slot) (w : Addr)
    (X0 : Stand p l e R s m args below meth c T0 locs cells slots) (hx : p.tables.exec = Jvm.exec) (hZ : Z.Warmed39 s.vm) (hw : ∀ d ∈ tables_1, d.before a0 Z = true) (hby : c.code = code) (hml : c.maxLocals = 9) (hown : s.vm.findClass "com/example/xml_table_store/xmltablestore/ScaleChildrenPinLaw" = some m.cls) (e0 : T0.heap = h0) (hs3 : One s3) (S_MichiganDocument_Scale_ONE : Sta Z h0 "com/example/xml_table_store/xmltablestore/MichiganDocument$Scale" "ONE" "Lcom/example/xml_table_store/xmltablestore/MichiganDocument$Scale;" (.ref w)) (hs4 : One s4) (hs5 : One s5) (hc5 : ¬ ((i0 &&& (3 : Int32)) = (0 : Int32))) (hc21 : (i0 &&& (3 : Int32)) = (1 : Int32)) :
    ∃ (T' : State), Stand p l e R s m args below meth c T' locs cells slots ∧ T'.heap = h0 ∧
      ∀ target, Steps p.tables e below (T'.setTop (mkF m 62 #[.val (.int i0), .val (.int i1), .val (.int i2), .val (.int (i0 &&& (3 : Int32))), .val (.ref w), .val (.int (13 : Int32)), s6, s7, s8] [])) target → Steps p.tables e below (T0.setTop (mkF m 0 #[.val (.int i0), .val (.int i1), .val (.int i2), s3, s4, s5, s6, s7, s8] [])) target := by
  obtain ⟨T4, X4, e4, st4⟩ := getS2 X0 hx hZ hown (host := "") (Or.inl (hw _ (List.mem_of_getElem? (i := 9) rfl))) Via.refl e0 S_MichiganDocument_Scale_ONE (g := (mkF m 24 #[.val (.int i0), .val (.int i1), .val (.int i2), .val (.int (i0 &&& (3 : Int32))), s4, s5, s6, s7, s8] [])) rfl (hb hby at_24)
  refine ⟨T4, X4, e4, fun target kt => ?_⟩
  show Steps p.tables e below (T0.setTop (mkF m 0 #[.val (.int i0), .val (.int i1), .val (.int i2), s3, s4, s5, s6, s7, s8] [])) _
  refine XS.iloadN X0.here hx rfl (hb hby at_0) rfl ?_
  show Steps p.tables e below (T0.setTop (mkF m 1 #[.val (.int i0), .val (.int i1), .val (.int i2), s3, s4, s5, s6, s7, s8] [(.int i0)])) _
  refine XS.iconst X0.here hx rfl (hb hby at_1) ?_
  show Steps p.tables e below (T0.setTop (mkF m 2 #[.val (.int i0), .val (.int i1), .val (.int i2), s3, s4, s5, s6, s7, s8] [(.int (3 : Int32)), (.int i0)])) _
  refine XS.iand X0.here hx rfl (hb hby at_2) rfl ?_
  show Steps p.tables e below (T0.setTop (mkF m 3 #[.val (.int i0), .val (.int i1), .val (.int i2), s3, s4, s5, s6, s7, s8] [(.int (i0 &&& (3 : Int32)))])) _
  refine XS.istoreN X0.here hx rfl (hb hby at_3) rfl (l' := #[.val (.int i0), .val (.int i1), .val (.int i2), .val (.int (i0 &&& (3 : Int32))), s4, s5, s6, s7, s8]) (os0_3 hs3) ?_
  show Steps p.tables e below (T0.setTop (mkF m 4 #[.val (.int i0), .val (.int i1), .val (.int i2), .val (.int (i0 &&& (3 : Int32))), s4, s5, s6, s7, s8] [])) _
  refine XS.iloadN X0.here hx rfl (hb hby at_4) rfl ?_
  show Steps p.tables e below (T0.setTop (mkF m 5 #[.val (.int i0), .val (.int i1), .val (.int i2), .val (.int (i0 &&& (3 : Int32))), s4, s5, s6, s7, s8] [(.int (i0 &&& (3 : Int32)))])) _
  refine XS.ifYes X0.here hx rfl (pc0 := 5) (pc' := 19) rfl (hb hby at_5) rfl ((if0 _ _).trans (feq hc5).2) (by decide) (by decide) ?_
  show Steps p.tables e below (T0.setTop (mkF m 19 #[.val (.int i0), .val (.int i1), .val (.int i2), .val (.int (i0 &&& (3 : Int32))), s4, s5, s6, s7, s8] [])) _
  refine XS.iloadN X0.here hx rfl (hb hby at_19) rfl ?_
  show Steps p.tables e below (T0.setTop (mkF m 20 #[.val (.int i0), .val (.int i1), .val (.int i2), .val (.int (i0 &&& (3 : Int32))), s4, s5, s6, s7, s8] [(.int (i0 &&& (3 : Int32)))])) _
  refine XS.iconst X0.here hx rfl (hb hby at_20) ?_
  show Steps p.tables e below (T0.setTop (mkF m 21 #[.val (.int i0), .val (.int i1), .val (.int i2), .val (.int (i0 &&& (3 : Int32))), s4, s5, s6, s7, s8] [(.int (1 : Int32)), (.int (i0 &&& (3 : Int32)))])) _
  refine XS.icmpNo X0.here hx rfl (hb hby at_21) rfl (teq hc21).2 ?_
  show Steps p.tables e below (T0.setTop (mkF m 24 #[.val (.int i0), .val (.int i1), .val (.int i2), .val (.int (i0 &&& (3 : Int32))), s4, s5, s6, s7, s8] [])) _
  refine st4 _ ?_
  show Steps p.tables e below (T4.setTop (mkF m 27 #[.val (.int i0), .val (.int i1), .val (.int i2), .val (.int (i0 &&& (3 : Int32))), s4, s5, s6, s7, s8] [(.ref w)])) _
  refine XS.astore X4.here hx rfl (hb hby at_27) rfl rfl (l' := #[.val (.int i0), .val (.int i1), .val (.int i2), .val (.int (i0 &&& (3 : Int32))), .val (.ref w), s5, s6, s7, s8]) (os0_27 hs4) ?_
  show Steps p.tables e below (T4.setTop (mkF m 29 #[.val (.int i0), .val (.int i1), .val (.int i2), .val (.int (i0 &&& (3 : Int32))), .val (.ref w), s5, s6, s7, s8] [])) _
  refine XS.bipush X4.here hx rfl (hb hby at_29) ?_
  show Steps p.tables e below (T4.setTop (mkF m 31 #[.val (.int i0), .val (.int i1), .val (.int i2), .val (.int (i0 &&& (3 : Int32))), .val (.ref w), s5, s6, s7, s8] [(.int (13 : Int32))])) _
  refine XS.istore X4.here hx rfl (hb hby at_31) rfl (l' := #[.val (.int i0), .val (.int i1), .val (.int i2), .val (.int (i0 &&& (3 : Int32))), .val (.ref w), .val (.int (13 : Int32)), s6, s7, s8]) (os0_31 hs5) ?_
  show Steps p.tables e below (T4.setTop (mkF m 33 #[.val (.int i0), .val (.int i1), .val (.int i2), .val (.int (i0 &&& (3 : Int32))), .val (.ref w), .val (.int (13 : Int32)), s6, s7, s8] [])) _
  refine XS.goto X4.here hx rfl (pc0 := 33) (pc' := 62) rfl (hb hby at_33) (by decide) (by decide) ?_
  exact kt
theorem os0_44 {z0 : Value} {z1 : Value} {z2 : Value} {z3 : Value} {s4 : Slot} {s5 : Slot} {s6 : Slot} {s7 : Slot} {s8 : Slot} {v : Addr} (h : One s4) : storeLocals #[.val z0, .val z1, .val z2, .val z3, s4, s5, s6, s7, s8] 4 (.ref v) = some #[.val z0, .val z1, .val z2, .val z3, .val (.ref v), s5, s6, s7, s8] := by
  rcases h with rfl | ⟨w, rfl, hw⟩
  · rfl
  · cases w <;> first | rfl | (simp [Value.category] at hw)
theorem os0_48 {z0 : Value} {z1 : Value} {z2 : Value} {z3 : Value} {z4 : Value} {s5 : Slot} {s6 : Slot} {s7 : Slot} {s8 : Slot} {v : Int32} (h : One s5) : storeLocals #[.val z0, .val z1, .val z2, .val z3, .val z4, s5, s6, s7, s8] 5 (.int v) = some #[.val z0, .val z1, .val z2, .val z3, .val z4, .val (.int v), s6, s7, s8] := by
  rcases h with rfl | ⟨w, rfl, hw⟩
  · rfl
  · cases w <;> first | rfl | (simp [Value.category] at hw)
set_option maxRecDepth 65536 in
set_option maxHeartbeats 40000000 in
theorem tn0_0_62_A2 {p : Program} {l : Launch} {e : Env} {R : Room} {s : State} {m : MethodId} {args : Array Value} {below : List Frame} {meth : Method} {c : Code} {T0 : State} {locs : List Loc} {cells slots : Nat} {Z : State} {a0 : Array Value} {h0 : Heap} (i0 : Int32) (i1 : Int32) (i2 : Int32) (s3 : Slot) (s4 : Slot) (s5 : Slot) (s6 : Slot) (s7 : Slot) (s8 : Slot) (w : Addr)
    (X0 : Stand p l e R s m args below meth c T0 locs cells slots) (hx : p.tables.exec = Jvm.exec) (hZ : Z.Warmed39 s.vm) (hw : ∀ d ∈ tables_1, d.before a0 Z = true) (hby : c.code = code) (hml : c.maxLocals = 9) (hown : s.vm.findClass "com/example/xml_table_store/xmltablestore/ScaleChildrenPinLaw" = some m.cls) (e0 : T0.heap = h0) (hs3 : One s3) (S_MichiganDocument_Scale_TEN : Sta Z h0 "com/example/xml_table_store/xmltablestore/MichiganDocument$Scale" "TEN" "Lcom/example/xml_table_store/xmltablestore/MichiganDocument$Scale;" (.ref w)) (hs4 : One s4) (hs5 : One s5) (hc5 : ¬ ((i0 &&& (3 : Int32)) = (0 : Int32))) (hc21 : ¬ ((i0 &&& (3 : Int32)) = (1 : Int32))) (hc38 : (i0 &&& (3 : Int32)) = (2 : Int32)) :
    ∃ (T' : State), Stand p l e R s m args below meth c T' locs cells slots ∧ T'.heap = h0 ∧
      ∀ target, Steps p.tables e below (T'.setTop (mkF m 62 #[.val (.int i0), .val (.int i1), .val (.int i2), .val (.int (i0 &&& (3 : Int32))), .val (.ref w), .val (.int (39 : Int32)), s6, s7, s8] [])) target → Steps p.tables e below (T0.setTop (mkF m 0 #[.val (.int i0), .val (.int i1), .val (.int i2), s3, s4, s5, s6, s7, s8] [])) target := by
  obtain ⟨T4, X4, e4, st4⟩ := getS2 X0 hx hZ hown (host := "") (Or.inl (hw _ (List.mem_of_getElem? (i := 13) rfl))) Via.refl e0 S_MichiganDocument_Scale_TEN (g := (mkF m 41 #[.val (.int i0), .val (.int i1), .val (.int i2), .val (.int (i0 &&& (3 : Int32))), s4, s5, s6, s7, s8] [])) rfl (hb hby at_41)
  refine ⟨T4, X4, e4, fun target kt => ?_⟩
  show Steps p.tables e below (T0.setTop (mkF m 0 #[.val (.int i0), .val (.int i1), .val (.int i2), s3, s4, s5, s6, s7, s8] [])) _
  refine XS.iloadN X0.here hx rfl (hb hby at_0) rfl ?_
  show Steps p.tables e below (T0.setTop (mkF m 1 #[.val (.int i0), .val (.int i1), .val (.int i2), s3, s4, s5, s6, s7, s8] [(.int i0)])) _
  refine XS.iconst X0.here hx rfl (hb hby at_1) ?_
  show Steps p.tables e below (T0.setTop (mkF m 2 #[.val (.int i0), .val (.int i1), .val (.int i2), s3, s4, s5, s6, s7, s8] [(.int (3 : Int32)), (.int i0)])) _
  refine XS.iand X0.here hx rfl (hb hby at_2) rfl ?_
  show Steps p.tables e below (T0.setTop (mkF m 3 #[.val (.int i0), .val (.int i1), .val (.int i2), s3, s4, s5, s6, s7, s8] [(.int (i0 &&& (3 : Int32)))])) _
  refine XS.istoreN X0.here hx rfl (hb hby at_3) rfl (l' := #[.val (.int i0), .val (.int i1), .val (.int i2), .val (.int (i0 &&& (3 : Int32))), s4, s5, s6, s7, s8]) (os0_3 hs3) ?_
  show Steps p.tables e below (T0.setTop (mkF m 4 #[.val (.int i0), .val (.int i1), .val (.int i2), .val (.int (i0 &&& (3 : Int32))), s4, s5, s6, s7, s8] [])) _
  refine XS.iloadN X0.here hx rfl (hb hby at_4) rfl ?_
  show Steps p.tables e below (T0.setTop (mkF m 5 #[.val (.int i0), .val (.int i1), .val (.int i2), .val (.int (i0 &&& (3 : Int32))), s4, s5, s6, s7, s8] [(.int (i0 &&& (3 : Int32)))])) _
  refine XS.ifYes X0.here hx rfl (pc0 := 5) (pc' := 19) rfl (hb hby at_5) rfl ((if0 _ _).trans (feq hc5).2) (by decide) (by decide) ?_
  show Steps p.tables e below (T0.setTop (mkF m 19 #[.val (.int i0), .val (.int i1), .val (.int i2), .val (.int (i0 &&& (3 : Int32))), s4, s5, s6, s7, s8] [])) _
  refine XS.iloadN X0.here hx rfl (hb hby at_19) rfl ?_
  show Steps p.tables e below (T0.setTop (mkF m 20 #[.val (.int i0), .val (.int i1), .val (.int i2), .val (.int (i0 &&& (3 : Int32))), s4, s5, s6, s7, s8] [(.int (i0 &&& (3 : Int32)))])) _
  refine XS.iconst X0.here hx rfl (hb hby at_20) ?_
  show Steps p.tables e below (T0.setTop (mkF m 21 #[.val (.int i0), .val (.int i1), .val (.int i2), .val (.int (i0 &&& (3 : Int32))), s4, s5, s6, s7, s8] [(.int (1 : Int32)), (.int (i0 &&& (3 : Int32)))])) _
  refine XS.icmpYes X0.here hx rfl (pc0 := 21) (pc' := 36) rfl (hb hby at_21) rfl (feq hc21).2 (by decide) (by decide) ?_
  show Steps p.tables e below (T0.setTop (mkF m 36 #[.val (.int i0), .val (.int i1), .val (.int i2), .val (.int (i0 &&& (3 : Int32))), s4, s5, s6, s7, s8] [])) _
  refine XS.iloadN X0.here hx rfl (hb hby at_36) rfl ?_
  show Steps p.tables e below (T0.setTop (mkF m 37 #[.val (.int i0), .val (.int i1), .val (.int i2), .val (.int (i0 &&& (3 : Int32))), s4, s5, s6, s7, s8] [(.int (i0 &&& (3 : Int32)))])) _
  refine XS.iconst X0.here hx rfl (hb hby at_37) ?_
  show Steps p.tables e below (T0.setTop (mkF m 38 #[.val (.int i0), .val (.int i1), .val (.int i2), .val (.int (i0 &&& (3 : Int32))), s4, s5, s6, s7, s8] [(.int (2 : Int32)), (.int (i0 &&& (3 : Int32)))])) _
  refine XS.icmpNo X0.here hx rfl (hb hby at_38) rfl (teq hc38).2 ?_
  show Steps p.tables e below (T0.setTop (mkF m 41 #[.val (.int i0), .val (.int i1), .val (.int i2), .val (.int (i0 &&& (3 : Int32))), s4, s5, s6, s7, s8] [])) _
  refine st4 _ ?_
  show Steps p.tables e below (T4.setTop (mkF m 44 #[.val (.int i0), .val (.int i1), .val (.int i2), .val (.int (i0 &&& (3 : Int32))), s4, s5, s6, s7, s8] [(.ref w)])) _
  refine XS.astore X4.here hx rfl (hb hby at_44) rfl rfl (l' := #[.val (.int i0), .val (.int i1), .val (.int i2), .val (.int (i0 &&& (3 : Int32))), .val (.ref w), s5, s6, s7, s8]) (os0_44 hs4) ?_
  show Steps p.tables e below (T4.setTop (mkF m 46 #[.val (.int i0), .val (.int i1), .val (.int i2), .val (.int (i0 &&& (3 : Int32))), .val (.ref w), s5, s6, s7, s8] [])) _
  refine XS.bipush X4.here hx rfl (hb hby at_46) ?_
  show Steps p.tables e below (T4.setTop (mkF m 48 #[.val (.int i0), .val (.int i1), .val (.int i2), .val (.int (i0 &&& (3 : Int32))), .val (.ref w), s5, s6, s7, s8] [(.int (39 : Int32))])) _
  refine XS.istore X4.here hx rfl (hb hby at_48) rfl (l' := #[.val (.int i0), .val (.int i1), .val (.int i2), .val (.int (i0 &&& (3 : Int32))), .val (.ref w), .val (.int (39 : Int32)), s6, s7, s8]) (os0_48 hs5) ?_
  show Steps p.tables e below (T4.setTop (mkF m 50 #[.val (.int i0), .val (.int i1), .val (.int i2), .val (.int (i0 &&& (3 : Int32))), .val (.ref w), .val (.int (39 : Int32)), s6, s7, s8] [])) _
  refine XS.goto X4.here hx rfl (pc0 := 50) (pc' := 62) rfl (hb hby at_50) (by decide) (by decide) ?_
  exact kt
theorem os0_56 {z0 : Value} {z1 : Value} {z2 : Value} {z3 : Value} {s4 : Slot} {s5 : Slot} {s6 : Slot} {s7 : Slot} {s8 : Slot} {v : Addr} (h : One s4) : storeLocals #[.val z0, .val z1, .val z2, .val z3, s4, s5, s6, s7, s8] 4 (.ref v) = some #[.val z0, .val z1, .val z2, .val z3, .val (.ref v), s5, s6, s7, s8] := by
  rcases h with rfl | ⟨w, rfl, hw⟩
  · rfl
  · cases w <;> first | rfl | (simp [Value.category] at hw)
theorem os0_60 {z0 : Value} {z1 : Value} {z2 : Value} {z3 : Value} {z4 : Value} {s5 : Slot} {s6 : Slot} {s7 : Slot} {s8 : Slot} {v : Int32} (h : One s5) : storeLocals #[.val z0, .val z1, .val z2, .val z3, .val z4, s5, s6, s7, s8] 5 (.int v) = some #[.val z0, .val z1, .val z2, .val z3, .val z4, .val (.int v), s6, s7, s8] := by
  rcases h with rfl | ⟨w, rfl, hw⟩
  · rfl
  · cases w <;> first | rfl | (simp [Value.category] at hw)
set_option maxRecDepth 65536 in
set_option maxHeartbeats 40000000 in
theorem tn0_0_62_A3 {p : Program} {l : Launch} {e : Env} {R : Room} {s : State} {m : MethodId} {args : Array Value} {below : List Frame} {meth : Method} {c : Code} {T0 : State} {locs : List Loc} {cells slots : Nat} {Z : State} {a0 : Array Value} {h0 : Heap} (i0 : Int32) (i1 : Int32) (i2 : Int32) (s3 : Slot) (s4 : Slot) (s5 : Slot) (s6 : Slot) (s7 : Slot) (s8 : Slot) (w : Addr)
    (X0 : Stand p l e R s m args below meth c T0 locs cells slots) (hx : p.tables.exec = Jvm.exec) (hZ : Z.Warmed39 s.vm) (hw : ∀ d ∈ tables_1, d.before a0 Z = true) (hby : c.code = code) (hml : c.maxLocals = 9) (hown : s.vm.findClass "com/example/xml_table_store/xmltablestore/ScaleChildrenPinLaw" = some m.cls) (e0 : T0.heap = h0) (hs3 : One s3) (S_MichiganDocument_Scale_HUNDRED : Sta Z h0 "com/example/xml_table_store/xmltablestore/MichiganDocument$Scale" "HUNDRED" "Lcom/example/xml_table_store/xmltablestore/MichiganDocument$Scale;" (.ref w)) (hs4 : One s4) (hs5 : One s5) (hc5 : ¬ ((i0 &&& (3 : Int32)) = (0 : Int32))) (hc21 : ¬ ((i0 &&& (3 : Int32)) = (1 : Int32))) (hc38 : ¬ ((i0 &&& (3 : Int32)) = (2 : Int32))) :
    ∃ (T' : State), Stand p l e R s m args below meth c T' locs cells slots ∧ T'.heap = h0 ∧
      ∀ target, Steps p.tables e below (T'.setTop (mkF m 62 #[.val (.int i0), .val (.int i1), .val (.int i2), .val (.int (i0 &&& (3 : Int32))), .val (.ref w), .val (.int (111 : Int32)), s6, s7, s8] [])) target → Steps p.tables e below (T0.setTop (mkF m 0 #[.val (.int i0), .val (.int i1), .val (.int i2), s3, s4, s5, s6, s7, s8] [])) target := by
  obtain ⟨T4, X4, e4, st4⟩ := getS2 X0 hx hZ hown (host := "") (Or.inl (hw _ (List.mem_of_getElem? (i := 11) rfl))) Via.refl e0 S_MichiganDocument_Scale_HUNDRED (g := (mkF m 53 #[.val (.int i0), .val (.int i1), .val (.int i2), .val (.int (i0 &&& (3 : Int32))), s4, s5, s6, s7, s8] [])) rfl (hb hby at_53)
  refine ⟨T4, X4, e4, fun target kt => ?_⟩
  show Steps p.tables e below (T0.setTop (mkF m 0 #[.val (.int i0), .val (.int i1), .val (.int i2), s3, s4, s5, s6, s7, s8] [])) _
  refine XS.iloadN X0.here hx rfl (hb hby at_0) rfl ?_
  show Steps p.tables e below (T0.setTop (mkF m 1 #[.val (.int i0), .val (.int i1), .val (.int i2), s3, s4, s5, s6, s7, s8] [(.int i0)])) _
  refine XS.iconst X0.here hx rfl (hb hby at_1) ?_
  show Steps p.tables e below (T0.setTop (mkF m 2 #[.val (.int i0), .val (.int i1), .val (.int i2), s3, s4, s5, s6, s7, s8] [(.int (3 : Int32)), (.int i0)])) _
  refine XS.iand X0.here hx rfl (hb hby at_2) rfl ?_
  show Steps p.tables e below (T0.setTop (mkF m 3 #[.val (.int i0), .val (.int i1), .val (.int i2), s3, s4, s5, s6, s7, s8] [(.int (i0 &&& (3 : Int32)))])) _
  refine XS.istoreN X0.here hx rfl (hb hby at_3) rfl (l' := #[.val (.int i0), .val (.int i1), .val (.int i2), .val (.int (i0 &&& (3 : Int32))), s4, s5, s6, s7, s8]) (os0_3 hs3) ?_
  show Steps p.tables e below (T0.setTop (mkF m 4 #[.val (.int i0), .val (.int i1), .val (.int i2), .val (.int (i0 &&& (3 : Int32))), s4, s5, s6, s7, s8] [])) _
  refine XS.iloadN X0.here hx rfl (hb hby at_4) rfl ?_
  show Steps p.tables e below (T0.setTop (mkF m 5 #[.val (.int i0), .val (.int i1), .val (.int i2), .val (.int (i0 &&& (3 : Int32))), s4, s5, s6, s7, s8] [(.int (i0 &&& (3 : Int32)))])) _
  refine XS.ifYes X0.here hx rfl (pc0 := 5) (pc' := 19) rfl (hb hby at_5) rfl ((if0 _ _).trans (feq hc5).2) (by decide) (by decide) ?_
  show Steps p.tables e below (T0.setTop (mkF m 19 #[.val (.int i0), .val (.int i1), .val (.int i2), .val (.int (i0 &&& (3 : Int32))), s4, s5, s6, s7, s8] [])) _
  refine XS.iloadN X0.here hx rfl (hb hby at_19) rfl ?_
  show Steps p.tables e below (T0.setTop (mkF m 20 #[.val (.int i0), .val (.int i1), .val (.int i2), .val (.int (i0 &&& (3 : Int32))), s4, s5, s6, s7, s8] [(.int (i0 &&& (3 : Int32)))])) _
  refine XS.iconst X0.here hx rfl (hb hby at_20) ?_
  show Steps p.tables e below (T0.setTop (mkF m 21 #[.val (.int i0), .val (.int i1), .val (.int i2), .val (.int (i0 &&& (3 : Int32))), s4, s5, s6, s7, s8] [(.int (1 : Int32)), (.int (i0 &&& (3 : Int32)))])) _
  refine XS.icmpYes X0.here hx rfl (pc0 := 21) (pc' := 36) rfl (hb hby at_21) rfl (feq hc21).2 (by decide) (by decide) ?_
  show Steps p.tables e below (T0.setTop (mkF m 36 #[.val (.int i0), .val (.int i1), .val (.int i2), .val (.int (i0 &&& (3 : Int32))), s4, s5, s6, s7, s8] [])) _
  refine XS.iloadN X0.here hx rfl (hb hby at_36) rfl ?_
  show Steps p.tables e below (T0.setTop (mkF m 37 #[.val (.int i0), .val (.int i1), .val (.int i2), .val (.int (i0 &&& (3 : Int32))), s4, s5, s6, s7, s8] [(.int (i0 &&& (3 : Int32)))])) _
  refine XS.iconst X0.here hx rfl (hb hby at_37) ?_
  show Steps p.tables e below (T0.setTop (mkF m 38 #[.val (.int i0), .val (.int i1), .val (.int i2), .val (.int (i0 &&& (3 : Int32))), s4, s5, s6, s7, s8] [(.int (2 : Int32)), (.int (i0 &&& (3 : Int32)))])) _
  refine XS.icmpYes X0.here hx rfl (pc0 := 38) (pc' := 53) rfl (hb hby at_38) rfl (feq hc38).2 (by decide) (by decide) ?_
  show Steps p.tables e below (T0.setTop (mkF m 53 #[.val (.int i0), .val (.int i1), .val (.int i2), .val (.int (i0 &&& (3 : Int32))), s4, s5, s6, s7, s8] [])) _
  refine st4 _ ?_
  show Steps p.tables e below (T4.setTop (mkF m 56 #[.val (.int i0), .val (.int i1), .val (.int i2), .val (.int (i0 &&& (3 : Int32))), s4, s5, s6, s7, s8] [(.ref w)])) _
  refine XS.astore X4.here hx rfl (hb hby at_56) rfl rfl (l' := #[.val (.int i0), .val (.int i1), .val (.int i2), .val (.int (i0 &&& (3 : Int32))), .val (.ref w), s5, s6, s7, s8]) (os0_56 hs4) ?_
  show Steps p.tables e below (T4.setTop (mkF m 58 #[.val (.int i0), .val (.int i1), .val (.int i2), .val (.int (i0 &&& (3 : Int32))), .val (.ref w), s5, s6, s7, s8] [])) _
  refine XS.bipush X4.here hx rfl (hb hby at_58) ?_
  show Steps p.tables e below (T4.setTop (mkF m 60 #[.val (.int i0), .val (.int i1), .val (.int i2), .val (.int (i0 &&& (3 : Int32))), .val (.ref w), s5, s6, s7, s8] [(.int (111 : Int32))])) _
  refine XS.istore X4.here hx rfl (hb hby at_60) rfl (l' := #[.val (.int i0), .val (.int i1), .val (.int i2), .val (.int (i0 &&& (3 : Int32))), .val (.ref w), .val (.int (111 : Int32)), s6, s7, s8]) (os0_60 hs5) ?_
  exact kt
theorem os0_71 {z0 : Value} {z1 : Value} {z2 : Value} {z3 : Value} {z4 : Value} {z5 : Value} {s6 : Slot} {s7 : Slot} {s8 : Slot} {v : Int32} (h : One s6) : storeLocals #[.val z0, .val z1, .val z2, .val z3, .val z4, .val z5, s6, s7, s8] 6 (.int v) = some #[.val z0, .val z1, .val z2, .val z3, .val z4, .val z5, .val (.int v), s7, s8] := by
  rcases h with rfl | ⟨w, rfl, hw⟩
  · rfl
  · cases w <;> first | rfl | (simp [Value.category] at hw)
theorem os0_77 {z0 : Value} {z1 : Value} {z2 : Value} {z3 : Value} {z4 : Value} {z5 : Value} {z6 : Value} {s7 : Slot} {s8 : Slot} {v : Int32} (h : One s7) : storeLocals #[.val z0, .val z1, .val z2, .val z3, .val z4, .val z5, .val z6, s7, s8] 7 (.int v) = some #[.val z0, .val z1, .val z2, .val z3, .val z4, .val z5, .val z6, .val (.int v), s8] := by
  rcases h with rfl | ⟨w, rfl, hw⟩
  · rfl
  · cases w <;> first | rfl | (simp [Value.category] at hw)
set_option maxRecDepth 65536 in
set_option maxHeartbeats 40000000 in
theorem tn0_62_97_B0 {p : Program} {l : Launch} {e : Env} {R : Room} {s : State} {m : MethodId} {args : Array Value} {below : List Frame} {meth : Method} {c : Code} {T0 : State} {locs : List Loc} {cells slots : Nat} {Z : State} {a0 : Array Value} {h0 : Heap} (i0 : Int32) (i1 : Int32) (i2 : Int32) (i3 : Int32) (o4 : Addr) (i5 : Int32) (s6 : Slot) (s7 : Slot) (s8 : Slot)
    (X0 : Stand p l e R s m args below meth c T0 locs cells slots) (hx : p.tables.exec = Jvm.exec) (hZ : Z.Warmed39 s.vm) (hw : ∀ d ∈ tables_1, d.before a0 Z = true) (hby : c.code = code) (hml : c.maxLocals = 9) (hown : s.vm.findClass "com/example/xml_table_store/xmltablestore/ScaleChildrenPinLaw" = some m.cls) (e0 : T0.heap = h0) (hs6 : One s6) (hs7 : One s7) (hc84 : ((i0 >>> ((2 : Int32) &&& 31)) &&& (1 : Int32)) = (0 : Int32)) :
    ∃ (T' : State), Stand p l e R s m args below meth c T' locs cells slots ∧ T'.heap = h0 ∧
      ∀ target, Steps p.tables e below (T'.setTop (mkF m 97 #[.val (.int i0), .val (.int i1), .val (.int i2), .val (.int i3), .val (.ref o4), .val (.int i5), .val (.int (((i1 &&& (2147483647 : Int32)) - ((i1 &&& (2147483647 : Int32)) / (16 : Int32)) * (16 : Int32)) + (1 : Int32))), .val (.int (i2 &&& (2147483647 : Int32))), s8] [])) target → Steps p.tables e below (T0.setTop (mkF m 62 #[.val (.int i0), .val (.int i1), .val (.int i2), .val (.int i3), .val (.ref o4), .val (.int i5), s6, s7, s8] [])) target := by

  refine ⟨T0, X0, e0, fun target kt => ?_⟩
  show Steps p.tables e below (T0.setTop (mkF m 62 #[.val (.int i0), .val (.int i1), .val (.int i2), .val (.int i3), .val (.ref o4), .val (.int i5), s6, s7, s8] [])) _
  refine XS.iloadN X0.here hx rfl (hb hby at_62) rfl ?_
  show Steps p.tables e below (T0.setTop (mkF m 63 #[.val (.int i0), .val (.int i1), .val (.int i2), .val (.int i3), .val (.ref o4), .val (.int i5), s6, s7, s8] [(.int i1)])) _
  refine X0.ldcInt hx hown (mvT hZ (hw _ (List.mem_of_getElem? (i := 3) rfl))) (g := (mkF m 63 #[.val (.int i0), .val (.int i1), .val (.int i2), .val (.int i3), .val (.ref o4), .val (.int i5), s6, s7, s8] [(.int i1)])) rfl (hb hby at_63) _ ?_
  show Steps p.tables e below (T0.setTop (mkF m 65 #[.val (.int i0), .val (.int i1), .val (.int i2), .val (.int i3), .val (.ref o4), .val (.int i5), s6, s7, s8] [(.int (2147483647 : Int32)), (.int i1)])) _
  refine XS.iand X0.here hx rfl (hb hby at_65) rfl ?_
  show Steps p.tables e below (T0.setTop (mkF m 66 #[.val (.int i0), .val (.int i1), .val (.int i2), .val (.int i3), .val (.ref o4), .val (.int i5), s6, s7, s8] [(.int (i1 &&& (2147483647 : Int32)))])) _
  refine XS.bipush X0.here hx rfl (hb hby at_66) ?_
  show Steps p.tables e below (T0.setTop (mkF m 68 #[.val (.int i0), .val (.int i1), .val (.int i2), .val (.int i3), .val (.ref o4), .val (.int i5), s6, s7, s8] [(.int (16 : Int32)), (.int (i1 &&& (2147483647 : Int32)))])) _
  refine XS.irem X0.here hx rfl (hb hby at_68) rfl (by decide) ?_
  show Steps p.tables e below (T0.setTop (mkF m 69 #[.val (.int i0), .val (.int i1), .val (.int i2), .val (.int i3), .val (.ref o4), .val (.int i5), s6, s7, s8] [(.int ((i1 &&& (2147483647 : Int32)) - ((i1 &&& (2147483647 : Int32)) / (16 : Int32)) * (16 : Int32)))])) _
  refine XS.iconst X0.here hx rfl (hb hby at_69) ?_
  show Steps p.tables e below (T0.setTop (mkF m 70 #[.val (.int i0), .val (.int i1), .val (.int i2), .val (.int i3), .val (.ref o4), .val (.int i5), s6, s7, s8] [(.int (1 : Int32)), (.int ((i1 &&& (2147483647 : Int32)) - ((i1 &&& (2147483647 : Int32)) / (16 : Int32)) * (16 : Int32)))])) _
  refine XS.iadd X0.here hx rfl (hb hby at_70) rfl ?_
  show Steps p.tables e below (T0.setTop (mkF m 71 #[.val (.int i0), .val (.int i1), .val (.int i2), .val (.int i3), .val (.ref o4), .val (.int i5), s6, s7, s8] [(.int (((i1 &&& (2147483647 : Int32)) - ((i1 &&& (2147483647 : Int32)) / (16 : Int32)) * (16 : Int32)) + (1 : Int32)))])) _
  refine XS.istore X0.here hx rfl (hb hby at_71) rfl (l' := #[.val (.int i0), .val (.int i1), .val (.int i2), .val (.int i3), .val (.ref o4), .val (.int i5), .val (.int (((i1 &&& (2147483647 : Int32)) - ((i1 &&& (2147483647 : Int32)) / (16 : Int32)) * (16 : Int32)) + (1 : Int32))), s7, s8]) (os0_71 hs6) ?_
  show Steps p.tables e below (T0.setTop (mkF m 73 #[.val (.int i0), .val (.int i1), .val (.int i2), .val (.int i3), .val (.ref o4), .val (.int i5), .val (.int (((i1 &&& (2147483647 : Int32)) - ((i1 &&& (2147483647 : Int32)) / (16 : Int32)) * (16 : Int32)) + (1 : Int32))), s7, s8] [])) _
  refine XS.iloadN X0.here hx rfl (hb hby at_73) rfl ?_
  show Steps p.tables e below (T0.setTop (mkF m 74 #[.val (.int i0), .val (.int i1), .val (.int i2), .val (.int i3), .val (.ref o4), .val (.int i5), .val (.int (((i1 &&& (2147483647 : Int32)) - ((i1 &&& (2147483647 : Int32)) / (16 : Int32)) * (16 : Int32)) + (1 : Int32))), s7, s8] [(.int i2)])) _
  refine X0.ldcInt hx hown (mvT hZ (hw _ (List.mem_of_getElem? (i := 3) rfl))) (g := (mkF m 74 #[.val (.int i0), .val (.int i1), .val (.int i2), .val (.int i3), .val (.ref o4), .val (.int i5), .val (.int (((i1 &&& (2147483647 : Int32)) - ((i1 &&& (2147483647 : Int32)) / (16 : Int32)) * (16 : Int32)) + (1 : Int32))), s7, s8] [(.int i2)])) rfl (hb hby at_74) _ ?_
  show Steps p.tables e below (T0.setTop (mkF m 76 #[.val (.int i0), .val (.int i1), .val (.int i2), .val (.int i3), .val (.ref o4), .val (.int i5), .val (.int (((i1 &&& (2147483647 : Int32)) - ((i1 &&& (2147483647 : Int32)) / (16 : Int32)) * (16 : Int32)) + (1 : Int32))), s7, s8] [(.int (2147483647 : Int32)), (.int i2)])) _
  refine XS.iand X0.here hx rfl (hb hby at_76) rfl ?_
  show Steps p.tables e below (T0.setTop (mkF m 77 #[.val (.int i0), .val (.int i1), .val (.int i2), .val (.int i3), .val (.ref o4), .val (.int i5), .val (.int (((i1 &&& (2147483647 : Int32)) - ((i1 &&& (2147483647 : Int32)) / (16 : Int32)) * (16 : Int32)) + (1 : Int32))), s7, s8] [(.int (i2 &&& (2147483647 : Int32)))])) _
  refine XS.istore X0.here hx rfl (hb hby at_77) rfl (l' := #[.val (.int i0), .val (.int i1), .val (.int i2), .val (.int i3), .val (.ref o4), .val (.int i5), .val (.int (((i1 &&& (2147483647 : Int32)) - ((i1 &&& (2147483647 : Int32)) / (16 : Int32)) * (16 : Int32)) + (1 : Int32))), .val (.int (i2 &&& (2147483647 : Int32))), s8]) (os0_77 hs7) ?_
  show Steps p.tables e below (T0.setTop (mkF m 79 #[.val (.int i0), .val (.int i1), .val (.int i2), .val (.int i3), .val (.ref o4), .val (.int i5), .val (.int (((i1 &&& (2147483647 : Int32)) - ((i1 &&& (2147483647 : Int32)) / (16 : Int32)) * (16 : Int32)) + (1 : Int32))), .val (.int (i2 &&& (2147483647 : Int32))), s8] [])) _
  refine XS.iloadN X0.here hx rfl (hb hby at_79) rfl ?_
  show Steps p.tables e below (T0.setTop (mkF m 80 #[.val (.int i0), .val (.int i1), .val (.int i2), .val (.int i3), .val (.ref o4), .val (.int i5), .val (.int (((i1 &&& (2147483647 : Int32)) - ((i1 &&& (2147483647 : Int32)) / (16 : Int32)) * (16 : Int32)) + (1 : Int32))), .val (.int (i2 &&& (2147483647 : Int32))), s8] [(.int i0)])) _
  refine XS.iconst X0.here hx rfl (hb hby at_80) ?_
  show Steps p.tables e below (T0.setTop (mkF m 81 #[.val (.int i0), .val (.int i1), .val (.int i2), .val (.int i3), .val (.ref o4), .val (.int i5), .val (.int (((i1 &&& (2147483647 : Int32)) - ((i1 &&& (2147483647 : Int32)) / (16 : Int32)) * (16 : Int32)) + (1 : Int32))), .val (.int (i2 &&& (2147483647 : Int32))), s8] [(.int (2 : Int32)), (.int i0)])) _
  refine XS.ishr X0.here hx rfl (hb hby at_81) rfl ?_
  show Steps p.tables e below (T0.setTop (mkF m 82 #[.val (.int i0), .val (.int i1), .val (.int i2), .val (.int i3), .val (.ref o4), .val (.int i5), .val (.int (((i1 &&& (2147483647 : Int32)) - ((i1 &&& (2147483647 : Int32)) / (16 : Int32)) * (16 : Int32)) + (1 : Int32))), .val (.int (i2 &&& (2147483647 : Int32))), s8] [(.int (i0 >>> ((2 : Int32) &&& 31)))])) _
  refine XS.iconst X0.here hx rfl (hb hby at_82) ?_
  show Steps p.tables e below (T0.setTop (mkF m 83 #[.val (.int i0), .val (.int i1), .val (.int i2), .val (.int i3), .val (.ref o4), .val (.int i5), .val (.int (((i1 &&& (2147483647 : Int32)) - ((i1 &&& (2147483647 : Int32)) / (16 : Int32)) * (16 : Int32)) + (1 : Int32))), .val (.int (i2 &&& (2147483647 : Int32))), s8] [(.int (1 : Int32)), (.int (i0 >>> ((2 : Int32) &&& 31)))])) _
  refine XS.iand X0.here hx rfl (hb hby at_83) rfl ?_
  show Steps p.tables e below (T0.setTop (mkF m 84 #[.val (.int i0), .val (.int i1), .val (.int i2), .val (.int i3), .val (.ref o4), .val (.int i5), .val (.int (((i1 &&& (2147483647 : Int32)) - ((i1 &&& (2147483647 : Int32)) / (16 : Int32)) * (16 : Int32)) + (1 : Int32))), .val (.int (i2 &&& (2147483647 : Int32))), s8] [(.int ((i0 >>> ((2 : Int32) &&& 31)) &&& (1 : Int32)))])) _
  refine XS.ifYes X0.here hx rfl (pc0 := 84) (pc' := 97) rfl (hb hby at_84) rfl ((if0 _ _).trans (teq hc84).1) (by decide) (by decide) ?_
  exact kt
set_option maxRecDepth 65536 in
set_option maxHeartbeats 40000000 in
theorem tn0_62_97_B1 {p : Program} {l : Launch} {e : Env} {R : Room} {s : State} {m : MethodId} {args : Array Value} {below : List Frame} {meth : Method} {c : Code} {T0 : State} {locs : List Loc} {cells slots : Nat} {Z : State} {a0 : Array Value} {h0 : Heap} (i0 : Int32) (i1 : Int32) (i2 : Int32) (i3 : Int32) (o4 : Addr) (i5 : Int32) (s6 : Slot) (s7 : Slot) (s8 : Slot)
    (X0 : Stand p l e R s m args below meth c T0 locs cells slots) (hx : p.tables.exec = Jvm.exec) (hZ : Z.Warmed39 s.vm) (hw : ∀ d ∈ tables_1, d.before a0 Z = true) (hby : c.code = code) (hml : c.maxLocals = 9) (hown : s.vm.findClass "com/example/xml_table_store/xmltablestore/ScaleChildrenPinLaw" = some m.cls) (e0 : T0.heap = h0) (hs6 : One s6) (hs7 : One s7) (hc84 : ¬ (((i0 >>> ((2 : Int32) &&& 31)) &&& (1 : Int32)) = (0 : Int32))) (hnz91 : ¬ (i5 = (0 : Int32))) :
    ∃ (T' : State), Stand p l e R s m args below meth c T' locs cells slots ∧ T'.heap = h0 ∧
      ∀ target, Steps p.tables e below (T'.setTop (mkF m 97 #[.val (.int i0), .val (.int i1), .val (.int i2), .val (.int i3), .val (.ref o4), .val (.int i5), .val (.int (((i1 &&& (2147483647 : Int32)) - ((i1 &&& (2147483647 : Int32)) / (16 : Int32)) * (16 : Int32)) + (1 : Int32))), .val (.int (((i2 &&& (2147483647 : Int32)) / i5) * i5)), s8] [])) target → Steps p.tables e below (T0.setTop (mkF m 62 #[.val (.int i0), .val (.int i1), .val (.int i2), .val (.int i3), .val (.ref o4), .val (.int i5), s6, s7, s8] [])) target := by

  refine ⟨T0, X0, e0, fun target kt => ?_⟩
  show Steps p.tables e below (T0.setTop (mkF m 62 #[.val (.int i0), .val (.int i1), .val (.int i2), .val (.int i3), .val (.ref o4), .val (.int i5), s6, s7, s8] [])) _
  refine XS.iloadN X0.here hx rfl (hb hby at_62) rfl ?_
  show Steps p.tables e below (T0.setTop (mkF m 63 #[.val (.int i0), .val (.int i1), .val (.int i2), .val (.int i3), .val (.ref o4), .val (.int i5), s6, s7, s8] [(.int i1)])) _
  refine X0.ldcInt hx hown (mvT hZ (hw _ (List.mem_of_getElem? (i := 3) rfl))) (g := (mkF m 63 #[.val (.int i0), .val (.int i1), .val (.int i2), .val (.int i3), .val (.ref o4), .val (.int i5), s6, s7, s8] [(.int i1)])) rfl (hb hby at_63) _ ?_
  show Steps p.tables e below (T0.setTop (mkF m 65 #[.val (.int i0), .val (.int i1), .val (.int i2), .val (.int i3), .val (.ref o4), .val (.int i5), s6, s7, s8] [(.int (2147483647 : Int32)), (.int i1)])) _
  refine XS.iand X0.here hx rfl (hb hby at_65) rfl ?_
  show Steps p.tables e below (T0.setTop (mkF m 66 #[.val (.int i0), .val (.int i1), .val (.int i2), .val (.int i3), .val (.ref o4), .val (.int i5), s6, s7, s8] [(.int (i1 &&& (2147483647 : Int32)))])) _
  refine XS.bipush X0.here hx rfl (hb hby at_66) ?_
  show Steps p.tables e below (T0.setTop (mkF m 68 #[.val (.int i0), .val (.int i1), .val (.int i2), .val (.int i3), .val (.ref o4), .val (.int i5), s6, s7, s8] [(.int (16 : Int32)), (.int (i1 &&& (2147483647 : Int32)))])) _
  refine XS.irem X0.here hx rfl (hb hby at_68) rfl (by decide) ?_
  show Steps p.tables e below (T0.setTop (mkF m 69 #[.val (.int i0), .val (.int i1), .val (.int i2), .val (.int i3), .val (.ref o4), .val (.int i5), s6, s7, s8] [(.int ((i1 &&& (2147483647 : Int32)) - ((i1 &&& (2147483647 : Int32)) / (16 : Int32)) * (16 : Int32)))])) _
  refine XS.iconst X0.here hx rfl (hb hby at_69) ?_
  show Steps p.tables e below (T0.setTop (mkF m 70 #[.val (.int i0), .val (.int i1), .val (.int i2), .val (.int i3), .val (.ref o4), .val (.int i5), s6, s7, s8] [(.int (1 : Int32)), (.int ((i1 &&& (2147483647 : Int32)) - ((i1 &&& (2147483647 : Int32)) / (16 : Int32)) * (16 : Int32)))])) _
  refine XS.iadd X0.here hx rfl (hb hby at_70) rfl ?_
  show Steps p.tables e below (T0.setTop (mkF m 71 #[.val (.int i0), .val (.int i1), .val (.int i2), .val (.int i3), .val (.ref o4), .val (.int i5), s6, s7, s8] [(.int (((i1 &&& (2147483647 : Int32)) - ((i1 &&& (2147483647 : Int32)) / (16 : Int32)) * (16 : Int32)) + (1 : Int32)))])) _
  refine XS.istore X0.here hx rfl (hb hby at_71) rfl (l' := #[.val (.int i0), .val (.int i1), .val (.int i2), .val (.int i3), .val (.ref o4), .val (.int i5), .val (.int (((i1 &&& (2147483647 : Int32)) - ((i1 &&& (2147483647 : Int32)) / (16 : Int32)) * (16 : Int32)) + (1 : Int32))), s7, s8]) (os0_71 hs6) ?_
  show Steps p.tables e below (T0.setTop (mkF m 73 #[.val (.int i0), .val (.int i1), .val (.int i2), .val (.int i3), .val (.ref o4), .val (.int i5), .val (.int (((i1 &&& (2147483647 : Int32)) - ((i1 &&& (2147483647 : Int32)) / (16 : Int32)) * (16 : Int32)) + (1 : Int32))), s7, s8] [])) _
  refine XS.iloadN X0.here hx rfl (hb hby at_73) rfl ?_
  show Steps p.tables e below (T0.setTop (mkF m 74 #[.val (.int i0), .val (.int i1), .val (.int i2), .val (.int i3), .val (.ref o4), .val (.int i5), .val (.int (((i1 &&& (2147483647 : Int32)) - ((i1 &&& (2147483647 : Int32)) / (16 : Int32)) * (16 : Int32)) + (1 : Int32))), s7, s8] [(.int i2)])) _
  refine X0.ldcInt hx hown (mvT hZ (hw _ (List.mem_of_getElem? (i := 3) rfl))) (g := (mkF m 74 #[.val (.int i0), .val (.int i1), .val (.int i2), .val (.int i3), .val (.ref o4), .val (.int i5), .val (.int (((i1 &&& (2147483647 : Int32)) - ((i1 &&& (2147483647 : Int32)) / (16 : Int32)) * (16 : Int32)) + (1 : Int32))), s7, s8] [(.int i2)])) rfl (hb hby at_74) _ ?_
  show Steps p.tables e below (T0.setTop (mkF m 76 #[.val (.int i0), .val (.int i1), .val (.int i2), .val (.int i3), .val (.ref o4), .val (.int i5), .val (.int (((i1 &&& (2147483647 : Int32)) - ((i1 &&& (2147483647 : Int32)) / (16 : Int32)) * (16 : Int32)) + (1 : Int32))), s7, s8] [(.int (2147483647 : Int32)), (.int i2)])) _
  refine XS.iand X0.here hx rfl (hb hby at_76) rfl ?_
  show Steps p.tables e below (T0.setTop (mkF m 77 #[.val (.int i0), .val (.int i1), .val (.int i2), .val (.int i3), .val (.ref o4), .val (.int i5), .val (.int (((i1 &&& (2147483647 : Int32)) - ((i1 &&& (2147483647 : Int32)) / (16 : Int32)) * (16 : Int32)) + (1 : Int32))), s7, s8] [(.int (i2 &&& (2147483647 : Int32)))])) _
  refine XS.istore X0.here hx rfl (hb hby at_77) rfl (l' := #[.val (.int i0), .val (.int i1), .val (.int i2), .val (.int i3), .val (.ref o4), .val (.int i5), .val (.int (((i1 &&& (2147483647 : Int32)) - ((i1 &&& (2147483647 : Int32)) / (16 : Int32)) * (16 : Int32)) + (1 : Int32))), .val (.int (i2 &&& (2147483647 : Int32))), s8]) (os0_77 hs7) ?_
  show Steps p.tables e below (T0.setTop (mkF m 79 #[.val (.int i0), .val (.int i1), .val (.int i2), .val (.int i3), .val (.ref o4), .val (.int i5), .val (.int (((i1 &&& (2147483647 : Int32)) - ((i1 &&& (2147483647 : Int32)) / (16 : Int32)) * (16 : Int32)) + (1 : Int32))), .val (.int (i2 &&& (2147483647 : Int32))), s8] [])) _
  refine XS.iloadN X0.here hx rfl (hb hby at_79) rfl ?_
  show Steps p.tables e below (T0.setTop (mkF m 80 #[.val (.int i0), .val (.int i1), .val (.int i2), .val (.int i3), .val (.ref o4), .val (.int i5), .val (.int (((i1 &&& (2147483647 : Int32)) - ((i1 &&& (2147483647 : Int32)) / (16 : Int32)) * (16 : Int32)) + (1 : Int32))), .val (.int (i2 &&& (2147483647 : Int32))), s8] [(.int i0)])) _
  refine XS.iconst X0.here hx rfl (hb hby at_80) ?_
  show Steps p.tables e below (T0.setTop (mkF m 81 #[.val (.int i0), .val (.int i1), .val (.int i2), .val (.int i3), .val (.ref o4), .val (.int i5), .val (.int (((i1 &&& (2147483647 : Int32)) - ((i1 &&& (2147483647 : Int32)) / (16 : Int32)) * (16 : Int32)) + (1 : Int32))), .val (.int (i2 &&& (2147483647 : Int32))), s8] [(.int (2 : Int32)), (.int i0)])) _
  refine XS.ishr X0.here hx rfl (hb hby at_81) rfl ?_
  show Steps p.tables e below (T0.setTop (mkF m 82 #[.val (.int i0), .val (.int i1), .val (.int i2), .val (.int i3), .val (.ref o4), .val (.int i5), .val (.int (((i1 &&& (2147483647 : Int32)) - ((i1 &&& (2147483647 : Int32)) / (16 : Int32)) * (16 : Int32)) + (1 : Int32))), .val (.int (i2 &&& (2147483647 : Int32))), s8] [(.int (i0 >>> ((2 : Int32) &&& 31)))])) _
  refine XS.iconst X0.here hx rfl (hb hby at_82) ?_
  show Steps p.tables e below (T0.setTop (mkF m 83 #[.val (.int i0), .val (.int i1), .val (.int i2), .val (.int i3), .val (.ref o4), .val (.int i5), .val (.int (((i1 &&& (2147483647 : Int32)) - ((i1 &&& (2147483647 : Int32)) / (16 : Int32)) * (16 : Int32)) + (1 : Int32))), .val (.int (i2 &&& (2147483647 : Int32))), s8] [(.int (1 : Int32)), (.int (i0 >>> ((2 : Int32) &&& 31)))])) _
  refine XS.iand X0.here hx rfl (hb hby at_83) rfl ?_
  show Steps p.tables e below (T0.setTop (mkF m 84 #[.val (.int i0), .val (.int i1), .val (.int i2), .val (.int i3), .val (.ref o4), .val (.int i5), .val (.int (((i1 &&& (2147483647 : Int32)) - ((i1 &&& (2147483647 : Int32)) / (16 : Int32)) * (16 : Int32)) + (1 : Int32))), .val (.int (i2 &&& (2147483647 : Int32))), s8] [(.int ((i0 >>> ((2 : Int32) &&& 31)) &&& (1 : Int32)))])) _
  refine XS.ifNo X0.here hx rfl (hb hby at_84) rfl ((if0 _ _).trans (feq hc84).1) ?_
  show Steps p.tables e below (T0.setTop (mkF m 87 #[.val (.int i0), .val (.int i1), .val (.int i2), .val (.int i3), .val (.ref o4), .val (.int i5), .val (.int (((i1 &&& (2147483647 : Int32)) - ((i1 &&& (2147483647 : Int32)) / (16 : Int32)) * (16 : Int32)) + (1 : Int32))), .val (.int (i2 &&& (2147483647 : Int32))), s8] [])) _
  refine XS.iload X0.here hx rfl (hb hby at_87) rfl ?_
  show Steps p.tables e below (T0.setTop (mkF m 89 #[.val (.int i0), .val (.int i1), .val (.int i2), .val (.int i3), .val (.ref o4), .val (.int i5), .val (.int (((i1 &&& (2147483647 : Int32)) - ((i1 &&& (2147483647 : Int32)) / (16 : Int32)) * (16 : Int32)) + (1 : Int32))), .val (.int (i2 &&& (2147483647 : Int32))), s8] [(.int (i2 &&& (2147483647 : Int32)))])) _
  refine XS.iload X0.here hx rfl (hb hby at_89) rfl ?_
  show Steps p.tables e below (T0.setTop (mkF m 91 #[.val (.int i0), .val (.int i1), .val (.int i2), .val (.int i3), .val (.ref o4), .val (.int i5), .val (.int (((i1 &&& (2147483647 : Int32)) - ((i1 &&& (2147483647 : Int32)) / (16 : Int32)) * (16 : Int32)) + (1 : Int32))), .val (.int (i2 &&& (2147483647 : Int32))), s8] [(.int i5), (.int (i2 &&& (2147483647 : Int32)))])) _
  refine XS.idiv X0.here hx rfl (hb hby at_91) rfl hnz91 ?_
  show Steps p.tables e below (T0.setTop (mkF m 92 #[.val (.int i0), .val (.int i1), .val (.int i2), .val (.int i3), .val (.ref o4), .val (.int i5), .val (.int (((i1 &&& (2147483647 : Int32)) - ((i1 &&& (2147483647 : Int32)) / (16 : Int32)) * (16 : Int32)) + (1 : Int32))), .val (.int (i2 &&& (2147483647 : Int32))), s8] [(.int ((i2 &&& (2147483647 : Int32)) / i5))])) _
  refine XS.iload X0.here hx rfl (hb hby at_92) rfl ?_
  show Steps p.tables e below (T0.setTop (mkF m 94 #[.val (.int i0), .val (.int i1), .val (.int i2), .val (.int i3), .val (.ref o4), .val (.int i5), .val (.int (((i1 &&& (2147483647 : Int32)) - ((i1 &&& (2147483647 : Int32)) / (16 : Int32)) * (16 : Int32)) + (1 : Int32))), .val (.int (i2 &&& (2147483647 : Int32))), s8] [(.int i5), (.int ((i2 &&& (2147483647 : Int32)) / i5))])) _
  refine XS.imul X0.here hx rfl (hb hby at_94) rfl ?_
  show Steps p.tables e below (T0.setTop (mkF m 95 #[.val (.int i0), .val (.int i1), .val (.int i2), .val (.int i3), .val (.ref o4), .val (.int i5), .val (.int (((i1 &&& (2147483647 : Int32)) - ((i1 &&& (2147483647 : Int32)) / (16 : Int32)) * (16 : Int32)) + (1 : Int32))), .val (.int (i2 &&& (2147483647 : Int32))), s8] [(.int (((i2 &&& (2147483647 : Int32)) / i5) * i5))])) _
  refine XS.istore X0.here hx rfl (hb hby at_95) rfl (l' := #[.val (.int i0), .val (.int i1), .val (.int i2), .val (.int i3), .val (.ref o4), .val (.int i5), .val (.int (((i1 &&& (2147483647 : Int32)) - ((i1 &&& (2147483647 : Int32)) / (16 : Int32)) * (16 : Int32)) + (1 : Int32))), .val (.int (((i2 &&& (2147483647 : Int32)) / i5) * i5)), s8]) rfl ?_
  exact kt
theorem os0_105 {z0 : Value} {z1 : Value} {z2 : Value} {z3 : Value} {z4 : Value} {z5 : Value} {z6 : Value} {z7 : Value} {s8 : Slot} {v : Int32} (h : One s8) : storeLocals #[.val z0, .val z1, .val z2, .val z3, .val z4, .val z5, .val z6, .val z7, s8] 8 (.int v) = some #[.val z0, .val z1, .val z2, .val z3, .val z4, .val z5, .val z6, .val z7, .val (.int v)] := by
  rcases h with rfl | ⟨w, rfl, hw⟩
  · rfl
  · cases w <;> first | rfl | (simp [Value.category] at hw)
set_option maxRecDepth 65536 in
set_option maxHeartbeats 40000000 in
theorem tn0_97_163_C0 {p : Program} {l : Launch} {e : Env} {R : Room} {s : State} {m : MethodId} {args : Array Value} {below : List Frame} {meth : Method} {c : Code} {T0 : State} {locs : List Loc} {cells slots : Nat} {Z : State} {a0 : Array Value} {h0 : Heap} (i0 : Int32) (i1 : Int32) (i2 : Int32) (i3 : Int32) (o4 : Addr) (i5 : Int32) (i6 : Int32) (i7 : Int32) (s8 : Slot)
    (X0 : Stand p l e R s m args below meth c T0 locs cells slots) (hx : p.tables.exec = Jvm.exec) (hZ : Z.Warmed39 s.vm) (hw : ∀ d ∈ tables_1, d.before a0 Z = true) (hby : c.code = code) (hml : c.maxLocals = 9) (hown : s.vm.findClass "com/example/xml_table_store/xmltablestore/ScaleChildrenPinLaw" = some m.cls) (e0 : T0.heap = h0) (hs8 : One s8) (hc101 : i6 = (16 : Int32)) :
    ∃ (T' : State), Stand p l e R s m args below meth c T' locs cells slots ∧ T'.heap = h0 ∧
      ∀ target, Steps p.tables e below (T'.setTop (mkF m 163 #[.val (.int i0), .val (.int i1), .val (.int i2), .val (.int i3), .val (.ref o4), .val (.int i5), .val (.int i6), .val (.int i7), .val (.int (0 : Int32))] [])) target → Steps p.tables e below (T0.setTop (mkF m 97 #[.val (.int i0), .val (.int i1), .val (.int i2), .val (.int i3), .val (.ref o4), .val (.int i5), .val (.int i6), .val (.int i7), s8] [])) target := by

  refine ⟨T0, X0, e0, fun target kt => ?_⟩
  show Steps p.tables e below (T0.setTop (mkF m 97 #[.val (.int i0), .val (.int i1), .val (.int i2), .val (.int i3), .val (.ref o4), .val (.int i5), .val (.int i6), .val (.int i7), s8] [])) _
  refine XS.iload X0.here hx rfl (hb hby at_97) rfl ?_
  show Steps p.tables e below (T0.setTop (mkF m 99 #[.val (.int i0), .val (.int i1), .val (.int i2), .val (.int i3), .val (.ref o4), .val (.int i5), .val (.int i6), .val (.int i7), s8] [(.int i6)])) _
  refine XS.bipush X0.here hx rfl (hb hby at_99) ?_
  show Steps p.tables e below (T0.setTop (mkF m 101 #[.val (.int i0), .val (.int i1), .val (.int i2), .val (.int i3), .val (.ref o4), .val (.int i5), .val (.int i6), .val (.int i7), s8] [(.int (16 : Int32)), (.int i6)])) _
  refine XS.icmpNo X0.here hx rfl (hb hby at_101) rfl (teq hc101).2 ?_
  show Steps p.tables e below (T0.setTop (mkF m 104 #[.val (.int i0), .val (.int i1), .val (.int i2), .val (.int i3), .val (.ref o4), .val (.int i5), .val (.int i6), .val (.int i7), s8] [])) _
  refine XS.iconst X0.here hx rfl (hb hby at_104) ?_
  show Steps p.tables e below (T0.setTop (mkF m 105 #[.val (.int i0), .val (.int i1), .val (.int i2), .val (.int i3), .val (.ref o4), .val (.int i5), .val (.int i6), .val (.int i7), s8] [(.int (0 : Int32))])) _
  refine XS.istore X0.here hx rfl (hb hby at_105) rfl (l' := #[.val (.int i0), .val (.int i1), .val (.int i2), .val (.int i3), .val (.ref o4), .val (.int i5), .val (.int i6), .val (.int i7), .val (.int (0 : Int32))]) (os0_105 hs8) ?_
  show Steps p.tables e below (T0.setTop (mkF m 107 #[.val (.int i0), .val (.int i1), .val (.int i2), .val (.int i3), .val (.ref o4), .val (.int i5), .val (.int i6), .val (.int i7), .val (.int (0 : Int32))] [])) _
  refine XS.goto X0.here hx rfl (pc0 := 107) (pc' := 163) rfl (hb hby at_107) (by decide) (by decide) ?_
  exact kt
theorem os0_135 {z0 : Value} {z1 : Value} {z2 : Value} {z3 : Value} {z4 : Value} {z5 : Value} {z6 : Value} {z7 : Value} {s8 : Slot} {v : Int32} (h : One s8) : storeLocals #[.val z0, .val z1, .val z2, .val z3, .val z4, .val z5, .val z6, .val z7, s8] 8 (.int v) = some #[.val z0, .val z1, .val z2, .val z3, .val z4, .val z5, .val z6, .val z7, .val (.int v)] := by
  rcases h with rfl | ⟨w, rfl, hw⟩
  · rfl
  · cases w <;> first | rfl | (simp [Value.category] at hw)
set_option maxRecDepth 65536 in
set_option maxHeartbeats 40000000 in
theorem tn0_97_163_C1 {p : Program} {l : Launch} {e : Env} {R : Room} {s : State} {m : MethodId} {args : Array Value} {below : List Frame} {meth : Method} {c : Code} {T0 : State} {locs : List Loc} {cells slots : Nat} {Z : State} {a0 : Array Value} {h0 : Heap} (i0 : Int32) (i1 : Int32) (i2 : Int32) (i3 : Int32) (o4 : Addr) (i5 : Int32) (i6 : Int32) (i7 : Int32) (s8 : Slot)
    (X0 : Stand p l e R s m args below meth c T0 locs cells slots) (hx : p.tables.exec = Jvm.exec) (hZ : Z.Warmed39 s.vm) (hw : ∀ d ∈ tables_1, d.before a0 Z = true) (hby : c.code = code) (hml : c.maxLocals = 9) (hown : s.vm.findClass "com/example/xml_table_store/xmltablestore/ScaleChildrenPinLaw" = some m.cls) (e0 : T0.heap = h0) (hs8 : One s8) (hc101 : ¬ (i6 = (16 : Int32))) (hc114 : i6 = (8 : Int32)) (hnz121 : ¬ (i5 = (0 : Int32))) (hc127 : ((i7 / i5) * i5) = i7) :
    ∃ (T' : State), Stand p l e R s m args below meth c T' locs cells slots ∧ T'.heap = h0 ∧
      ∀ target, Steps p.tables e below (T'.setTop (mkF m 163 #[.val (.int i0), .val (.int i1), .val (.int i2), .val (.int i3), .val (.ref o4), .val (.int i5), .val (.int i6), .val (.int i7), .val (.int (1 : Int32))] [])) target → Steps p.tables e below (T0.setTop (mkF m 97 #[.val (.int i0), .val (.int i1), .val (.int i2), .val (.int i3), .val (.ref o4), .val (.int i5), .val (.int i6), .val (.int i7), s8] [])) target := by

  refine ⟨T0, X0, e0, fun target kt => ?_⟩
  show Steps p.tables e below (T0.setTop (mkF m 97 #[.val (.int i0), .val (.int i1), .val (.int i2), .val (.int i3), .val (.ref o4), .val (.int i5), .val (.int i6), .val (.int i7), s8] [])) _
  refine XS.iload X0.here hx rfl (hb hby at_97) rfl ?_
  show Steps p.tables e below (T0.setTop (mkF m 99 #[.val (.int i0), .val (.int i1), .val (.int i2), .val (.int i3), .val (.ref o4), .val (.int i5), .val (.int i6), .val (.int i7), s8] [(.int i6)])) _
  refine XS.bipush X0.here hx rfl (hb hby at_99) ?_
  show Steps p.tables e below (T0.setTop (mkF m 101 #[.val (.int i0), .val (.int i1), .val (.int i2), .val (.int i3), .val (.ref o4), .val (.int i5), .val (.int i6), .val (.int i7), s8] [(.int (16 : Int32)), (.int i6)])) _
  refine XS.icmpYes X0.here hx rfl (pc0 := 101) (pc' := 110) rfl (hb hby at_101) rfl (feq hc101).2 (by decide) (by decide) ?_
  show Steps p.tables e below (T0.setTop (mkF m 110 #[.val (.int i0), .val (.int i1), .val (.int i2), .val (.int i3), .val (.ref o4), .val (.int i5), .val (.int i6), .val (.int i7), s8] [])) _
  refine XS.iload X0.here hx rfl (hb hby at_110) rfl ?_
  show Steps p.tables e below (T0.setTop (mkF m 112 #[.val (.int i0), .val (.int i1), .val (.int i2), .val (.int i3), .val (.ref o4), .val (.int i5), .val (.int i6), .val (.int i7), s8] [(.int i6)])) _
  refine XS.bipush X0.here hx rfl (hb hby at_112) ?_
  show Steps p.tables e below (T0.setTop (mkF m 114 #[.val (.int i0), .val (.int i1), .val (.int i2), .val (.int i3), .val (.ref o4), .val (.int i5), .val (.int i6), .val (.int i7), s8] [(.int (8 : Int32)), (.int i6)])) _
  refine XS.icmpNo X0.here hx rfl (hb hby at_114) rfl (teq hc114).2 ?_
  show Steps p.tables e below (T0.setTop (mkF m 117 #[.val (.int i0), .val (.int i1), .val (.int i2), .val (.int i3), .val (.ref o4), .val (.int i5), .val (.int i6), .val (.int i7), s8] [])) _
  refine XS.iload X0.here hx rfl (hb hby at_117) rfl ?_
  show Steps p.tables e below (T0.setTop (mkF m 119 #[.val (.int i0), .val (.int i1), .val (.int i2), .val (.int i3), .val (.ref o4), .val (.int i5), .val (.int i6), .val (.int i7), s8] [(.int i7)])) _
  refine XS.iload X0.here hx rfl (hb hby at_119) rfl ?_
  show Steps p.tables e below (T0.setTop (mkF m 121 #[.val (.int i0), .val (.int i1), .val (.int i2), .val (.int i3), .val (.ref o4), .val (.int i5), .val (.int i6), .val (.int i7), s8] [(.int i5), (.int i7)])) _
  refine XS.idiv X0.here hx rfl (hb hby at_121) rfl hnz121 ?_
  show Steps p.tables e below (T0.setTop (mkF m 122 #[.val (.int i0), .val (.int i1), .val (.int i2), .val (.int i3), .val (.ref o4), .val (.int i5), .val (.int i6), .val (.int i7), s8] [(.int (i7 / i5))])) _
  refine XS.iload X0.here hx rfl (hb hby at_122) rfl ?_
  show Steps p.tables e below (T0.setTop (mkF m 124 #[.val (.int i0), .val (.int i1), .val (.int i2), .val (.int i3), .val (.ref o4), .val (.int i5), .val (.int i6), .val (.int i7), s8] [(.int i5), (.int (i7 / i5))])) _
  refine XS.imul X0.here hx rfl (hb hby at_124) rfl ?_
  show Steps p.tables e below (T0.setTop (mkF m 125 #[.val (.int i0), .val (.int i1), .val (.int i2), .val (.int i3), .val (.ref o4), .val (.int i5), .val (.int i6), .val (.int i7), s8] [(.int ((i7 / i5) * i5))])) _
  refine XS.iload X0.here hx rfl (hb hby at_125) rfl ?_
  show Steps p.tables e below (T0.setTop (mkF m 127 #[.val (.int i0), .val (.int i1), .val (.int i2), .val (.int i3), .val (.ref o4), .val (.int i5), .val (.int i6), .val (.int i7), s8] [(.int i7), (.int ((i7 / i5) * i5))])) _
  refine XS.icmpNo X0.here hx rfl (hb hby at_127) rfl (teq hc127).2 ?_
  show Steps p.tables e below (T0.setTop (mkF m 130 #[.val (.int i0), .val (.int i1), .val (.int i2), .val (.int i3), .val (.ref o4), .val (.int i5), .val (.int i6), .val (.int i7), s8] [])) _
  refine XS.iconst X0.here hx rfl (hb hby at_130) ?_
  show Steps p.tables e below (T0.setTop (mkF m 131 #[.val (.int i0), .val (.int i1), .val (.int i2), .val (.int i3), .val (.ref o4), .val (.int i5), .val (.int i6), .val (.int i7), s8] [(.int (1 : Int32))])) _
  refine XS.goto X0.here hx rfl (pc0 := 131) (pc' := 135) rfl (hb hby at_131) (by decide) (by decide) ?_
  show Steps p.tables e below (T0.setTop (mkF m 135 #[.val (.int i0), .val (.int i1), .val (.int i2), .val (.int i3), .val (.ref o4), .val (.int i5), .val (.int i6), .val (.int i7), s8] [(.int (1 : Int32))])) _
  refine XS.istore X0.here hx rfl (hb hby at_135) rfl (l' := #[.val (.int i0), .val (.int i1), .val (.int i2), .val (.int i3), .val (.ref o4), .val (.int i5), .val (.int i6), .val (.int i7), .val (.int (1 : Int32))]) (os0_135 hs8) ?_
  show Steps p.tables e below (T0.setTop (mkF m 137 #[.val (.int i0), .val (.int i1), .val (.int i2), .val (.int i3), .val (.ref o4), .val (.int i5), .val (.int i6), .val (.int i7), .val (.int (1 : Int32))] [])) _
  refine XS.goto X0.here hx rfl (pc0 := 137) (pc' := 163) rfl (hb hby at_137) (by decide) (by decide) ?_
  exact kt
set_option maxRecDepth 65536 in
set_option maxHeartbeats 40000000 in
theorem tn0_97_163_C2 {p : Program} {l : Launch} {e : Env} {R : Room} {s : State} {m : MethodId} {args : Array Value} {below : List Frame} {meth : Method} {c : Code} {T0 : State} {locs : List Loc} {cells slots : Nat} {Z : State} {a0 : Array Value} {h0 : Heap} (i0 : Int32) (i1 : Int32) (i2 : Int32) (i3 : Int32) (o4 : Addr) (i5 : Int32) (i6 : Int32) (i7 : Int32) (s8 : Slot)
    (X0 : Stand p l e R s m args below meth c T0 locs cells slots) (hx : p.tables.exec = Jvm.exec) (hZ : Z.Warmed39 s.vm) (hw : ∀ d ∈ tables_1, d.before a0 Z = true) (hby : c.code = code) (hml : c.maxLocals = 9) (hown : s.vm.findClass "com/example/xml_table_store/xmltablestore/ScaleChildrenPinLaw" = some m.cls) (e0 : T0.heap = h0) (hs8 : One s8) (hc101 : ¬ (i6 = (16 : Int32))) (hc114 : i6 = (8 : Int32)) (hnz121 : ¬ (i5 = (0 : Int32))) (hc127 : ¬ (((i7 / i5) * i5) = i7)) :
    ∃ (T' : State), Stand p l e R s m args below meth c T' locs cells slots ∧ T'.heap = h0 ∧
      ∀ target, Steps p.tables e below (T'.setTop (mkF m 163 #[.val (.int i0), .val (.int i1), .val (.int i2), .val (.int i3), .val (.ref o4), .val (.int i5), .val (.int i6), .val (.int i7), .val (.int (0 : Int32))] [])) target → Steps p.tables e below (T0.setTop (mkF m 97 #[.val (.int i0), .val (.int i1), .val (.int i2), .val (.int i3), .val (.ref o4), .val (.int i5), .val (.int i6), .val (.int i7), s8] [])) target := by

  refine ⟨T0, X0, e0, fun target kt => ?_⟩
  show Steps p.tables e below (T0.setTop (mkF m 97 #[.val (.int i0), .val (.int i1), .val (.int i2), .val (.int i3), .val (.ref o4), .val (.int i5), .val (.int i6), .val (.int i7), s8] [])) _
  refine XS.iload X0.here hx rfl (hb hby at_97) rfl ?_
  show Steps p.tables e below (T0.setTop (mkF m 99 #[.val (.int i0), .val (.int i1), .val (.int i2), .val (.int i3), .val (.ref o4), .val (.int i5), .val (.int i6), .val (.int i7), s8] [(.int i6)])) _
  refine XS.bipush X0.here hx rfl (hb hby at_99) ?_
  show Steps p.tables e below (T0.setTop (mkF m 101 #[.val (.int i0), .val (.int i1), .val (.int i2), .val (.int i3), .val (.ref o4), .val (.int i5), .val (.int i6), .val (.int i7), s8] [(.int (16 : Int32)), (.int i6)])) _
  refine XS.icmpYes X0.here hx rfl (pc0 := 101) (pc' := 110) rfl (hb hby at_101) rfl (feq hc101).2 (by decide) (by decide) ?_
  show Steps p.tables e below (T0.setTop (mkF m 110 #[.val (.int i0), .val (.int i1), .val (.int i2), .val (.int i3), .val (.ref o4), .val (.int i5), .val (.int i6), .val (.int i7), s8] [])) _
  refine XS.iload X0.here hx rfl (hb hby at_110) rfl ?_
  show Steps p.tables e below (T0.setTop (mkF m 112 #[.val (.int i0), .val (.int i1), .val (.int i2), .val (.int i3), .val (.ref o4), .val (.int i5), .val (.int i6), .val (.int i7), s8] [(.int i6)])) _
  refine XS.bipush X0.here hx rfl (hb hby at_112) ?_
  show Steps p.tables e below (T0.setTop (mkF m 114 #[.val (.int i0), .val (.int i1), .val (.int i2), .val (.int i3), .val (.ref o4), .val (.int i5), .val (.int i6), .val (.int i7), s8] [(.int (8 : Int32)), (.int i6)])) _
  refine XS.icmpNo X0.here hx rfl (hb hby at_114) rfl (teq hc114).2 ?_
  show Steps p.tables e below (T0.setTop (mkF m 117 #[.val (.int i0), .val (.int i1), .val (.int i2), .val (.int i3), .val (.ref o4), .val (.int i5), .val (.int i6), .val (.int i7), s8] [])) _
  refine XS.iload X0.here hx rfl (hb hby at_117) rfl ?_
  show Steps p.tables e below (T0.setTop (mkF m 119 #[.val (.int i0), .val (.int i1), .val (.int i2), .val (.int i3), .val (.ref o4), .val (.int i5), .val (.int i6), .val (.int i7), s8] [(.int i7)])) _
  refine XS.iload X0.here hx rfl (hb hby at_119) rfl ?_
  show Steps p.tables e below (T0.setTop (mkF m 121 #[.val (.int i0), .val (.int i1), .val (.int i2), .val (.int i3), .val (.ref o4), .val (.int i5), .val (.int i6), .val (.int i7), s8] [(.int i5), (.int i7)])) _
  refine XS.idiv X0.here hx rfl (hb hby at_121) rfl hnz121 ?_
  show Steps p.tables e below (T0.setTop (mkF m 122 #[.val (.int i0), .val (.int i1), .val (.int i2), .val (.int i3), .val (.ref o4), .val (.int i5), .val (.int i6), .val (.int i7), s8] [(.int (i7 / i5))])) _
  refine XS.iload X0.here hx rfl (hb hby at_122) rfl ?_
  show Steps p.tables e below (T0.setTop (mkF m 124 #[.val (.int i0), .val (.int i1), .val (.int i2), .val (.int i3), .val (.ref o4), .val (.int i5), .val (.int i6), .val (.int i7), s8] [(.int i5), (.int (i7 / i5))])) _
  refine XS.imul X0.here hx rfl (hb hby at_124) rfl ?_
  show Steps p.tables e below (T0.setTop (mkF m 125 #[.val (.int i0), .val (.int i1), .val (.int i2), .val (.int i3), .val (.ref o4), .val (.int i5), .val (.int i6), .val (.int i7), s8] [(.int ((i7 / i5) * i5))])) _
  refine XS.iload X0.here hx rfl (hb hby at_125) rfl ?_
  show Steps p.tables e below (T0.setTop (mkF m 127 #[.val (.int i0), .val (.int i1), .val (.int i2), .val (.int i3), .val (.ref o4), .val (.int i5), .val (.int i6), .val (.int i7), s8] [(.int i7), (.int ((i7 / i5) * i5))])) _
  refine XS.icmpYes X0.here hx rfl (pc0 := 127) (pc' := 134) rfl (hb hby at_127) rfl (feq hc127).2 (by decide) (by decide) ?_
  show Steps p.tables e below (T0.setTop (mkF m 134 #[.val (.int i0), .val (.int i1), .val (.int i2), .val (.int i3), .val (.ref o4), .val (.int i5), .val (.int i6), .val (.int i7), s8] [])) _
  refine XS.iconst X0.here hx rfl (hb hby at_134) ?_
  show Steps p.tables e below (T0.setTop (mkF m 135 #[.val (.int i0), .val (.int i1), .val (.int i2), .val (.int i3), .val (.ref o4), .val (.int i5), .val (.int i6), .val (.int i7), s8] [(.int (0 : Int32))])) _
  refine XS.istore X0.here hx rfl (hb hby at_135) rfl (l' := #[.val (.int i0), .val (.int i1), .val (.int i2), .val (.int i3), .val (.ref o4), .val (.int i5), .val (.int i6), .val (.int i7), .val (.int (0 : Int32))]) (os0_135 hs8) ?_
  show Steps p.tables e below (T0.setTop (mkF m 137 #[.val (.int i0), .val (.int i1), .val (.int i2), .val (.int i3), .val (.ref o4), .val (.int i5), .val (.int i6), .val (.int i7), .val (.int (0 : Int32))] [])) _
  refine XS.goto X0.here hx rfl (pc0 := 137) (pc' := 163) rfl (hb hby at_137) (by decide) (by decide) ?_
  exact kt
theorem os0_161 {z0 : Value} {z1 : Value} {z2 : Value} {z3 : Value} {z4 : Value} {z5 : Value} {z6 : Value} {z7 : Value} {s8 : Slot} {v : Int32} (h : One s8) : storeLocals #[.val z0, .val z1, .val z2, .val z3, .val z4, .val z5, .val z6, .val z7, s8] 8 (.int v) = some #[.val z0, .val z1, .val z2, .val z3, .val z4, .val z5, .val z6, .val z7, .val (.int v)] := by
  rcases h with rfl | ⟨w, rfl, hw⟩
  · rfl
  · cases w <;> first | rfl | (simp [Value.category] at hw)
set_option maxRecDepth 65536 in
set_option maxHeartbeats 40000000 in
theorem tn0_97_163_C3 {p : Program} {l : Launch} {e : Env} {R : Room} {s : State} {m : MethodId} {args : Array Value} {below : List Frame} {meth : Method} {c : Code} {T0 : State} {locs : List Loc} {cells slots : Nat} {Z : State} {a0 : Array Value} {h0 : Heap} (i0 : Int32) (i1 : Int32) (i2 : Int32) (i3 : Int32) (o4 : Addr) (i5 : Int32) (i6 : Int32) (i7 : Int32) (s8 : Slot)
    (X0 : Stand p l e R s m args below meth c T0 locs cells slots) (hx : p.tables.exec = Jvm.exec) (hZ : Z.Warmed39 s.vm) (hw : ∀ d ∈ tables_1, d.before a0 Z = true) (hby : c.code = code) (hml : c.maxLocals = 9) (hown : s.vm.findClass "com/example/xml_table_store/xmltablestore/ScaleChildrenPinLaw" = some m.cls) (e0 : T0.heap = h0) (hs8 : One s8) (hc101 : ¬ (i6 = (16 : Int32))) (hc114 : ¬ (i6 = (8 : Int32))) (hc143 : i6 < (5 : Int32)) :
    ∃ (T' : State), Stand p l e R s m args below meth c T' locs cells slots ∧ T'.heap = h0 ∧
      ∀ target, Steps p.tables e below (T'.setTop (mkF m 163 #[.val (.int i0), .val (.int i1), .val (.int i2), .val (.int i3), .val (.ref o4), .val (.int i5), .val (.int i6), .val (.int i7), .val (.int (2 : Int32))] [])) target → Steps p.tables e below (T0.setTop (mkF m 97 #[.val (.int i0), .val (.int i1), .val (.int i2), .val (.int i3), .val (.ref o4), .val (.int i5), .val (.int i6), .val (.int i7), s8] [])) target := by

  refine ⟨T0, X0, e0, fun target kt => ?_⟩
  show Steps p.tables e below (T0.setTop (mkF m 97 #[.val (.int i0), .val (.int i1), .val (.int i2), .val (.int i3), .val (.ref o4), .val (.int i5), .val (.int i6), .val (.int i7), s8] [])) _
  refine XS.iload X0.here hx rfl (hb hby at_97) rfl ?_
  show Steps p.tables e below (T0.setTop (mkF m 99 #[.val (.int i0), .val (.int i1), .val (.int i2), .val (.int i3), .val (.ref o4), .val (.int i5), .val (.int i6), .val (.int i7), s8] [(.int i6)])) _
  refine XS.bipush X0.here hx rfl (hb hby at_99) ?_
  show Steps p.tables e below (T0.setTop (mkF m 101 #[.val (.int i0), .val (.int i1), .val (.int i2), .val (.int i3), .val (.ref o4), .val (.int i5), .val (.int i6), .val (.int i7), s8] [(.int (16 : Int32)), (.int i6)])) _
  refine XS.icmpYes X0.here hx rfl (pc0 := 101) (pc' := 110) rfl (hb hby at_101) rfl (feq hc101).2 (by decide) (by decide) ?_
  show Steps p.tables e below (T0.setTop (mkF m 110 #[.val (.int i0), .val (.int i1), .val (.int i2), .val (.int i3), .val (.ref o4), .val (.int i5), .val (.int i6), .val (.int i7), s8] [])) _
  refine XS.iload X0.here hx rfl (hb hby at_110) rfl ?_
  show Steps p.tables e below (T0.setTop (mkF m 112 #[.val (.int i0), .val (.int i1), .val (.int i2), .val (.int i3), .val (.ref o4), .val (.int i5), .val (.int i6), .val (.int i7), s8] [(.int i6)])) _
  refine XS.bipush X0.here hx rfl (hb hby at_112) ?_
  show Steps p.tables e below (T0.setTop (mkF m 114 #[.val (.int i0), .val (.int i1), .val (.int i2), .val (.int i3), .val (.ref o4), .val (.int i5), .val (.int i6), .val (.int i7), s8] [(.int (8 : Int32)), (.int i6)])) _
  refine XS.icmpYes X0.here hx rfl (pc0 := 114) (pc' := 140) rfl (hb hby at_114) rfl (feq hc114).2 (by decide) (by decide) ?_
  show Steps p.tables e below (T0.setTop (mkF m 140 #[.val (.int i0), .val (.int i1), .val (.int i2), .val (.int i3), .val (.ref o4), .val (.int i5), .val (.int i6), .val (.int i7), s8] [])) _
  refine XS.iload X0.here hx rfl (hb hby at_140) rfl ?_
  show Steps p.tables e below (T0.setTop (mkF m 142 #[.val (.int i0), .val (.int i1), .val (.int i2), .val (.int i3), .val (.ref o4), .val (.int i5), .val (.int i6), .val (.int i7), s8] [(.int i6)])) _
  refine XS.iconst X0.here hx rfl (hb hby at_142) ?_
  show Steps p.tables e below (T0.setTop (mkF m 143 #[.val (.int i0), .val (.int i1), .val (.int i2), .val (.int i3), .val (.ref o4), .val (.int i5), .val (.int i6), .val (.int i7), s8] [(.int (5 : Int32)), (.int i6)])) _
  refine XS.icmpYes X0.here hx rfl (pc0 := 143) (pc' := 160) rfl (hb hby at_143) rfl (tlt hc143).1 (by decide) (by decide) ?_
  show Steps p.tables e below (T0.setTop (mkF m 160 #[.val (.int i0), .val (.int i1), .val (.int i2), .val (.int i3), .val (.ref o4), .val (.int i5), .val (.int i6), .val (.int i7), s8] [])) _
  refine XS.iconst X0.here hx rfl (hb hby at_160) ?_
  show Steps p.tables e below (T0.setTop (mkF m 161 #[.val (.int i0), .val (.int i1), .val (.int i2), .val (.int i3), .val (.ref o4), .val (.int i5), .val (.int i6), .val (.int i7), s8] [(.int (2 : Int32))])) _
  refine XS.istore X0.here hx rfl (hb hby at_161) rfl (l' := #[.val (.int i0), .val (.int i1), .val (.int i2), .val (.int i3), .val (.ref o4), .val (.int i5), .val (.int i6), .val (.int i7), .val (.int (2 : Int32))]) (os0_161 hs8) ?_
  exact kt
theorem os0_155 {z0 : Value} {z1 : Value} {z2 : Value} {z3 : Value} {z4 : Value} {z5 : Value} {z6 : Value} {z7 : Value} {s8 : Slot} {v : Int32} (h : One s8) : storeLocals #[.val z0, .val z1, .val z2, .val z3, .val z4, .val z5, .val z6, .val z7, s8] 8 (.int v) = some #[.val z0, .val z1, .val z2, .val z3, .val z4, .val z5, .val z6, .val z7, .val (.int v)] := by
  rcases h with rfl | ⟨w, rfl, hw⟩
  · rfl
  · cases w <;> first | rfl | (simp [Value.category] at hw)
set_option maxRecDepth 65536 in
set_option maxHeartbeats 40000000 in
theorem tn0_97_163_C4 {p : Program} {l : Launch} {e : Env} {R : Room} {s : State} {m : MethodId} {args : Array Value} {below : List Frame} {meth : Method} {c : Code} {T0 : State} {locs : List Loc} {cells slots : Nat} {Z : State} {a0 : Array Value} {h0 : Heap} (i0 : Int32) (i1 : Int32) (i2 : Int32) (i3 : Int32) (o4 : Addr) (i5 : Int32) (i6 : Int32) (i7 : Int32) (s8 : Slot)
    (X0 : Stand p l e R s m args below meth c T0 locs cells slots) (hx : p.tables.exec = Jvm.exec) (hZ : Z.Warmed39 s.vm) (hw : ∀ d ∈ tables_1, d.before a0 Z = true) (hby : c.code = code) (hml : c.maxLocals = 9) (hown : s.vm.findClass "com/example/xml_table_store/xmltablestore/ScaleChildrenPinLaw" = some m.cls) (e0 : T0.heap = h0) (hs8 : One s8) (hc101 : ¬ (i6 = (16 : Int32))) (hc114 : ¬ (i6 = (8 : Int32))) (hc143 : ¬ (i6 < (5 : Int32))) (hc150 : ¬ ((7 : Int32) < i6)) :
    ∃ (T' : State), Stand p l e R s m args below meth c T' locs cells slots ∧ T'.heap = h0 ∧
      ∀ target, Steps p.tables e below (T'.setTop (mkF m 163 #[.val (.int i0), .val (.int i1), .val (.int i2), .val (.int i3), .val (.ref o4), .val (.int i5), .val (.int i6), .val (.int i7), .val (.int i5)] [])) target → Steps p.tables e below (T0.setTop (mkF m 97 #[.val (.int i0), .val (.int i1), .val (.int i2), .val (.int i3), .val (.ref o4), .val (.int i5), .val (.int i6), .val (.int i7), s8] [])) target := by

  refine ⟨T0, X0, e0, fun target kt => ?_⟩
  show Steps p.tables e below (T0.setTop (mkF m 97 #[.val (.int i0), .val (.int i1), .val (.int i2), .val (.int i3), .val (.ref o4), .val (.int i5), .val (.int i6), .val (.int i7), s8] [])) _
  refine XS.iload X0.here hx rfl (hb hby at_97) rfl ?_
  show Steps p.tables e below (T0.setTop (mkF m 99 #[.val (.int i0), .val (.int i1), .val (.int i2), .val (.int i3), .val (.ref o4), .val (.int i5), .val (.int i6), .val (.int i7), s8] [(.int i6)])) _
  refine XS.bipush X0.here hx rfl (hb hby at_99) ?_
  show Steps p.tables e below (T0.setTop (mkF m 101 #[.val (.int i0), .val (.int i1), .val (.int i2), .val (.int i3), .val (.ref o4), .val (.int i5), .val (.int i6), .val (.int i7), s8] [(.int (16 : Int32)), (.int i6)])) _
  refine XS.icmpYes X0.here hx rfl (pc0 := 101) (pc' := 110) rfl (hb hby at_101) rfl (feq hc101).2 (by decide) (by decide) ?_
  show Steps p.tables e below (T0.setTop (mkF m 110 #[.val (.int i0), .val (.int i1), .val (.int i2), .val (.int i3), .val (.ref o4), .val (.int i5), .val (.int i6), .val (.int i7), s8] [])) _
  refine XS.iload X0.here hx rfl (hb hby at_110) rfl ?_
  show Steps p.tables e below (T0.setTop (mkF m 112 #[.val (.int i0), .val (.int i1), .val (.int i2), .val (.int i3), .val (.ref o4), .val (.int i5), .val (.int i6), .val (.int i7), s8] [(.int i6)])) _
  refine XS.bipush X0.here hx rfl (hb hby at_112) ?_
  show Steps p.tables e below (T0.setTop (mkF m 114 #[.val (.int i0), .val (.int i1), .val (.int i2), .val (.int i3), .val (.ref o4), .val (.int i5), .val (.int i6), .val (.int i7), s8] [(.int (8 : Int32)), (.int i6)])) _
  refine XS.icmpYes X0.here hx rfl (pc0 := 114) (pc' := 140) rfl (hb hby at_114) rfl (feq hc114).2 (by decide) (by decide) ?_
  show Steps p.tables e below (T0.setTop (mkF m 140 #[.val (.int i0), .val (.int i1), .val (.int i2), .val (.int i3), .val (.ref o4), .val (.int i5), .val (.int i6), .val (.int i7), s8] [])) _
  refine XS.iload X0.here hx rfl (hb hby at_140) rfl ?_
  show Steps p.tables e below (T0.setTop (mkF m 142 #[.val (.int i0), .val (.int i1), .val (.int i2), .val (.int i3), .val (.ref o4), .val (.int i5), .val (.int i6), .val (.int i7), s8] [(.int i6)])) _
  refine XS.iconst X0.here hx rfl (hb hby at_142) ?_
  show Steps p.tables e below (T0.setTop (mkF m 143 #[.val (.int i0), .val (.int i1), .val (.int i2), .val (.int i3), .val (.ref o4), .val (.int i5), .val (.int i6), .val (.int i7), s8] [(.int (5 : Int32)), (.int i6)])) _
  refine XS.icmpNo X0.here hx rfl (hb hby at_143) rfl (flt hc143).1 ?_
  show Steps p.tables e below (T0.setTop (mkF m 146 #[.val (.int i0), .val (.int i1), .val (.int i2), .val (.int i3), .val (.ref o4), .val (.int i5), .val (.int i6), .val (.int i7), s8] [])) _
  refine XS.iload X0.here hx rfl (hb hby at_146) rfl ?_
  show Steps p.tables e below (T0.setTop (mkF m 148 #[.val (.int i0), .val (.int i1), .val (.int i2), .val (.int i3), .val (.ref o4), .val (.int i5), .val (.int i6), .val (.int i7), s8] [(.int i6)])) _
  refine XS.bipush X0.here hx rfl (hb hby at_148) ?_
  show Steps p.tables e below (T0.setTop (mkF m 150 #[.val (.int i0), .val (.int i1), .val (.int i2), .val (.int i3), .val (.ref o4), .val (.int i5), .val (.int i6), .val (.int i7), s8] [(.int (7 : Int32)), (.int i6)])) _
  refine XS.icmpNo X0.here hx rfl (hb hby at_150) rfl (flt hc150).2.2.1 ?_
  show Steps p.tables e below (T0.setTop (mkF m 153 #[.val (.int i0), .val (.int i1), .val (.int i2), .val (.int i3), .val (.ref o4), .val (.int i5), .val (.int i6), .val (.int i7), s8] [])) _
  refine XS.iload X0.here hx rfl (hb hby at_153) rfl ?_
  show Steps p.tables e below (T0.setTop (mkF m 155 #[.val (.int i0), .val (.int i1), .val (.int i2), .val (.int i3), .val (.ref o4), .val (.int i5), .val (.int i6), .val (.int i7), s8] [(.int i5)])) _
  refine XS.istore X0.here hx rfl (hb hby at_155) rfl (l' := #[.val (.int i0), .val (.int i1), .val (.int i2), .val (.int i3), .val (.ref o4), .val (.int i5), .val (.int i6), .val (.int i7), .val (.int i5)]) (os0_155 hs8) ?_
  show Steps p.tables e below (T0.setTop (mkF m 157 #[.val (.int i0), .val (.int i1), .val (.int i2), .val (.int i3), .val (.ref o4), .val (.int i5), .val (.int i6), .val (.int i7), .val (.int i5)] [])) _
  refine XS.goto X0.here hx rfl (pc0 := 157) (pc' := 163) rfl (hb hby at_157) (by decide) (by decide) ?_
  exact kt
set_option maxRecDepth 65536 in
set_option maxHeartbeats 40000000 in
theorem tn0_97_163_C5 {p : Program} {l : Launch} {e : Env} {R : Room} {s : State} {m : MethodId} {args : Array Value} {below : List Frame} {meth : Method} {c : Code} {T0 : State} {locs : List Loc} {cells slots : Nat} {Z : State} {a0 : Array Value} {h0 : Heap} (i0 : Int32) (i1 : Int32) (i2 : Int32) (i3 : Int32) (o4 : Addr) (i5 : Int32) (i6 : Int32) (i7 : Int32) (s8 : Slot)
    (X0 : Stand p l e R s m args below meth c T0 locs cells slots) (hx : p.tables.exec = Jvm.exec) (hZ : Z.Warmed39 s.vm) (hw : ∀ d ∈ tables_1, d.before a0 Z = true) (hby : c.code = code) (hml : c.maxLocals = 9) (hown : s.vm.findClass "com/example/xml_table_store/xmltablestore/ScaleChildrenPinLaw" = some m.cls) (e0 : T0.heap = h0) (hs8 : One s8) (hc101 : ¬ (i6 = (16 : Int32))) (hc114 : ¬ (i6 = (8 : Int32))) (hc143 : ¬ (i6 < (5 : Int32))) (hc150 : (7 : Int32) < i6) :
    ∃ (T' : State), Stand p l e R s m args below meth c T' locs cells slots ∧ T'.heap = h0 ∧
      ∀ target, Steps p.tables e below (T'.setTop (mkF m 163 #[.val (.int i0), .val (.int i1), .val (.int i2), .val (.int i3), .val (.ref o4), .val (.int i5), .val (.int i6), .val (.int i7), .val (.int (2 : Int32))] [])) target → Steps p.tables e below (T0.setTop (mkF m 97 #[.val (.int i0), .val (.int i1), .val (.int i2), .val (.int i3), .val (.ref o4), .val (.int i5), .val (.int i6), .val (.int i7), s8] [])) target := by

  refine ⟨T0, X0, e0, fun target kt => ?_⟩
  show Steps p.tables e below (T0.setTop (mkF m 97 #[.val (.int i0), .val (.int i1), .val (.int i2), .val (.int i3), .val (.ref o4), .val (.int i5), .val (.int i6), .val (.int i7), s8] [])) _
  refine XS.iload X0.here hx rfl (hb hby at_97) rfl ?_
  show Steps p.tables e below (T0.setTop (mkF m 99 #[.val (.int i0), .val (.int i1), .val (.int i2), .val (.int i3), .val (.ref o4), .val (.int i5), .val (.int i6), .val (.int i7), s8] [(.int i6)])) _
  refine XS.bipush X0.here hx rfl (hb hby at_99) ?_
  show Steps p.tables e below (T0.setTop (mkF m 101 #[.val (.int i0), .val (.int i1), .val (.int i2), .val (.int i3), .val (.ref o4), .val (.int i5), .val (.int i6), .val (.int i7), s8] [(.int (16 : Int32)), (.int i6)])) _
  refine XS.icmpYes X0.here hx rfl (pc0 := 101) (pc' := 110) rfl (hb hby at_101) rfl (feq hc101).2 (by decide) (by decide) ?_
  show Steps p.tables e below (T0.setTop (mkF m 110 #[.val (.int i0), .val (.int i1), .val (.int i2), .val (.int i3), .val (.ref o4), .val (.int i5), .val (.int i6), .val (.int i7), s8] [])) _
  refine XS.iload X0.here hx rfl (hb hby at_110) rfl ?_
  show Steps p.tables e below (T0.setTop (mkF m 112 #[.val (.int i0), .val (.int i1), .val (.int i2), .val (.int i3), .val (.ref o4), .val (.int i5), .val (.int i6), .val (.int i7), s8] [(.int i6)])) _
  refine XS.bipush X0.here hx rfl (hb hby at_112) ?_
  show Steps p.tables e below (T0.setTop (mkF m 114 #[.val (.int i0), .val (.int i1), .val (.int i2), .val (.int i3), .val (.ref o4), .val (.int i5), .val (.int i6), .val (.int i7), s8] [(.int (8 : Int32)), (.int i6)])) _
  refine XS.icmpYes X0.here hx rfl (pc0 := 114) (pc' := 140) rfl (hb hby at_114) rfl (feq hc114).2 (by decide) (by decide) ?_
  show Steps p.tables e below (T0.setTop (mkF m 140 #[.val (.int i0), .val (.int i1), .val (.int i2), .val (.int i3), .val (.ref o4), .val (.int i5), .val (.int i6), .val (.int i7), s8] [])) _
  refine XS.iload X0.here hx rfl (hb hby at_140) rfl ?_
  show Steps p.tables e below (T0.setTop (mkF m 142 #[.val (.int i0), .val (.int i1), .val (.int i2), .val (.int i3), .val (.ref o4), .val (.int i5), .val (.int i6), .val (.int i7), s8] [(.int i6)])) _
  refine XS.iconst X0.here hx rfl (hb hby at_142) ?_
  show Steps p.tables e below (T0.setTop (mkF m 143 #[.val (.int i0), .val (.int i1), .val (.int i2), .val (.int i3), .val (.ref o4), .val (.int i5), .val (.int i6), .val (.int i7), s8] [(.int (5 : Int32)), (.int i6)])) _
  refine XS.icmpNo X0.here hx rfl (hb hby at_143) rfl (flt hc143).1 ?_
  show Steps p.tables e below (T0.setTop (mkF m 146 #[.val (.int i0), .val (.int i1), .val (.int i2), .val (.int i3), .val (.ref o4), .val (.int i5), .val (.int i6), .val (.int i7), s8] [])) _
  refine XS.iload X0.here hx rfl (hb hby at_146) rfl ?_
  show Steps p.tables e below (T0.setTop (mkF m 148 #[.val (.int i0), .val (.int i1), .val (.int i2), .val (.int i3), .val (.ref o4), .val (.int i5), .val (.int i6), .val (.int i7), s8] [(.int i6)])) _
  refine XS.bipush X0.here hx rfl (hb hby at_148) ?_
  show Steps p.tables e below (T0.setTop (mkF m 150 #[.val (.int i0), .val (.int i1), .val (.int i2), .val (.int i3), .val (.ref o4), .val (.int i5), .val (.int i6), .val (.int i7), s8] [(.int (7 : Int32)), (.int i6)])) _
  refine XS.icmpYes X0.here hx rfl (pc0 := 150) (pc' := 160) rfl (hb hby at_150) rfl (tlt hc150).2.2.1 (by decide) (by decide) ?_
  show Steps p.tables e below (T0.setTop (mkF m 160 #[.val (.int i0), .val (.int i1), .val (.int i2), .val (.int i3), .val (.ref o4), .val (.int i5), .val (.int i6), .val (.int i7), s8] [])) _
  refine XS.iconst X0.here hx rfl (hb hby at_160) ?_
  show Steps p.tables e below (T0.setTop (mkF m 161 #[.val (.int i0), .val (.int i1), .val (.int i2), .val (.int i3), .val (.ref o4), .val (.int i5), .val (.int i6), .val (.int i7), s8] [(.int (2 : Int32))])) _
  refine XS.istore X0.here hx rfl (hb hby at_161) rfl (l' := #[.val (.int i0), .val (.int i1), .val (.int i2), .val (.int i3), .val (.ref o4), .val (.int i5), .val (.int i6), .val (.int i7), .val (.int (2 : Int32))]) (os0_161 hs8) ?_
  exact kt
theorem pn_0 : plainName "com/example/xml_table_store/xmltablestore/ScaleChildrenPinLaw" = true := by first | (simp [plainName, overriddenIn]; done) | decide +kernel
theorem pd_0_0 : parseMethodDescriptor "(II)I" = some ⟨[.int, .int], some .int⟩ := by decide +kernel
theorem ef_0 (m : MethodId) (x0 : Int32) (x1 : Int32) (x2 : Int32) : entryFrame m #[(.int x0), (.int x1), (.int x2)] maxLocals = mkF m 0 #[.val (.int x0), .val (.int x1), .val (.int x2), .unset, .unset, .unset, .unset, .unset, .unset] [] := by first | (simp [entryFrame, mkF, argsToLocals, Value.category, maxLocals]; done) | rfl
def Q0 (Z : State) (p1 : Int32) (p2 : Int32) (p3 : Int32) (w0 : Addr) (w1 : Addr) (w2 : Addr) (w3 : Addr) (h0 : Heap) (n0 : Nat) (v : Option Value) (h : Heap) (L : List Loc) : Prop := v = some (.int (1 : Int32)) ∧ Fr n0 L ∧ h = h0
set_option maxRecDepth 65536 in
set_option maxHeartbeats 40000000 in
theorem rm0 (l : Launch) (Z : State) (a0 : Array Value) (hw : ∀ d ∈ tables_1, d.before a0 Z = true) (ws : List Jvm.Cond) (p1 : Int32) (p2 : Int32) (p3 : Int32) (w0 : Addr) (w1 : Addr) (w2 : Addr) (w3 : Addr) (h0 : Heap) (n0 : Nat) (Z0 : n0 ≤ h0.size) (S0 : Sta Z h0 "com/example/xml_table_store/xmltablestore/MichiganDocument$Scale" "TENTH" "Lcom/example/xml_table_store/xmltablestore/MichiganDocument$Scale;" (.ref w0)) (E0 : Exa Z h0 w0 "com/example/xml_table_store/xmltablestore/MichiganDocument$Scale") (F0 : Fld Z h0 w0 "com/example/xml_table_store/xmltablestore/MichiganDocument$Scale" "fanout" "I" (.int 4)) (S1 : Sta Z h0 "com/example/xml_table_store/xmltablestore/MichiganDocument$Scale" "ONE" "Lcom/example/xml_table_store/xmltablestore/MichiganDocument$Scale;" (.ref w1)) (E1 : Exa Z h0 w1 "com/example/xml_table_store/xmltablestore/MichiganDocument$Scale") (F1 : Fld Z h0 w1 "com/example/xml_table_store/xmltablestore/MichiganDocument$Scale" "fanout" "I" (.int 13)) (S2 : Sta Z h0 "com/example/xml_table_store/xmltablestore/MichiganDocument$Scale" "TEN" "Lcom/example/xml_table_store/xmltablestore/MichiganDocument$Scale;" (.ref w2)) (E2 : Exa Z h0 w2 "com/example/xml_table_store/xmltablestore/MichiganDocument$Scale") (F2 : Fld Z h0 w2 "com/example/xml_table_store/xmltablestore/MichiganDocument$Scale" "fanout" "I" (.int 39)) (S3 : Sta Z h0 "com/example/xml_table_store/xmltablestore/MichiganDocument$Scale" "HUNDRED" "Lcom/example/xml_table_store/xmltablestore/MichiganDocument$Scale;" (.ref w3)) (E3 : Exa Z h0 w3 "com/example/xml_table_store/xmltablestore/MichiganDocument$Scale") (F3 : Fld Z h0 w3 "com/example/xml_table_store/xmltablestore/MichiganDocument$Scale" "fanout" "I" (.int 111)) :
    MetFree l x (head1 (Jvm.Cond.code x code maxLocals ret :: ws) room_1) (fun a U => a = #[(.int p1), (.int p2), (.int p3)] ∧ Z.Warmed39 U.vm ∧ U.heap = h0) (fun _ _ _ _ _ => True) (fun _ U o U' => ∃ v L, o = .returned v ∧ Q0 Z p1 p2 p3 w0 w1 w2 w3 h0 n0 v U'.heap L ∧ FrameEnd U o U' L room_1.cells room_1.slots) := by
  refine MetFree.of_bodySF (plainFor_of_name pn_0) hisR ?_
  intro p e s m args below meth c s₁ Bd hml0 hP hK
  obtain ⟨rfl, hZ, hh⟩ := hP
  have hx := Bd.exec
  have hby := Bd.bytes
  have hml : c.maxLocals = 9 := hml0
  have hown : s.vm.findClass "com/example/xml_table_store/xmltablestore/ScaleChildrenPinLaw" = some m.cls := findClass_of_methodNamed Bd.named
  have hnm := (name_of_methodNamed Bd.named Bd.method).1
  have X0 : Stand p l e room_1 s m #[(.int p1), (.int p2), (.int p3)] below meth c s₁ [] 0 0 := Stand.of_body Bd
  have e0 : s₁.heap = h0 := by rw [← hh, Bd.state]; rfl
  have N0 := Fr.nil n0
  have pre0 : ∀ t, Steps p.tables e below (s₁.setTop (mkF m 0 #[.val (.int p1), .val (.int p2), .val (.int p3), .unset, .unset, .unset, .unset, .unset, .unset] [])) t → Steps p.tables e below (s₁.setTop (entryFrame m #[(.int p1), (.int p2), (.int p3)] maxLocals)) t := fun t k => castTop (ef_0 m p1 p2 p3) k
  obtain ⟨w, f, hf, Ew, Fw, T1, X1, e1, k1⟩ : ∃ (w : Addr) (f : Int32), (f = 4 ∨ f = 13 ∨ f = 39 ∨ f = 111) ∧ Exa Z h0 w "com/example/xml_table_store/xmltablestore/MichiganDocument$Scale" ∧ Fld Z h0 w "com/example/xml_table_store/xmltablestore/MichiganDocument$Scale" "fanout" "I" (.int f) ∧ ∃ T', Stand p l e room_1 s m #[(.int p1), (.int p2), (.int p3)] below meth c T' [] 0 0 ∧ T'.heap = h0 ∧ ∀ target, Steps p.tables e below (T'.setTop (mkF m 62 #[.val (.int p1), .val (.int p2), .val (.int p3), .val (.int (p1 &&& (3 : Int32))), .val (.ref w), .val (.int f), .unset, .unset, .unset] [])) target → Steps p.tables e below (s₁.setTop (mkF m 0 #[.val (.int p1), .val (.int p2), .val (.int p3), .unset, .unset, .unset, .unset, .unset, .unset] [])) target := by
    by_cases c0 : (p1 &&& (3 : Int32)) = (0 : Int32)
    · obtain ⟨T', X', e', k'⟩ := tn0_0_62_A0 p1 p2 p3 _ _ _ _ _ _ w0 X0 hx hZ hw hby hml hown e0 One.u S0 One.u One.u c0
      exact ⟨w0, 4, by decide, E0, F0, T', X', e', k'⟩
    by_cases c1 : (p1 &&& (3 : Int32)) = (1 : Int32)
    · obtain ⟨T', X', e', k'⟩ := tn0_0_62_A1 p1 p2 p3 _ _ _ _ _ _ w1 X0 hx hZ hw hby hml hown e0 One.u S1 One.u One.u c0 c1
      exact ⟨w1, 13, by decide, E1, F1, T', X', e', k'⟩
    by_cases c2 : (p1 &&& (3 : Int32)) = (2 : Int32)
    · obtain ⟨T', X', e', k'⟩ := tn0_0_62_A2 p1 p2 p3 _ _ _ _ _ _ w2 X0 hx hZ hw hby hml hown e0 One.u S2 One.u One.u c0 c1 c2
      exact ⟨w2, 39, by decide, E2, F2, T', X', e', k'⟩
    obtain ⟨T', X', e', k'⟩ := tn0_0_62_A3 p1 p2 p3 _ _ _ _ _ _ w3 X0 hx hZ hw hby hml hown e0 One.u S3 One.u One.u c0 c1 c2
    exact ⟨w3, 111, by decide, E3, F3, T', X', e', k'⟩
  have f0 : ¬ (f = (0 : Int32)) := by rcases hf with rfl | rfl | rfl | rfl <;> decide
  obtain ⟨pos, T2, X2, e2, k2⟩ : ∃ (pos : Int32), ∃ T', Stand p l e room_1 s m #[(.int p1), (.int p2), (.int p3)] below meth c T' [] 0 0 ∧ T'.heap = h0 ∧ ∀ target, Steps p.tables e below (T'.setTop (mkF m 97 #[.val (.int p1), .val (.int p2), .val (.int p3), .val (.int (p1 &&& (3 : Int32))), .val (.ref w), .val (.int f), .val (.int (((p2 &&& (2147483647 : Int32)) - ((p2 &&& (2147483647 : Int32)) / (16 : Int32)) * (16 : Int32)) + (1 : Int32))), .val (.int pos), .unset] [])) target → Steps p.tables e below (T1.setTop (mkF m 62 #[.val (.int p1), .val (.int p2), .val (.int p3), .val (.int (p1 &&& (3 : Int32))), .val (.ref w), .val (.int f), .unset, .unset, .unset] [])) target := by
    by_cases c0 : ((p1 >>> ((2 : Int32) &&& 31)) &&& (1 : Int32)) = (0 : Int32)
    · obtain ⟨T', X', e', k'⟩ := tn0_62_97_B0 p1 p2 p3 _ w f _ _ _ X1 hx hZ hw hby hml hown e1 One.u One.u c0
      exact ⟨_, T', X', e', k'⟩
    · obtain ⟨T', X', e', k'⟩ := tn0_62_97_B1 p1 p2 p3 _ w f _ _ _ X1 hx hZ hw hby hml hown e1 One.u One.u c0 f0
      exact ⟨_, T', X', e', k'⟩
  have lvb : 1 ≤ (((p2 &&& (2147483647 : Int32)) - ((p2 &&& (2147483647 : Int32)) / (16 : Int32)) * (16 : Int32)) + (1 : Int32)).toInt ∧ (((p2 &&& (2147483647 : Int32)) - ((p2 &&& (2147483647 : Int32)) / (16 : Int32)) * (16 : Int32)) + (1 : Int32)).toInt ≤ 16 := by
    have q := own_rem (own_and31 p2) (m := (16 : Int32)) (by decide)
    have t16 : (16 : Int32).toInt = 16 := rfl
    have t1 : (1 : Int32).toInt = 1 := rfl
    rw [t16] at q
    rw [Jvm.Kit.i32_add (by omega) (by omega)]
    omega
  generalize hlv : (((p2 &&& (2147483647 : Int32)) - ((p2 &&& (2147483647 : Int32)) / (16 : Int32)) * (16 : Int32)) + (1 : Int32)) = lv at lvb k2
  obtain ⟨ex, HC, T3, X3, e3, k3⟩ : ∃ (ex : Int32), own_Children l Z h0 n0 w lv pos ex ∧ ∃ T', Stand p l e room_1 s m #[(.int p1), (.int p2), (.int p3)] below meth c T' [] 0 0 ∧ T'.heap = h0 ∧ ∀ target, Steps p.tables e below (T'.setTop (mkF m 163 #[.val (.int p1), .val (.int p2), .val (.int p3), .val (.int (p1 &&& (3 : Int32))), .val (.ref w), .val (.int f), .val (.int lv), .val (.int pos), .val (.int ex)] [])) target → Steps p.tables e below (T2.setTop (mkF m 97 #[.val (.int p1), .val (.int p2), .val (.int p3), .val (.int (p1 &&& (3 : Int32))), .val (.ref w), .val (.int f), .val (.int lv), .val (.int pos), .unset] [])) target := by
    have l4 : (4 : Int32).toInt = 4 := rfl
    have l5 : (5 : Int32).toInt = 5 := rfl
    have l7 : (7 : Int32).toInt = 7 := rfl
    have l9 : (9 : Int32).toInt = 9 := rfl
    have l16 : (16 : Int32).toInt = 16 := rfl
    have l8 : (8 : Int32).toInt = 8 := rfl
    by_cases c16 : lv = (16 : Int32)
    · obtain ⟨T', X', e', k'⟩ := tn0_97_163_C0 _ _ _ _ w f lv pos _ X2 hx hZ hw hby hml hown e2 One.u c16
      exact ⟨0, rm1_g l Z a0 hw [] w lv pos  h0 n0 Z0 (by rw [c16]; decide) (by rw [c16]; decide) (by rw [c16]; decide) (by rw [c16]; decide) (by rw [c16]; decide), T', X', e', k'⟩
    by_cases c8 : lv = (8 : Int32)
    · by_cases cd : ((pos / f) * f) = pos
      · obtain ⟨T', X', e', k'⟩ := tn0_97_163_C1 _ _ _ _ w f lv pos _ X2 hx hZ hw hby hml hown e2 One.u c16 c8 f0 cd
        exact ⟨1, rm1_c l Z a0 hw [] w lv pos f h0 n0 Z0 Fw (by rw [c8]; decide) (by rw [c8]; decide) (by rw [c8]; decide) c8 f0 (by rw [cd]; exact Int32.sub_self pos), T', X', e', k'⟩
      · obtain ⟨T', X', e', k'⟩ := tn0_97_163_C2 _ _ _ _ w f lv pos _ X2 hx hZ hw hby hml hown e2 One.u c16 c8 f0 cd
        exact ⟨0, rm1_d l Z a0 hw [] w lv pos f h0 n0 Z0 Fw (by rw [c8]; decide) (by rw [c8]; decide) (by rw [c8]; decide) c8 f0 (fun q => cd (own_sub0 q).symm), T', X', e', k'⟩
    have m16 : lv.toInt ≠ 16 := fun q => c16 (Int32.toInt_inj.mp q)
    have m8 : lv.toInt ≠ 8 := fun q => c8 (Int32.toInt_inj.mp q)
    by_cases c5 : lv < (5 : Int32)
    · have c5' := Int32.lt_iff_toInt_lt.mp c5
      obtain ⟨T', X', e', k'⟩ := tn0_97_163_C3 _ _ _ _ w f lv pos _ X2 hx hZ hw hby hml hown e2 One.u c16 c8 c5
      exact ⟨2, rm1_a l Z a0 hw [] w lv pos  h0 n0 Z0 (by rw [Int32.lt_iff_toInt_lt]; omega), T', X', e', k'⟩
    have c5' : ¬ lv.toInt < (5 : Int32).toInt := fun q => c5 (Int32.lt_iff_toInt_lt.mpr q)
    by_cases c7 : (7 : Int32) < lv
    · have c7' := Int32.lt_iff_toInt_lt.mp c7
      obtain ⟨T', X', e', k'⟩ := tn0_97_163_C5 _ _ _ _ w f lv pos _ X2 hx hZ hw hby hml hown e2 One.u c16 c8 c5 c7
      exact ⟨2, rm1_e l Z a0 hw [] w lv pos  h0 n0 Z0 (by rw [Int32.lt_iff_toInt_lt]; omega) (by rw [Int32.lt_iff_toInt_lt]; omega) (by rw [Int32.lt_iff_toInt_lt]; omega), T', X', e', k'⟩
    have c7' : ¬ (7 : Int32).toInt < lv.toInt := fun q => c7 (Int32.lt_iff_toInt_lt.mpr q)
    obtain ⟨T', X', e', k'⟩ := tn0_97_163_C4 _ _ _ _ w f lv pos _ X2 hx hZ hw hby hml hown e2 One.u c16 c8 c5 c7
    exact ⟨f, rm1_b l Z a0 hw [] w lv pos f h0 n0 Z0 Fw (by rw [Int32.lt_iff_toInt_lt]; omega) (by rw [Int32.lt_iff_toInt_lt]; omega) c7, T', X', e', k'⟩
  subst hlv
  obtain ⟨cq4, kq4, q4a, q4b, q4c⟩ := isOf hZ e3 Ew
  obtain ⟨_, _, ⟨T4, L4, k4, n4⟩, -, X4, ⟨Lc4, hQ4, l4, y4, z4⟩, st4⟩ := X3.virtualBack hx (y := (⟨"com/example/xml_table_store/xmltablestore/MichiganDocument$Scale", "children", "(II)I"⟩ : MethodName)) (z := (⟨"com/example/xml_table_store/xmltablestore/MichiganDocument$Scale", "children", "(II)I"⟩ : MethodName)) hown (mvT hZ (hw _ (List.mem_of_getElem? (i := 4) rfl))) (mvT hZ (hw _ (List.mem_of_getElem? (i := 5) rfl))) (notFace_of_selects (args := #[]) (mvT hZ (hw _ (List.mem_of_getElem? (i := 7) rfl)))) (mvT hZ (hw _ (List.mem_of_getElem? (i := 7) rfl))) (mvT hZ (hw _ (List.mem_of_getElem? (i := 6) rfl))) (by decide) (backOf (W := 0) (HC) hZ (hw _ (List.mem_of_getElem? (i := 8) rfl)) (hw _ (List.mem_of_getElem? (i := 1) rfl)) (by decide) (by decide)) q4a q4c (g := (mkF m 169 #[.val (.int p1), .val (.int p2), .val (.int p3), .val (.int (p1 &&& (3 : Int32))), .val (.ref w), .val (.int f), .val (.int (((p2 &&& (2147483647 : Int32)) - ((p2 &&& (2147483647 : Int32)) / (16 : Int32)) * (16 : Int32)) + (1 : Int32))), .val (.int pos), .val (.int ex)] [(.int pos), (.int (((p2 &&& (2147483647 : Int32)) - ((p2 &&& (2147483647 : Int32)) / (16 : Int32)) * (16 : Int32)) + (1 : Int32))), (.ref w)])) rfl (by rw [hml]; rfl) (Steps.refl _) (argsL := [(.int (((p2 &&& (2147483647 : Int32)) - ((p2 &&& (2147483647 : Int32)) / (16 : Int32)) * (16 : Int32)) + (1 : Int32))), (.int pos)]) (rest := []) (lenOf pd_0_0 rfl) rfl (by show 2 * 0 + _ ≤ _; exact Nat.le_of_eq rfl) (hb hby at_169) (fun _ _ => ⟨rfl, e3, (by decide : 0 + 0 ≤ _), (by decide : 0 + 0 ≤ _)⟩)
  dsimp only [Pt.U, Pt.locs, Pt.cells, Pt.slots] at X4 l4 y4 z4 st4 hQ4
  subst l4 y4 z4
  obtain ⟨rfl, N4q, e4⟩ := hQ4
  have N4 := Fr.app N0 N4q
  obtain ⟨fs, hr, hrun, hended, hW, hsame⟩ := X4.leave (v := some (.int (1 : Int32))) (fun h => by rw [Bd.returns] at h; cases h)
  refine ⟨_, _, pre0 _ (k1 _ (k2 _ (k3 _ ?_))), hrun, hended, _, _, rfl, ?_, ⟨_, rfl⟩, hW, hsame.mono (by decide) (by decide)⟩
  · show Steps p.tables e below (T3.setTop (mkF m 163 #[.val (.int p1), .val (.int p2), .val (.int p3), .val (.int (p1 &&& (3 : Int32))), .val (.ref w), .val (.int f), .val (.int (((p2 &&& (2147483647 : Int32)) - ((p2 &&& (2147483647 : Int32)) / (16 : Int32)) * (16 : Int32)) + (1 : Int32))), .val (.int pos), .val (.int ex)] [])) _
    refine XS.aload X3.here hx rfl (hb hby at_163) rfl rfl ?_
    show Steps p.tables e below (T3.setTop (mkF m 165 #[.val (.int p1), .val (.int p2), .val (.int p3), .val (.int (p1 &&& (3 : Int32))), .val (.ref w), .val (.int f), .val (.int (((p2 &&& (2147483647 : Int32)) - ((p2 &&& (2147483647 : Int32)) / (16 : Int32)) * (16 : Int32)) + (1 : Int32))), .val (.int pos), .val (.int ex)] [(.ref w)])) _
    refine XS.iload X3.here hx rfl (hb hby at_165) rfl ?_
    show Steps p.tables e below (T3.setTop (mkF m 167 #[.val (.int p1), .val (.int p2), .val (.int p3), .val (.int (p1 &&& (3 : Int32))), .val (.ref w), .val (.int f), .val (.int (((p2 &&& (2147483647 : Int32)) - ((p2 &&& (2147483647 : Int32)) / (16 : Int32)) * (16 : Int32)) + (1 : Int32))), .val (.int pos), .val (.int ex)] [(.int (((p2 &&& (2147483647 : Int32)) - ((p2 &&& (2147483647 : Int32)) / (16 : Int32)) * (16 : Int32)) + (1 : Int32))), (.ref w)])) _
    refine XS.iload X3.here hx rfl (hb hby at_167) rfl ?_
    show Steps p.tables e below (T3.setTop (mkF m 169 #[.val (.int p1), .val (.int p2), .val (.int p3), .val (.int (p1 &&& (3 : Int32))), .val (.ref w), .val (.int f), .val (.int (((p2 &&& (2147483647 : Int32)) - ((p2 &&& (2147483647 : Int32)) / (16 : Int32)) * (16 : Int32)) + (1 : Int32))), .val (.int pos), .val (.int ex)] [(.int pos), (.int (((p2 &&& (2147483647 : Int32)) - ((p2 &&& (2147483647 : Int32)) / (16 : Int32)) * (16 : Int32)) + (1 : Int32))), (.ref w)])) _
    refine st4.trans ?_
    show Steps p.tables e below (T4.setTop (mkF m 172 #[.val (.int p1), .val (.int p2), .val (.int p3), .val (.int (p1 &&& (3 : Int32))), .val (.ref w), .val (.int f), .val (.int (((p2 &&& (2147483647 : Int32)) - ((p2 &&& (2147483647 : Int32)) / (16 : Int32)) * (16 : Int32)) + (1 : Int32))), .val (.int pos), .val (.int ex)] [(.int ex)])) _
    refine XS.iload X4.here hx rfl (hb hby at_172) rfl ?_
    show Steps p.tables e below (T4.setTop (mkF m 174 #[.val (.int p1), .val (.int p2), .val (.int p3), .val (.int (p1 &&& (3 : Int32))), .val (.ref w), .val (.int f), .val (.int (((p2 &&& (2147483647 : Int32)) - ((p2 &&& (2147483647 : Int32)) / (16 : Int32)) * (16 : Int32)) + (1 : Int32))), .val (.int pos), .val (.int ex)] [(.int ex), (.int ex)])) _
    refine XS.icmpNo X4.here hx rfl (hb hby at_174) rfl (teq (rfl : ex = ex)).2 ?_
    show Steps p.tables e below (T4.setTop (mkF m 177 #[.val (.int p1), .val (.int p2), .val (.int p3), .val (.int (p1 &&& (3 : Int32))), .val (.ref w), .val (.int f), .val (.int (((p2 &&& (2147483647 : Int32)) - ((p2 &&& (2147483647 : Int32)) / (16 : Int32)) * (16 : Int32)) + (1 : Int32))), .val (.int pos), .val (.int ex)] [])) _
    refine XS.iconst X4.here hx rfl (hb hby at_177) ?_
    show Steps p.tables e below (T4.setTop (mkF m 178 #[.val (.int p1), .val (.int p2), .val (.int p3), .val (.int (p1 &&& (3 : Int32))), .val (.ref w), .val (.int f), .val (.int (((p2 &&& (2147483647 : Int32)) - ((p2 &&& (2147483647 : Int32)) / (16 : Int32)) * (16 : Int32)) + (1 : Int32))), .val (.int pos), .val (.int ex)] [(.int (1 : Int32))])) _
    refine XS.goto X4.here hx rfl (pc0 := 178) (pc' := 182) rfl (hb hby at_178) (by decide) (by decide) ?_
    show Steps p.tables e below (T4.setTop (mkF m 182 #[.val (.int p1), .val (.int p2), .val (.int p3), .val (.int (p1 &&& (3 : Int32))), .val (.ref w), .val (.int f), .val (.int (((p2 &&& (2147483647 : Int32)) - ((p2 &&& (2147483647 : Int32)) / (16 : Int32)) * (16 : Int32)) + (1 : Int32))), .val (.int pos), .val (.int ex)] [(.int (1 : Int32))])) _
    exact retN X4 hx (t := .boolean) Bd.returns (by simp) (hb hby at_182) hr
  · show Q0 Z p1 p2 p3 w0 w1 w2 w3 h0 n0 _ T4.heap _
    rw [e4]
    exact ⟨rfl, N4, rfl⟩
set_option maxRecDepth 65536 in
set_option maxHeartbeats 40000000 in
theorem comes_1 {Post : Tables → Env → Array Value → State → Outcome → State → Prop} (hpost : ∀ tb e args s v u, (limb_1_1.after args s (.returned v) u = true ∧ limb_1_2.after args s (.returned v) u = true ∧ True) → FrameEnd s (.returned v) u (Jvm.fieldLocs frame_1_writes args s ++ Jvm.arrayLocs frame_1_arrays args s ++ Jvm.staticLocs frame_1_statics s) 0 0 → Post tb e args s (.returned v) u) :
    ArmFor flags0 classFile x code maxLocals ret World_1 tables_1 room_1 Calls_1 rest_1 Pre_1 Post := by
  intro l hfl _ _ p e ha hc hk s m args below hf hA hF happ hP
  obtain ⟨hcalls, hrest, hpre⟩ := hP
  obtain ⟨-, -, -, hnamed, -, -, -, hat⟩ := (Spec.applies_iff hf).mp happ
  obtain ⟨hg, hn⟩ := and_e (Cond.before_iff.mp (show (Jvm.Cond.and given_1 narrow_1).before args s = true from hpre))
  obtain ⟨g5, g6⟩ := and_e hg
  obtain ⟨g7, g8⟩ := and_e g6
  obtain ⟨g9, g10⟩ := and_e g8
  obtain ⟨w0, w1, w2, rfl⟩ : ∃ w0 w1 w2 : Value, args = #[w0, w1, w2] := by
    have hs : args.size = 3 := by simpa [Cond.value, given_1] using g5
    obtain ⟨L⟩ := args
    match L, hs with
    | [w0, w1, w2], _ => exact ⟨w0, w1, w2, rfl⟩
  have hw := fun d (hd : d ∈ tables_1) => atoms_spec (ws := Jvm.Cond.code x code maxLocals ret :: tables_1) hat d (List.mem_cons_of_mem _ hd)
  have hfit : Fit s := fun {y c} hc i hi => by
    obtain ⟨ha, rfl⟩ := Array.getElem?_eq_some_iff.mp hc
    have q := List.all_eq_true.mp ((Array.all_eq_true_iff_forall_mem.mp hF) _ (Array.getElem_mem ha)) i (List.mem_range.mpr hi)
    simpa [Array.getElem?_eq_getElem hi] using q
  obtain ⟨i0, ei0⟩ := is_v g7
  obtain rfl : w0 = (.int i0) := Option.some.inj ei0
  obtain ⟨i1, ei1⟩ := is_v g9
  obtain rfl : w1 = (.int i1) := Option.some.inj ei1
  obtain ⟨i2, ei2⟩ := is_v g10
  obtain rfl : w2 = (.int i2) := Option.some.inj ei2
  obtain ⟨n1, hn_1⟩ := and_e hn
  obtain ⟨n2, hn_2⟩ := and_e hn_1
  obtain ⟨n3, hn_3⟩ := and_e hn_2
  obtain ⟨n4, hn_4⟩ := and_e hn_3
  obtain ⟨n5, hn_5⟩ := and_e hn_4
  obtain ⟨n6, hn_6⟩ := and_e hn_5
  obtain ⟨n7, n8⟩ := and_e hn_6
  obtain ⟨a0, e0, S0, E0⟩ := own_sta n1 (hw _ (List.mem_of_getElem? (i := 1) rfl)) (hw _ (List.mem_of_getElem? (i := 2) rfl))
  have F0 := own_fldK e0 n5
  obtain ⟨a1, e1, S1, E1⟩ := own_sta n2 (hw _ (List.mem_of_getElem? (i := 1) rfl)) (hw _ (List.mem_of_getElem? (i := 10) rfl))
  have F1 := own_fldK e1 n6
  obtain ⟨a2, e2, S2, E2⟩ := own_sta n4 (hw _ (List.mem_of_getElem? (i := 1) rfl)) (hw _ (List.mem_of_getElem? (i := 14) rfl))
  have F2 := own_fldK e2 n7
  obtain ⟨a3, e3, S3, E3⟩ := own_sta n3 (hw _ (List.mem_of_getElem? (i := 1) rfl)) (hw _ (List.mem_of_getElem? (i := 12) rfl))
  have F3 := own_fldK e3 n8
  obtain ⟨n, o, h1, h2, h3, _, L, rfl, ⟨rfl, N, -⟩, hq⟩ := rm0 l s _ hw tables_1 i0 i1 i2 a0 a1 a2 a3 s.heap s.heap.size (Nat.le_refl _) S0 E0 F0 S1 E1 F1 S2 E2 F2 S3 E3 F3 p e ha hc hk s m _ below hf ((Spec.applies_iff_loose hf).mp happ).1 ⟨rfl, State.Warmed39.refl s, rfl⟩ trivial
  refine ⟨n, _, h1, h2, h3, hpost _ _ _ _ _ _ ⟨Cond.after_iff.mpr rfl, Cond.after_iff.mpr (eq_i res_at (Term.int_eval (1)) rfl), trivial⟩ ⟨hq.1, hq.2.1, (hq.2.2.sift fun y hy => Or.inr (N y hy)).mono (by decide) (by decide)⟩⟩
theorem main_1_1 : Claimed_1_1 := comes_1 fun _ _ _ _ _ _ h hF => ⟨h.1, hF⟩
theorem main_1_2 : Claimed_1_2 := comes_1 fun _ _ _ _ _ _ h hF => ⟨h.2.1, hF⟩
end Jvm.Pilot.@@N@@
namespace Jvm.Pilot.@@N@@
open Jvm Jvm.ClassFile Sem Op Lib Jvm.Free Jvm.Stand Jvm.Pilot.@@N@@.Jvm.D
/-! MADE BY PROGRAM (witnessworld.py) out of the Statement's table words and the real class files: 12 classes; the members and pool entries that the words name. The judged class is class 1, her method 1. -/
namespace start1
open Jvm.ClassFile
def u (s : String) : CpInfo := .utf8 (stringToUtf16 s)
/-- a pool by its gaps: so many unusable entries, then the entry; so many at the end -/
def gap : Nat → List CpInfo → List CpInfo
  | 0, r => r
  | n + 1, r => .unusable :: gap n r
def poolList (es : List (Nat × CpInfo)) (last : Nat) : List CpInfo := es.foldr (fun e r => gap e.1 (e.2 :: r)) (gap last [])
def pool (es : List (Nat × CpInfo)) (last : Nat) : Array CpInfo := ⟨poolList es last⟩
def fileOf (pool : Array CpInfo) (this : Nat) (attrs : Array Attribute := #[]) (ms : Array MethodInfo := #[]) (fl : Nat := 33) (sup : Nat := 0) (ifs : Array Nat := #[]) (fds : Array FieldInfo := #[]) : ClassFile where
  minorVersion := 0
  majorVersion := 65
  constantPool := pool
  accessFlags := fl
  thisClass := this
  superClass := sup
  interfaces := ifs
  fields := fds
  methods := ms
  attributes := attrs
def plain (name : String) (sup : Option ClassId) : Class where
  name := name
  kind := .ordinary
  loader := none
  accessFlags := 33
  super := sup
  interfaces := #[]
  cf := none
  fields := #[]
  methods := #[]
  instanceTypes := #[]
  staticTypes := #[]
  resolved := #[]
  callSites := []
  init := .initialized
  statics := none
  mirror := none

def pool0 : Array CpInfo := pool [(5, u "<init>"), (0, u "()V"), (1, .class_ 10), (1, u "java/lang/Object")] 113

def k0m0 : Method := { name := "<init>", desc := "()V", sig := { parameters := [], returnType := none }, accessFlags := 1, code := none }
/-- java/lang/Object -/
def k0 : Class := { plain "java/lang/Object" none with
  accessFlags := 33
  interfaces := #[]
  cf := some (fileOf pool0 8 #[] #[{ accessFlags := 1, nameIndex := 5, descriptorIndex := 6, attributes := #[] }] 33 0 #[] #[])
  fields := #[]
  methods := #[k0m0]
  instanceTypes := #[]
  staticTypes := #[]
  resolved := Array.replicate 124 none
  statics := none }

def pool1 : Array CpInfo := pool [(2, .class_ 4), (1, u "java/lang/Object"), (0, u "<init>"), (0, u "()V"), (0, .fieldref 8 9), (0, .class_ 10), (0, .nameAndType 11 12), (0, u "com/example/xml_table_store/xmltablestore/MichiganDocument$Scale"), (0, u "TENTH"), (0, u "Lcom/example/xml_table_store/xmltablestore/MichiganDocument$Scale;"), (0, .fieldref 8 14), (0, .nameAndType 15 12), (0, u "ONE"), (0, .fieldref 8 17), (0, .nameAndType 18 12), (0, u "TEN"), (0, .fieldref 8 20), (0, .nameAndType 21 12), (0, u "HUNDRED"), (0, .integer 2147483647), (0, .methodref 8 24), (0, .nameAndType 25 26), (0, u "children"), (0, u "(II)I"), (0, .class_ 28), (0, u "com/example/xml_table_store/xmltablestore/ScaleChildrenPinLaw"), (2, u "law"), (0, u "(III)Z")] 7

def k1m0 : Method := { name := "<init>", desc := "()V", sig := { parameters := [], returnType := none }, accessFlags := 1, code := none }
def k1c1 : Code := { maxStack := 3, maxLocals := 9, code := code, exceptionTable := #[], attributes := #[] }
def k1m1 : Method := { name := "law", desc := "(III)Z", sig := { parameters := [.int, .int, .int], returnType := some .boolean }, accessFlags := 9, code := some k1c1 }
/-- com/example/xml_table_store/xmltablestore/ScaleChildrenPinLaw -/
def k1 : Class := { plain "com/example/xml_table_store/xmltablestore/ScaleChildrenPinLaw" (some 0) with
  accessFlags := 49
  interfaces := #[]
  cf := some (fileOf pool1 27 #[] #[{ accessFlags := 1, nameIndex := 5, descriptorIndex := 6, attributes := #[] }, { accessFlags := 9, nameIndex := 31, descriptorIndex := 32, attributes := #[] }] 49 2 #[] #[])
  fields := #[]
  methods := #[k1m0, k1m1]
  instanceTypes := #[]
  staticTypes := #[]
  resolved := Array.replicate 40 none
  statics := none }

def pool2 : Array CpInfo := pool [(1, .class_ 2), (0, u "java/lang/constant/Constable"), (0, .class_ 4), (0, u "java/lang/Object")] 6

/-- java/lang/constant/Constable -/
def k2 : Class := { plain "java/lang/constant/Constable" (some 0) with
  accessFlags := 1537
  interfaces := #[]
  cf := some (fileOf pool2 1 #[] #[] 1537 3 #[] #[])
  fields := #[]
  methods := #[]
  instanceTypes := #[]
  staticTypes := #[]
  resolved := Array.replicate 11 none
  statics := none }

def pool3 : Array CpInfo := pool [(1, .class_ 2), (0, u "java/lang/Comparable"), (0, .class_ 4), (0, u "java/lang/Object")] 7

/-- java/lang/Comparable -/
def k3 : Class := { plain "java/lang/Comparable" (some 0) with
  accessFlags := 1537
  interfaces := #[]
  cf := some (fileOf pool3 1 #[] #[] 1537 3 #[] #[])
  fields := #[]
  methods := #[]
  instanceTypes := #[]
  staticTypes := #[]
  resolved := Array.replicate 12 none
  statics := none }

def pool4 : Array CpInfo := pool [(1, .class_ 2), (0, u "java/io/Serializable"), (0, .class_ 4), (0, u "java/lang/Object")] 2

/-- java/io/Serializable -/
def k4 : Class := { plain "java/io/Serializable" (some 0) with
  accessFlags := 1537
  interfaces := #[]
  cf := some (fileOf pool4 1 #[] #[] 1537 3 #[] #[])
  fields := #[]
  methods := #[]
  instanceTypes := #[]
  staticTypes := #[]
  resolved := Array.replicate 7 none
  statics := none }

def pool5 : Array CpInfo := pool [(2, .class_ 4), (1, u "java/lang/Enum"), (0, u "name"), (0, u "Ljava/lang/String;"), (2, u "ordinal"), (0, u "I"), (1, .class_ 14), (1, u "java/lang/Object"), (4, u "hash"), (86, .class_ 108), (1, u "java/lang/Enum$EnumDesc"), (2, .class_ 112), (0, u "java/lang/constant/Constable"), (0, .class_ 114), (0, u "java/lang/Comparable"), (0, .class_ 116), (0, u "java/io/Serializable")] 87

/-- java/lang/Enum -/
def k5 : Class := { plain "java/lang/Enum" (some 0) with
  accessFlags := 1057
  interfaces := #[2, 3, 4]
  cf := some (fileOf pool5 2 #[.nestMembers #[106]] #[] 1057 12 #[111, 113, 115] #[{ accessFlags := 18, nameIndex := 5, descriptorIndex := 6, attributes := #[] }, { accessFlags := 18, nameIndex := 9, descriptorIndex := 10, attributes := #[] }, { accessFlags := 2, nameIndex := 19, descriptorIndex := 10, attributes := #[] }])
  fields := #[{ name := "name", type := (.object "java/lang/String"), accessFlags := 18, slot := 0, constantValue := 0 }, { name := "ordinal", type := .int, accessFlags := 18, slot := 1, constantValue := 0 }, { name := "hash", type := .int, accessFlags := 2, slot := 2, constantValue := 0 }]
  methods := #[]
  instanceTypes := #[(.object "java/lang/String"), .int, .int]
  staticTypes := #[]
  resolved := Array.replicate 204 none
  statics := none }

def pool6 : Array CpInfo := pool [(1, .class_ 2), (0, u "com/example/xml_table_store/xmltablestore/MichiganDocument"), (0, .class_ 4), (0, u "com/example/xml_table_store/xmltablestore/MichiganDocument$Scale"), (2, u "TENTH"), (0, u "Lcom/example/xml_table_store/xmltablestore/MichiganDocument$Scale;"), (2, u "ONE"), (2, u "TEN"), (2, u "HUNDRED"), (2, u "$VALUES"), (0, u "[Lcom/example/xml_table_store/xmltablestore/MichiganDocument$Scale;"), (6, .class_ 30), (1, u "java/lang/Enum"), (8, u "label"), (0, u "Ljava/lang/String;"), (0, .fieldref 3 42), (0, .nameAndType 43 44), (0, u "fanout"), (0, u "I"), (37, u "children"), (0, u "(II)I")] 52

def k6c0 : Code := { maxStack := 2, maxLocals := 3, code := prog_24_method_7_code, exceptionTable := #[], attributes := #[] }
def k6m0 : Method := { name := "children", desc := "(II)I", sig := { parameters := [.int, .int], returnType := some .int }, accessFlags := 0, code := some k6c0 }
/-- com/example/xml_table_store/xmltablestore/MichiganDocument$Scale -/
def k6 : Class := { plain "com/example/xml_table_store/xmltablestore/MichiganDocument$Scale" (some 5) with
  accessFlags := 16433
  interfaces := #[]
  cf := some (fileOf pool6 3 #[.nestHost 1] #[{ accessFlags := 0, nameIndex := 82, descriptorIndex := 83, attributes := #[] }] 16433 28 #[] #[{ accessFlags := 16409, nameIndex := 7, descriptorIndex := 8, attributes := #[] }, { accessFlags := 16409, nameIndex := 11, descriptorIndex := 8, attributes := #[] }, { accessFlags := 16409, nameIndex := 14, descriptorIndex := 8, attributes := #[] }, { accessFlags := 16409, nameIndex := 17, descriptorIndex := 8, attributes := #[] }, { accessFlags := 18, nameIndex := 39, descriptorIndex := 40, attributes := #[] }, { accessFlags := 18, nameIndex := 43, descriptorIndex := 44, attributes := #[] }, { accessFlags := 4122, nameIndex := 20, descriptorIndex := 21, attributes := #[] }])
  fields := #[{ name := "TENTH", type := (.object "com/example/xml_table_store/xmltablestore/MichiganDocument$Scale"), accessFlags := 16409, slot := 0, constantValue := 0 }, { name := "ONE", type := (.object "com/example/xml_table_store/xmltablestore/MichiganDocument$Scale"), accessFlags := 16409, slot := 1, constantValue := 0 }, { name := "TEN", type := (.object "com/example/xml_table_store/xmltablestore/MichiganDocument$Scale"), accessFlags := 16409, slot := 2, constantValue := 0 }, { name := "HUNDRED", type := (.object "com/example/xml_table_store/xmltablestore/MichiganDocument$Scale"), accessFlags := 16409, slot := 3, constantValue := 0 }, { name := "label", type := (.object "java/lang/String"), accessFlags := 18, slot := 3, constantValue := 0 }, { name := "fanout", type := .int, accessFlags := 18, slot := 4, constantValue := 0 }, { name := "$VALUES", type := (.array (.object "com/example/xml_table_store/xmltablestore/MichiganDocument$Scale")), accessFlags := 4122, slot := 4, constantValue := 0 }]
  methods := #[k6m0]
  instanceTypes := #[(.object "java/lang/String"), .int, .int, (.object "java/lang/String"), .int]
  staticTypes := #[(.object "com/example/xml_table_store/xmltablestore/MichiganDocument$Scale"), (.object "com/example/xml_table_store/xmltablestore/MichiganDocument$Scale"), (.object "com/example/xml_table_store/xmltablestore/MichiganDocument$Scale"), (.object "com/example/xml_table_store/xmltablestore/MichiganDocument$Scale"), (.array (.object "com/example/xml_table_store/xmltablestore/MichiganDocument$Scale"))]
  resolved := Array.replicate 136 none
  statics := some 0 }

def pool7 : Array CpInfo := pool [(1, u "java/lang/Cloneable"), (0, .class_ 1), (0, u "java/lang/Object"), (0, .class_ 3)] 3

/-- java/lang/Cloneable -/
def k7 : Class := { plain "java/lang/Cloneable" (some 0) with
  accessFlags := 1537
  interfaces := #[]
  cf := some (fileOf pool7 2 #[] #[] 1537 4 #[] #[])
  fields := #[]
  methods := #[]
  instanceTypes := #[]
  staticTypes := #[]
  resolved := Array.replicate 8 none
  statics := none }

/-- the primitive byte -/
def k8 : Class := { plain "byte" none with kind := .primitive 'B', accessFlags := 0x411 }
/-- [B -/
def k9 : Class := { plain "[B" (some 0) with kind := .array 8 .byte, interfaces := #[7, 4], accessFlags := 1041 }

/-- the primitive int -/
def k10 : Class := { plain "int" none with kind := .primitive 'I', accessFlags := 0x411 }
/-- [I -/
def k11 : Class := { plain "[I" (some 0) with kind := .array 10 .int, interfaces := #[7, 4], accessFlags := 1041 }

def heap : Heap := #[{ cls := 6, slots := #[.ref 1, .ref 2, .ref 3, .ref 4, .null], vm := .statics 6 },
  { cls := 6, slots := #[.null, .int 0, .int 0, .null, .int 4], vm := .none },
  { cls := 6, slots := #[.null, .int 1, .int 0, .null, .int 13], vm := .none },
  { cls := 6, slots := #[.null, .int 2, .int 0, .null, .int 39], vm := .none },
  { cls := 6, slots := #[.null, .int 3, .int 0, .null, .int 111], vm := .none }]
def classes : Array Class := #[k0, k1, k2, k3, k4, k5, k6, k7, k8, k9, k10, k11]
def interned : List (Array UInt16 × Addr) := []
def slotsUsed : Nat := 25
def theMethod : MethodId := ⟨1, 1⟩
def args0 : Array Value := #[.int 5, .int 7, .int 100]
def aboutOver (below : List Frame) : State where
  vm := { classes := classes, interned := interned.toArray }
  heap := heap
  slotsUsed := slotsUsed
  threads := #[{ frames := .invoking theMethod args0 :: below }]
def below0 : List Frame := [.native { method := ⟨0, 0⟩, args := #[] }]
def about1 : State := aboutOver below0
def p0 : Program := .bare "" "" ""
def e0 : Env := launch0.env 0 0 0
theorem w_frames : about1.frames = Frame.invoking theMethod args0 :: below0 := rfl
set_option maxRecDepth 65536 in
theorem w_args : argsFit about1.vm theMethod args0 = true := by decide +kernel
set_option maxRecDepth 65536 in
theorem w_heap : heapFits about1 = true := by decide +kernel
set_option maxRecDepth 65536 in
theorem w_runnable : about1.curStatus? = some .runnable := by decide +kernel
set_option maxRecDepth 65536 in
theorem w_alone : about1.alone = true := by decide +kernel
set_option maxRecDepth 65536 in
theorem w_named : about1.methodNamed? x = some theMethod := by decide +kernel
set_option maxRecDepth 65536 in
theorem w_hears : about1.hears theMethod below0 = true := by decide +kernel
set_option maxRecDepth 65536 in
theorem w_ripe : about1.ripe theMethod args0 below0 = true := by decide +kernel
theorem w_running : about1.status = .running := rfl
set_option maxRecDepth 65536 in
theorem w_room : about1.hasRoom e0.platform room_1 = true :=
  launch0.hasRoom_least _ room_1 (by decide +kernel) (by decide +kernel) (by decide +kernel) (by decide +kernel) (by decide +kernel) (by decide +kernel)
theorem allAtoms_all (ts : List Jvm.Cond) (a : Array Jvm.Value) (st : Jvm.State) : (allAtoms ts).before a st = ts.all (fun c => c.before a st) := by
  induction ts with
  | nil => rfl
  | cons c t ih =>
    show (Jvm.Cond.and c (allAtoms t)).before a st = _
    rw [Jvm.Cond.before_and, ih, List.all_cons]
def words1 : List Jvm.Cond := Jvm.Cond.code x code maxLocals ret :: tables_1
/-- a 'code' word, met by the world's own term for the bytes: nothing is compared byte by byte -/
theorem code_word {y : MethodName} {bytes : ByteArray} {mx : Nat} {rt : Option FieldType} {a : Array Value} {s : State} {m : MethodId} {meth : Method} {c : Code} (h1 : s.methodNamed? y = some m) (h2 : s.vm.method? m = some meth) (h3 : meth.code = some c) (h4 : c.code = bytes)
    (h5 : (c.maxLocals == mx && c.exceptionTable.isEmpty && decide (c.maxStack ≤ mostOperands) && decide (meth.sig.returnType = rt) && !meth.locks && decide (parseMethodDescriptor y.desc = some meth.sig)) = true) : (Jvm.Cond.code y bytes mx rt).before a s = true := by
  simp only [Bool.and_eq_true, beq_iff_eq, Bool.not_eq_true', decide_eq_true_eq] at h5
  obtain ⟨⟨⟨⟨⟨g1, g2⟩, g3⟩, g4⟩, g5⟩, g6⟩ := h5
  simp [Cond.before, Cond.holds, Cond.value, h1, h2, h3, h4, g1, g2, g3, g4, g5, g6]
def isCode : Jvm.Cond → Bool
  | .code _ _ _ _ => true
  | _ => false
theorem all_split {L : List Jvm.Cond} {P : Jvm.Cond → Bool} (h1 : L.all (fun c => isCode c || P c) = true) (h2 : ∀ c ∈ L.filter isCode, P c = true) : L.all P = true := by
  refine List.all_eq_true.mpr fun c hc => ?_
  have h := List.all_eq_true.mp h1 c hc
  rcases Bool.eq_false_or_eq_true (isCode c) with hi | hi
  · exact h2 c (List.mem_filter.mpr ⟨hc, hi⟩)
  · simpa [hi] using h
set_option maxRecDepth 65536 in
theorem w_c0 : (Jvm.Cond.code x code maxLocals ret).before args0 about1 = true := code_word (m := ⟨1, 1⟩) (meth := k1m1) (c := k1c1) (by decide +kernel) rfl rfl rfl (by decide +kernel)
set_option maxRecDepth 65536 in
theorem w_c1 : (Jvm.Cond.code ({ cls := "com/example/xml_table_store/xmltablestore/MichiganDocument$Scale", name := "children", desc := "(II)I" } : Jvm.MethodName) prog_24_method_7_code (3 : Nat) (Option.some Jvm.ClassFile.FieldType.int)).before args0 about1 = true := code_word (m := ⟨6, 0⟩) (meth := k6m0) (c := k6c0) (by decide +kernel) rfl rfl rfl (by decide +kernel)
def codes1 : List Jvm.Cond := [Jvm.Cond.code x code maxLocals ret, Jvm.Cond.code ({ cls := "com/example/xml_table_store/xmltablestore/MichiganDocument$Scale", name := "children", desc := "(II)I" } : Jvm.MethodName) prog_24_method_7_code (3 : Nat) (Option.some Jvm.ClassFile.FieldType.int)]
set_option maxRecDepth 65536 in
theorem codes_eq : words1.filter isCode = codes1 := rfl
theorem w_codes : ∀ c ∈ words1.filter isCode, c.before args0 about1 = true := by
  rw [codes_eq]
  intro c hc
  simp only [codes1, List.mem_cons, List.not_mem_nil, or_false] at hc
  rcases hc with rfl | rfl
  · exact w_c0
  · exact w_c1
set_option maxRecDepth 65536 in
theorem w_t1 : words1.all (fun c => isCode c || c.before args0 about1) = true := by decide +kernel
theorem w_tables : (allAtoms (Jvm.Cond.code x code maxLocals ret :: tables_1)).before args0 about1 = true := by
  rw [allAtoms_all]
  show words1.all (fun c => c.before args0 about1) = true
  refine all_split ?_ w_codes
  rw [w_t1]
set_option maxRecDepth 65536 in
theorem w_case : (Jvm.Cond.and given_1 narrow_1).before args0 about1 = true := by decide +kernel
theorem w_applies : (headSpec (Jvm.Cond.code x code maxLocals ret :: tables_1) room_1).applies x e0.platform about1 = true :=
  (Spec.applies_iff w_frames).mpr ⟨w_running, w_runnable, w_alone, w_named, w_hears, w_ripe, w_room, w_tables⟩
theorem atStart : AtStart classFile x code maxLocals ret World_1 tables_1 room_1 Calls_1 rest_1 Pre_1 launch0 p0 e0 about1 theMethod args0 below0 :=
  ⟨lists_1, trivial, launch0.admits_env _ _ _, launch0.least_env, fairChoices_fair.cas, fairChoices_fair.clock, w_frames, w_args, w_heap, w_applies, trivial, trivial, w_case⟩
end start1
theorem witness_1 : WitnessClaimed_1 := ⟨start1.p0, start1.e0, start1.about1, start1.theMethod, start1.args0, start1.below0, start1.atStart⟩
end Jvm.Pilot.@@N@@
