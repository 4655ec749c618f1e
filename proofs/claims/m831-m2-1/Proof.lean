import JvmDerived
import JvmDerived.Pilot.@@N@@Statement
import JvmDerived.Pilot.@@N@@Code
set_option linter.unusedVariables false
set_option linter.unusedSimpArgs false
@@BLOCK:NumsL.lean.txt@@
namespace Jvm.RoadKit
open Sem ClassFile Op Lib Jvm.Stand Jvm.Free Jvm.LawKit
section New
variable {p : Program} {l : Launch} {e : Env} {R : Room} {s : State} {m : MethodId} {args : Array Value} {below : List Frame} {meth : Method} {c : Code} {T : State} {locs : List Loc} {cells slots : Nat}
theorem retI (X : Stand p l e R s m args below meth c T locs cells slots) (hx : p.tables.exec = Jvm.exec) {pc : Nat} {Ls : Array Slot} {z : Int32} {rest : List Value} (hret : meth.sig.returnType = some .int) (hd : decode c.code pc = .ok (.ireturn, 1)) {fs : List Frame}
    (hl : ∀ (f : JFrame) (acts : List Action), f.method = m → f.locked = none → f.entered = [] → (doReturn e (T.setTop f) acts (some (.int z))).1 = T.setFrames fs) : Steps p.tables e below (T.setTop (mkF m pc Ls (.int z :: rest))) (T.setFrames fs) := by
  have hm' : T.vm.method? m = some meth := X.method'
  have hn : narrow .int (.int z) = .int z := rfl
  show Steps p.tables e below (T.setTop { method := m, pc := pc, locals := Ls, stack := _ :: rest, locked := none }) _
  jvm_step X.here [X.here.top, hx, hd, hm', hret, hn]
  first | (intro acts; rw [hl _ acts rfl rfl rfl]) | rw [hl _ _ rfl rfl rfl]
  exact Steps.refl _
end New
end Jvm.RoadKit
namespace Jvm.Pilot.@@N@@
open Jvm Jvm.ClassFile Sem Op Lib Jvm.Free Jvm.Stand Jvm.LawKit Jvm.RoadKit Bundle Jvm.Pilot.@@N@@.Jvm.D
section OwnWords
variable {args : Array Value} {Z : State}
theorem own_eqI {t : Term} {k : Int32} (h : (Cond.eq t (.int k)).value args Z none Z [] = some true) : t.eval args Z none [] Z = some (.int k) := by
  simp only [Cond.value, Term.int_eval] at h
  cases ht : t.eval args Z none [] Z with
  | none => simp [ht] at h
  | some x => cases x <;> simp [ht] at h ⊢; exact h
theorem own_eqT {t u : Term} {a : Addr} (h : (Cond.eq t u).value args Z none Z [] = some true) (hu : u.eval args Z none [] Z = some (.ref a)) : t.eval args Z none [] Z = some (.ref a) := by
  simp only [Cond.value, hu] at h
  cases ht : t.eval args Z none [] Z with
  | none => simp [ht] at h
  | some x => cases x <;> simp [ht] at h ⊢; exact h
theorem own_sta {C n d K : String} (h : (Cond.exactly (.static C n d) K).value args Z none Z [] = some true) (hi : (Cond.initialized C).before args Z = true) (hl : (Cond.laysStatic C n d).before args Z = true) :
    ∃ a, (Term.static C n d).eval args Z none [] Z = some (.ref a) ∧ Sta Z Z.heap C n d (.ref a) ∧ Exa Z Z.heap a K := by
  obtain ⟨a, ea⟩ := exa_v h
  exact ⟨a, ea, Sta.start ea (Or.inr ⟨hi, hl⟩), Exa.start ea h⟩
theorem own_fldI {t : Term} {C n d : String} {a : Addr} {k : Int32} (ea : t.eval args Z none [] Z = some (.ref a)) (h : (Cond.eq (.field t C n d) (.int k)).value args Z none Z [] = some true) : Z.fieldOf? a C n d = some (.int k) := by
  have e1 := own_eqI h
  rw [fld_at ea] at e1
  exact e1
theorem own_ne {t t' : Term} {C n d : String} {a b : Addr} {k k' : Int32} (ea : t.eval args Z none [] Z = some (.ref a)) (eb : t'.eval args Z none [] Z = some (.ref b))
    (h : (Cond.eq (.field t C n d) (.int k)).value args Z none Z [] = some true) (h' : (Cond.eq (.field t' C n d) (.int k')).value args Z none Z [] = some true) (hk : k ≠ k') : ¬ a = b := fun q => by
  subst q
  have e1 := own_fldI ea h
  have e2 := own_fldI eb h'
  exact hk (Value.int.inj (Option.some.inj (e1.symm.trans e2)))
end OwnWords
theorem own_kext {h h' : Heap} (K : Keep h h' []) : Ext h h' := ⟨K.1, fun a c q => K.2.1 a c q nin0⟩
section OwnNums
theorem own_and31 (x : Int32) : 0 ≤ (x &&& (2147483647 : Int32)).toInt := by
  have e : (x &&& (2147483647 : Int32)).toInt = x.toInt % 2 ^ 31 := Jvm.Kit.i32_mask x 2147483647 (k := 31) (by decide) (by decide)
  omega
theorem own_rem {x m : Int32} (hx : 0 ≤ x.toInt) (hm : 0 < m.toInt) : (x - (x / m) * m).toInt = x.toInt % m.toInt := by
  have a := x.toInt_lt
  have e1 : (x / m).toInt = x.toInt / m.toInt := by rw [Jvm.Kit.i32_div (by omega), Int.tdiv_eq_ediv_of_nonneg hx]
  have q0 : 0 ≤ x.toInt / m.toInt * m.toInt := Int.mul_nonneg (Int.ediv_nonneg hx (Int.le_of_lt hm)) (Int.le_of_lt hm)
  have q1 : x.toInt / m.toInt * m.toInt ≤ x.toInt := Int.ediv_mul_le _ (by omega)
  have e2 : ((x / m) * m).toInt = x.toInt / m.toInt * m.toInt := by rw [Jvm.Kit.i32_mul (by rw [e1]; omega) (by rw [e1]; omega), e1]
  rw [Jvm.Kit.i32_sub (by rw [e2]; omega) (by rw [e2]; omega), e2, Int.emod_def, Int.mul_comm]
end OwnNums
theorem own_sub0 {x y : Int32} (h : x - y = 0) : x = y := by
  have e : x - y + y = 0 + y := by rw [h]
  simpa [Int32.sub_add_cancel] using e
def own_Q (r : Value) (h0 : Heap) (n0 : Nat) (v : Option Value) (h : Heap) (L : List Loc) : Prop := v = some r ∧ Fr n0 L ∧ h = h0
theorem d1_0 : decode method_2_code 0 = .ok (.iload_n 0, 1) := by decide +kernel
theorem d1_1 : decode method_2_code 1 = .ok (.ifCond .ne 7, 3) := by decide +kernel
theorem d1_4 : decode method_2_code 4 = .ok (.getstatic 7, 3) := by decide +kernel
theorem d1_7 : decode method_2_code 7 = .ok (.areturn, 1) := by decide +kernel
theorem pn_1 : plainName "com/example/violet_dye/violetdye/runtime/SummaryThrownPinLaw" = true := by first | (simp [plainName, overriddenIn]; done) | decide +kernel
theorem ef_1 (m : MethodId) (x0 : Int32) : entryFrame m #[(.int x0)] 1 = mkF m 0 #[.val (.int x0)] [] := by first | (simp [entryFrame, mkF, argsToLocals, Value.category]; done) | rfl
def Q1_k0 (Z : State) (p1 : Int32) (wR : Addr) (h0 : Heap) (n0 : Nat) (v : Option Value) (h : Heap) (L : List Loc) : Prop := v = some (.ref wR) ∧ Fr n0 L ∧ h = h0
set_option maxRecDepth 65536 in
set_option maxHeartbeats 40000000 in
theorem rm1_k0 (l : Launch) (Z : State) (a0 : Array Value) (hw : ∀ d ∈ tables_1, d.before a0 Z = true) (ws : List Jvm.Cond) (p1 : Int32) (wR : Addr) (h0 : Heap) (n0 : Nat) (Z0 : n0 ≤ h0.size) (S_LibraryCalls_Summary_READ : Sta Z h0 "com/example/violet_dye/violetdye/runtime/LibraryCalls$Summary" "READ" "Lcom/example/violet_dye/violetdye/runtime/LibraryCalls$Summary;" (.ref wR)) (hc1 : p1 = (0 : Int32)) :
    MetFree l (⟨"com/example/violet_dye/violetdye/runtime/SummaryThrownPinLaw", "pick", "(I)Lcom/example/violet_dye/violetdye/runtime/LibraryCalls$Summary;"⟩ : MethodName) (head1 (Jvm.Cond.code (⟨"com/example/violet_dye/violetdye/runtime/SummaryThrownPinLaw", "pick", "(I)Lcom/example/violet_dye/violetdye/runtime/LibraryCalls$Summary;"⟩ : MethodName) method_2_code 1 (some (.object "com/example/violet_dye/violetdye/runtime/LibraryCalls$Summary")) :: ws) ({ frames := 0, cells := 0, slots := 0, locals := 0 } : Room)) (fun a U => a = #[(.int p1)] ∧ Z.Warmed39 U.vm ∧ U.heap = h0) (fun _ _ _ _ _ => True) (fun _ U o U' => ∃ v L, o = .returned v ∧ Q1_k0 Z p1 wR h0 n0 v U'.heap L ∧ FrameEnd U o U' L ({ frames := 0, cells := 0, slots := 0, locals := 0 } : Room).cells ({ frames := 0, cells := 0, slots := 0, locals := 0 } : Room).slots) := by
  refine MetFree.of_bodySF (plainFor_of_name pn_1) hisR ?_
  intro p e s m args below meth c s₁ Bd hml0 hP hK
  obtain ⟨rfl, hZ, hh⟩ := hP
  have hx := Bd.exec
  have hby := Bd.bytes
  have hml : c.maxLocals = 1 := hml0
  have hown : s.vm.findClass "com/example/violet_dye/violetdye/runtime/SummaryThrownPinLaw" = some m.cls := findClass_of_methodNamed Bd.named
  have hnm := (name_of_methodNamed Bd.named Bd.method).1
  have X0 : Stand p l e ({ frames := 0, cells := 0, slots := 0, locals := 0 } : Room) s m #[(.int p1)] below meth c s₁ [] 0 0 := Stand.of_body Bd
  have e0 : s₁.heap = h0 := by rw [← hh, Bd.state]; rfl
  have N0 := Fr.nil n0
  have pre0 : ∀ t, Steps p.tables e below (s₁.setTop (mkF m 0 #[.val (.int p1)] [])) t → Steps p.tables e below (s₁.setTop (entryFrame m #[(.int p1)] 1)) t := fun t k => castTop (ef_1 m p1) k
  obtain ⟨T2, X2, e2, st2⟩ := getS2 X0 hx hZ hown (host := "") (Or.inl (hw _ (List.mem_of_getElem? (i := 5) rfl))) Via.refl e0 S_LibraryCalls_Summary_READ (g := (mkF m 4 #[.val (.int p1)] [])) rfl (hb hby d1_4)
  obtain ⟨fs, hr, hrun, hended, hW, hsame⟩ := X2.leave (v := some (.ref wR)) (fun h => by rw [Bd.returns] at h; cases h)
  refine ⟨_, _, pre0 _ ?_, hrun, hended, _, _, rfl, ?_, ⟨_, rfl⟩, hW, hsame.mono (by decide) (by decide)⟩
  · show Steps p.tables e below (s₁.setTop (mkF m 0 #[.val (.int p1)] [])) _
    refine XS.iloadN X0.here hx rfl (hb hby d1_0) rfl ?_
    show Steps p.tables e below (s₁.setTop (mkF m 1 #[.val (.int p1)] [(.int p1)])) _
    refine XS.ifNo X0.here hx rfl (hb hby d1_1) rfl ((if0 _ _).trans (teq hc1).2) ?_
    show Steps p.tables e below (s₁.setTop (mkF m 4 #[.val (.int p1)] [])) _
    refine st2 _ ?_
    show Steps p.tables e below (T2.setTop (mkF m 7 #[.val (.int p1)] [(.ref wR)])) _
    jvm_step X2.here [X2.here.top, hx, (hb hby d1_7), X2.method', Bd.returns, Value.isRef, FieldType.isReference]
    first | (intro acts; rw [hr _ acts rfl rfl rfl]) | rw [hr _ _ rfl rfl rfl]
    exact Steps.refl _
  · show Q1_k0 Z p1 wR h0 n0 _ T2.heap _
    rw [e2]
    exact ⟨rfl, N0, rfl⟩
theorem d1_8 : decode method_2_code 8 = .ok (.iload_n 0, 1) := by decide +kernel
theorem d1_9 : decode method_2_code 9 = .ok (.iconst 1, 1) := by decide +kernel
theorem d1_10 : decode method_2_code 10 = .ok (.if_icmp .ne 7, 3) := by decide +kernel
theorem d1_13 : decode method_2_code 13 = .ok (.getstatic 13, 3) := by decide +kernel
theorem d1_16 : decode method_2_code 16 = .ok (.areturn, 1) := by decide +kernel
def Q1_k1 (Z : State) (p1 : Int32) (wE : Addr) (h0 : Heap) (n0 : Nat) (v : Option Value) (h : Heap) (L : List Loc) : Prop := v = some (.ref wE) ∧ Fr n0 L ∧ h = h0
set_option maxRecDepth 65536 in
set_option maxHeartbeats 40000000 in
theorem rm1_k1 (l : Launch) (Z : State) (a0 : Array Value) (hw : ∀ d ∈ tables_1, d.before a0 Z = true) (ws : List Jvm.Cond) (p1 : Int32) (wE : Addr) (h0 : Heap) (n0 : Nat) (Z0 : n0 ≤ h0.size) (S_LibraryCalls_Summary_ELEMENT : Sta Z h0 "com/example/violet_dye/violetdye/runtime/LibraryCalls$Summary" "ELEMENT" "Lcom/example/violet_dye/violetdye/runtime/LibraryCalls$Summary;" (.ref wE)) (hc1 : ¬ (p1 = (0 : Int32))) (hc10 : p1 = (1 : Int32)) :
    MetFree l (⟨"com/example/violet_dye/violetdye/runtime/SummaryThrownPinLaw", "pick", "(I)Lcom/example/violet_dye/violetdye/runtime/LibraryCalls$Summary;"⟩ : MethodName) (head1 (Jvm.Cond.code (⟨"com/example/violet_dye/violetdye/runtime/SummaryThrownPinLaw", "pick", "(I)Lcom/example/violet_dye/violetdye/runtime/LibraryCalls$Summary;"⟩ : MethodName) method_2_code 1 (some (.object "com/example/violet_dye/violetdye/runtime/LibraryCalls$Summary")) :: ws) ({ frames := 0, cells := 0, slots := 0, locals := 0 } : Room)) (fun a U => a = #[(.int p1)] ∧ Z.Warmed39 U.vm ∧ U.heap = h0) (fun _ _ _ _ _ => True) (fun _ U o U' => ∃ v L, o = .returned v ∧ Q1_k1 Z p1 wE h0 n0 v U'.heap L ∧ FrameEnd U o U' L ({ frames := 0, cells := 0, slots := 0, locals := 0 } : Room).cells ({ frames := 0, cells := 0, slots := 0, locals := 0 } : Room).slots) := by
  refine MetFree.of_bodySF (plainFor_of_name pn_1) hisR ?_
  intro p e s m args below meth c s₁ Bd hml0 hP hK
  obtain ⟨rfl, hZ, hh⟩ := hP
  have hx := Bd.exec
  have hby := Bd.bytes
  have hml : c.maxLocals = 1 := hml0
  have hown : s.vm.findClass "com/example/violet_dye/violetdye/runtime/SummaryThrownPinLaw" = some m.cls := findClass_of_methodNamed Bd.named
  have hnm := (name_of_methodNamed Bd.named Bd.method).1
  have X0 : Stand p l e ({ frames := 0, cells := 0, slots := 0, locals := 0 } : Room) s m #[(.int p1)] below meth c s₁ [] 0 0 := Stand.of_body Bd
  have e0 : s₁.heap = h0 := by rw [← hh, Bd.state]; rfl
  have N0 := Fr.nil n0
  have pre0 : ∀ t, Steps p.tables e below (s₁.setTop (mkF m 0 #[.val (.int p1)] [])) t → Steps p.tables e below (s₁.setTop (entryFrame m #[(.int p1)] 1)) t := fun t k => castTop (ef_1 m p1) k
  obtain ⟨T2, X2, e2, st2⟩ := getS2 X0 hx hZ hown (host := "") (Or.inl (hw _ (List.mem_of_getElem? (i := 34) rfl))) Via.refl e0 S_LibraryCalls_Summary_ELEMENT (g := (mkF m 13 #[.val (.int p1)] [])) rfl (hb hby d1_13)
  obtain ⟨fs, hr, hrun, hended, hW, hsame⟩ := X2.leave (v := some (.ref wE)) (fun h => by rw [Bd.returns] at h; cases h)
  refine ⟨_, _, pre0 _ ?_, hrun, hended, _, _, rfl, ?_, ⟨_, rfl⟩, hW, hsame.mono (by decide) (by decide)⟩
  · show Steps p.tables e below (s₁.setTop (mkF m 0 #[.val (.int p1)] [])) _
    refine XS.iloadN X0.here hx rfl (hb hby d1_0) rfl ?_
    show Steps p.tables e below (s₁.setTop (mkF m 1 #[.val (.int p1)] [(.int p1)])) _
    refine XS.ifYes X0.here hx rfl (pc0 := 1) (pc' := 8) rfl (hb hby d1_1) rfl ((if0 _ _).trans (feq hc1).2) (by decide) (by decide) ?_
    show Steps p.tables e below (s₁.setTop (mkF m 8 #[.val (.int p1)] [])) _
    refine XS.iloadN X0.here hx rfl (hb hby d1_8) rfl ?_
    show Steps p.tables e below (s₁.setTop (mkF m 9 #[.val (.int p1)] [(.int p1)])) _
    refine XS.iconst X0.here hx rfl (hb hby d1_9) ?_
    show Steps p.tables e below (s₁.setTop (mkF m 10 #[.val (.int p1)] [(.int (1 : Int32)), (.int p1)])) _
    refine XS.icmpNo X0.here hx rfl (hb hby d1_10) rfl (teq hc10).2 ?_
    show Steps p.tables e below (s₁.setTop (mkF m 13 #[.val (.int p1)] [])) _
    refine st2 _ ?_
    show Steps p.tables e below (T2.setTop (mkF m 16 #[.val (.int p1)] [(.ref wE)])) _
    jvm_step X2.here [X2.here.top, hx, (hb hby d1_16), X2.method', Bd.returns, Value.isRef, FieldType.isReference]
    first | (intro acts; rw [hr _ acts rfl rfl rfl]) | rw [hr _ _ rfl rfl rfl]
    exact Steps.refl _
  · show Q1_k1 Z p1 wE h0 n0 _ T2.heap _
    rw [e2]
    exact ⟨rfl, N0, rfl⟩
theorem d1_17 : decode method_2_code 17 = .ok (.iload_n 0, 1) := by decide +kernel
theorem d1_18 : decode method_2_code 18 = .ok (.iconst 2, 1) := by decide +kernel
theorem d1_19 : decode method_2_code 19 = .ok (.if_icmp .ne 7, 3) := by decide +kernel
theorem d1_22 : decode method_2_code 22 = .ok (.getstatic 16, 3) := by decide +kernel
theorem d1_25 : decode method_2_code 25 = .ok (.areturn, 1) := by decide +kernel
def Q1_k2 (Z : State) (p1 : Int32) (wV : Addr) (h0 : Heap) (n0 : Nat) (v : Option Value) (h : Heap) (L : List Loc) : Prop := v = some (.ref wV) ∧ Fr n0 L ∧ h = h0
set_option maxRecDepth 65536 in
set_option maxHeartbeats 40000000 in
theorem rm1_k2 (l : Launch) (Z : State) (a0 : Array Value) (hw : ∀ d ∈ tables_1, d.before a0 Z = true) (ws : List Jvm.Cond) (p1 : Int32) (wV : Addr) (h0 : Heap) (n0 : Nat) (Z0 : n0 ≤ h0.size) (S_LibraryCalls_Summary_VIEW : Sta Z h0 "com/example/violet_dye/violetdye/runtime/LibraryCalls$Summary" "VIEW" "Lcom/example/violet_dye/violetdye/runtime/LibraryCalls$Summary;" (.ref wV)) (hc1 : ¬ (p1 = (0 : Int32))) (hc10 : ¬ (p1 = (1 : Int32))) (hc19 : p1 = (2 : Int32)) :
    MetFree l (⟨"com/example/violet_dye/violetdye/runtime/SummaryThrownPinLaw", "pick", "(I)Lcom/example/violet_dye/violetdye/runtime/LibraryCalls$Summary;"⟩ : MethodName) (head1 (Jvm.Cond.code (⟨"com/example/violet_dye/violetdye/runtime/SummaryThrownPinLaw", "pick", "(I)Lcom/example/violet_dye/violetdye/runtime/LibraryCalls$Summary;"⟩ : MethodName) method_2_code 1 (some (.object "com/example/violet_dye/violetdye/runtime/LibraryCalls$Summary")) :: ws) ({ frames := 0, cells := 0, slots := 0, locals := 0 } : Room)) (fun a U => a = #[(.int p1)] ∧ Z.Warmed39 U.vm ∧ U.heap = h0) (fun _ _ _ _ _ => True) (fun _ U o U' => ∃ v L, o = .returned v ∧ Q1_k2 Z p1 wV h0 n0 v U'.heap L ∧ FrameEnd U o U' L ({ frames := 0, cells := 0, slots := 0, locals := 0 } : Room).cells ({ frames := 0, cells := 0, slots := 0, locals := 0 } : Room).slots) := by
  refine MetFree.of_bodySF (plainFor_of_name pn_1) hisR ?_
  intro p e s m args below meth c s₁ Bd hml0 hP hK
  obtain ⟨rfl, hZ, hh⟩ := hP
  have hx := Bd.exec
  have hby := Bd.bytes
  have hml : c.maxLocals = 1 := hml0
  have hown : s.vm.findClass "com/example/violet_dye/violetdye/runtime/SummaryThrownPinLaw" = some m.cls := findClass_of_methodNamed Bd.named
  have hnm := (name_of_methodNamed Bd.named Bd.method).1
  have X0 : Stand p l e ({ frames := 0, cells := 0, slots := 0, locals := 0 } : Room) s m #[(.int p1)] below meth c s₁ [] 0 0 := Stand.of_body Bd
  have e0 : s₁.heap = h0 := by rw [← hh, Bd.state]; rfl
  have N0 := Fr.nil n0
  have pre0 : ∀ t, Steps p.tables e below (s₁.setTop (mkF m 0 #[.val (.int p1)] [])) t → Steps p.tables e below (s₁.setTop (entryFrame m #[(.int p1)] 1)) t := fun t k => castTop (ef_1 m p1) k
  obtain ⟨T2, X2, e2, st2⟩ := getS2 X0 hx hZ hown (host := "") (Or.inl (hw _ (List.mem_of_getElem? (i := 31) rfl))) Via.refl e0 S_LibraryCalls_Summary_VIEW (g := (mkF m 22 #[.val (.int p1)] [])) rfl (hb hby d1_22)
  obtain ⟨fs, hr, hrun, hended, hW, hsame⟩ := X2.leave (v := some (.ref wV)) (fun h => by rw [Bd.returns] at h; cases h)
  refine ⟨_, _, pre0 _ ?_, hrun, hended, _, _, rfl, ?_, ⟨_, rfl⟩, hW, hsame.mono (by decide) (by decide)⟩
  · show Steps p.tables e below (s₁.setTop (mkF m 0 #[.val (.int p1)] [])) _
    refine XS.iloadN X0.here hx rfl (hb hby d1_0) rfl ?_
    show Steps p.tables e below (s₁.setTop (mkF m 1 #[.val (.int p1)] [(.int p1)])) _
    refine XS.ifYes X0.here hx rfl (pc0 := 1) (pc' := 8) rfl (hb hby d1_1) rfl ((if0 _ _).trans (feq hc1).2) (by decide) (by decide) ?_
    show Steps p.tables e below (s₁.setTop (mkF m 8 #[.val (.int p1)] [])) _
    refine XS.iloadN X0.here hx rfl (hb hby d1_8) rfl ?_
    show Steps p.tables e below (s₁.setTop (mkF m 9 #[.val (.int p1)] [(.int p1)])) _
    refine XS.iconst X0.here hx rfl (hb hby d1_9) ?_
    show Steps p.tables e below (s₁.setTop (mkF m 10 #[.val (.int p1)] [(.int (1 : Int32)), (.int p1)])) _
    refine XS.icmpYes X0.here hx rfl (pc0 := 10) (pc' := 17) rfl (hb hby d1_10) rfl (feq hc10).2 (by decide) (by decide) ?_
    show Steps p.tables e below (s₁.setTop (mkF m 17 #[.val (.int p1)] [])) _
    refine XS.iloadN X0.here hx rfl (hb hby d1_17) rfl ?_
    show Steps p.tables e below (s₁.setTop (mkF m 18 #[.val (.int p1)] [(.int p1)])) _
    refine XS.iconst X0.here hx rfl (hb hby d1_18) ?_
    show Steps p.tables e below (s₁.setTop (mkF m 19 #[.val (.int p1)] [(.int (2 : Int32)), (.int p1)])) _
    refine XS.icmpNo X0.here hx rfl (hb hby d1_19) rfl (teq hc19).2 ?_
    show Steps p.tables e below (s₁.setTop (mkF m 22 #[.val (.int p1)] [])) _
    refine st2 _ ?_
    show Steps p.tables e below (T2.setTop (mkF m 25 #[.val (.int p1)] [(.ref wV)])) _
    jvm_step X2.here [X2.here.top, hx, (hb hby d1_25), X2.method', Bd.returns, Value.isRef, FieldType.isReference]
    first | (intro acts; rw [hr _ acts rfl rfl rfl]) | rw [hr _ _ rfl rfl rfl]
    exact Steps.refl _
  · show Q1_k2 Z p1 wV h0 n0 _ T2.heap _
    rw [e2]
    exact ⟨rfl, N0, rfl⟩
theorem d1_26 : decode method_2_code 26 = .ok (.iload_n 0, 1) := by decide +kernel
theorem d1_27 : decode method_2_code 27 = .ok (.iconst 3, 1) := by decide +kernel
theorem d1_28 : decode method_2_code 28 = .ok (.if_icmp .ne 7, 3) := by decide +kernel
theorem d1_31 : decode method_2_code 31 = .ok (.getstatic 19, 3) := by decide +kernel
theorem d1_34 : decode method_2_code 34 = .ok (.areturn, 1) := by decide +kernel
def Q1_k3 (Z : State) (p1 : Int32) (wA : Addr) (h0 : Heap) (n0 : Nat) (v : Option Value) (h : Heap) (L : List Loc) : Prop := v = some (.ref wA) ∧ Fr n0 L ∧ h = h0
set_option maxRecDepth 65536 in
set_option maxHeartbeats 40000000 in
theorem rm1_k3 (l : Launch) (Z : State) (a0 : Array Value) (hw : ∀ d ∈ tables_1, d.before a0 Z = true) (ws : List Jvm.Cond) (p1 : Int32) (wA : Addr) (h0 : Heap) (n0 : Nat) (Z0 : n0 ≤ h0.size) (S_LibraryCalls_Summary_ARRAY : Sta Z h0 "com/example/violet_dye/violetdye/runtime/LibraryCalls$Summary" "ARRAY" "Lcom/example/violet_dye/violetdye/runtime/LibraryCalls$Summary;" (.ref wA)) (hc1 : ¬ (p1 = (0 : Int32))) (hc10 : ¬ (p1 = (1 : Int32))) (hc19 : ¬ (p1 = (2 : Int32))) (hc28 : p1 = (3 : Int32)) :
    MetFree l (⟨"com/example/violet_dye/violetdye/runtime/SummaryThrownPinLaw", "pick", "(I)Lcom/example/violet_dye/violetdye/runtime/LibraryCalls$Summary;"⟩ : MethodName) (head1 (Jvm.Cond.code (⟨"com/example/violet_dye/violetdye/runtime/SummaryThrownPinLaw", "pick", "(I)Lcom/example/violet_dye/violetdye/runtime/LibraryCalls$Summary;"⟩ : MethodName) method_2_code 1 (some (.object "com/example/violet_dye/violetdye/runtime/LibraryCalls$Summary")) :: ws) ({ frames := 0, cells := 0, slots := 0, locals := 0 } : Room)) (fun a U => a = #[(.int p1)] ∧ Z.Warmed39 U.vm ∧ U.heap = h0) (fun _ _ _ _ _ => True) (fun _ U o U' => ∃ v L, o = .returned v ∧ Q1_k3 Z p1 wA h0 n0 v U'.heap L ∧ FrameEnd U o U' L ({ frames := 0, cells := 0, slots := 0, locals := 0 } : Room).cells ({ frames := 0, cells := 0, slots := 0, locals := 0 } : Room).slots) := by
  refine MetFree.of_bodySF (plainFor_of_name pn_1) hisR ?_
  intro p e s m args below meth c s₁ Bd hml0 hP hK
  obtain ⟨rfl, hZ, hh⟩ := hP
  have hx := Bd.exec
  have hby := Bd.bytes
  have hml : c.maxLocals = 1 := hml0
  have hown : s.vm.findClass "com/example/violet_dye/violetdye/runtime/SummaryThrownPinLaw" = some m.cls := findClass_of_methodNamed Bd.named
  have hnm := (name_of_methodNamed Bd.named Bd.method).1
  have X0 : Stand p l e ({ frames := 0, cells := 0, slots := 0, locals := 0 } : Room) s m #[(.int p1)] below meth c s₁ [] 0 0 := Stand.of_body Bd
  have e0 : s₁.heap = h0 := by rw [← hh, Bd.state]; rfl
  have N0 := Fr.nil n0
  have pre0 : ∀ t, Steps p.tables e below (s₁.setTop (mkF m 0 #[.val (.int p1)] [])) t → Steps p.tables e below (s₁.setTop (entryFrame m #[(.int p1)] 1)) t := fun t k => castTop (ef_1 m p1) k
  obtain ⟨T2, X2, e2, st2⟩ := getS2 X0 hx hZ hown (host := "") (Or.inl (hw _ (List.mem_of_getElem? (i := 14) rfl))) Via.refl e0 S_LibraryCalls_Summary_ARRAY (g := (mkF m 31 #[.val (.int p1)] [])) rfl (hb hby d1_31)
  obtain ⟨fs, hr, hrun, hended, hW, hsame⟩ := X2.leave (v := some (.ref wA)) (fun h => by rw [Bd.returns] at h; cases h)
  refine ⟨_, _, pre0 _ ?_, hrun, hended, _, _, rfl, ?_, ⟨_, rfl⟩, hW, hsame.mono (by decide) (by decide)⟩
  · show Steps p.tables e below (s₁.setTop (mkF m 0 #[.val (.int p1)] [])) _
    refine XS.iloadN X0.here hx rfl (hb hby d1_0) rfl ?_
    show Steps p.tables e below (s₁.setTop (mkF m 1 #[.val (.int p1)] [(.int p1)])) _
    refine XS.ifYes X0.here hx rfl (pc0 := 1) (pc' := 8) rfl (hb hby d1_1) rfl ((if0 _ _).trans (feq hc1).2) (by decide) (by decide) ?_
    show Steps p.tables e below (s₁.setTop (mkF m 8 #[.val (.int p1)] [])) _
    refine XS.iloadN X0.here hx rfl (hb hby d1_8) rfl ?_
    show Steps p.tables e below (s₁.setTop (mkF m 9 #[.val (.int p1)] [(.int p1)])) _
    refine XS.iconst X0.here hx rfl (hb hby d1_9) ?_
    show Steps p.tables e below (s₁.setTop (mkF m 10 #[.val (.int p1)] [(.int (1 : Int32)), (.int p1)])) _
    refine XS.icmpYes X0.here hx rfl (pc0 := 10) (pc' := 17) rfl (hb hby d1_10) rfl (feq hc10).2 (by decide) (by decide) ?_
    show Steps p.tables e below (s₁.setTop (mkF m 17 #[.val (.int p1)] [])) _
    refine XS.iloadN X0.here hx rfl (hb hby d1_17) rfl ?_
    show Steps p.tables e below (s₁.setTop (mkF m 18 #[.val (.int p1)] [(.int p1)])) _
    refine XS.iconst X0.here hx rfl (hb hby d1_18) ?_
    show Steps p.tables e below (s₁.setTop (mkF m 19 #[.val (.int p1)] [(.int (2 : Int32)), (.int p1)])) _
    refine XS.icmpYes X0.here hx rfl (pc0 := 19) (pc' := 26) rfl (hb hby d1_19) rfl (feq hc19).2 (by decide) (by decide) ?_
    show Steps p.tables e below (s₁.setTop (mkF m 26 #[.val (.int p1)] [])) _
    refine XS.iloadN X0.here hx rfl (hb hby d1_26) rfl ?_
    show Steps p.tables e below (s₁.setTop (mkF m 27 #[.val (.int p1)] [(.int p1)])) _
    refine XS.iconst X0.here hx rfl (hb hby d1_27) ?_
    show Steps p.tables e below (s₁.setTop (mkF m 28 #[.val (.int p1)] [(.int (3 : Int32)), (.int p1)])) _
    refine XS.icmpNo X0.here hx rfl (hb hby d1_28) rfl (teq hc28).2 ?_
    show Steps p.tables e below (s₁.setTop (mkF m 31 #[.val (.int p1)] [])) _
    refine st2 _ ?_
    show Steps p.tables e below (T2.setTop (mkF m 34 #[.val (.int p1)] [(.ref wA)])) _
    jvm_step X2.here [X2.here.top, hx, (hb hby d1_34), X2.method', Bd.returns, Value.isRef, FieldType.isReference]
    first | (intro acts; rw [hr _ acts rfl rfl rfl]) | rw [hr _ _ rfl rfl rfl]
    exact Steps.refl _
  · show Q1_k3 Z p1 wA h0 n0 _ T2.heap _
    rw [e2]
    exact ⟨rfl, N0, rfl⟩
theorem d1_35 : decode method_2_code 35 = .ok (.iload_n 0, 1) := by decide +kernel
theorem d1_36 : decode method_2_code 36 = .ok (.iconst 4, 1) := by decide +kernel
theorem d1_37 : decode method_2_code 37 = .ok (.if_icmp .ne 7, 3) := by decide +kernel
theorem d1_40 : decode method_2_code 40 = .ok (.getstatic 22, 3) := by decide +kernel
theorem d1_43 : decode method_2_code 43 = .ok (.areturn, 1) := by decide +kernel
def Q1_k4 (Z : State) (p1 : Int32) (wAd : Addr) (h0 : Heap) (n0 : Nat) (v : Option Value) (h : Heap) (L : List Loc) : Prop := v = some (.ref wAd) ∧ Fr n0 L ∧ h = h0
set_option maxRecDepth 65536 in
set_option maxHeartbeats 40000000 in
theorem rm1_k4 (l : Launch) (Z : State) (a0 : Array Value) (hw : ∀ d ∈ tables_1, d.before a0 Z = true) (ws : List Jvm.Cond) (p1 : Int32) (wAd : Addr) (h0 : Heap) (n0 : Nat) (Z0 : n0 ≤ h0.size) (S_LibraryCalls_Summary_ADD : Sta Z h0 "com/example/violet_dye/violetdye/runtime/LibraryCalls$Summary" "ADD" "Lcom/example/violet_dye/violetdye/runtime/LibraryCalls$Summary;" (.ref wAd)) (hc1 : ¬ (p1 = (0 : Int32))) (hc10 : ¬ (p1 = (1 : Int32))) (hc19 : ¬ (p1 = (2 : Int32))) (hc28 : ¬ (p1 = (3 : Int32))) (hc37 : p1 = (4 : Int32)) :
    MetFree l (⟨"com/example/violet_dye/violetdye/runtime/SummaryThrownPinLaw", "pick", "(I)Lcom/example/violet_dye/violetdye/runtime/LibraryCalls$Summary;"⟩ : MethodName) (head1 (Jvm.Cond.code (⟨"com/example/violet_dye/violetdye/runtime/SummaryThrownPinLaw", "pick", "(I)Lcom/example/violet_dye/violetdye/runtime/LibraryCalls$Summary;"⟩ : MethodName) method_2_code 1 (some (.object "com/example/violet_dye/violetdye/runtime/LibraryCalls$Summary")) :: ws) ({ frames := 0, cells := 0, slots := 0, locals := 0 } : Room)) (fun a U => a = #[(.int p1)] ∧ Z.Warmed39 U.vm ∧ U.heap = h0) (fun _ _ _ _ _ => True) (fun _ U o U' => ∃ v L, o = .returned v ∧ Q1_k4 Z p1 wAd h0 n0 v U'.heap L ∧ FrameEnd U o U' L ({ frames := 0, cells := 0, slots := 0, locals := 0 } : Room).cells ({ frames := 0, cells := 0, slots := 0, locals := 0 } : Room).slots) := by
  refine MetFree.of_bodySF (plainFor_of_name pn_1) hisR ?_
  intro p e s m args below meth c s₁ Bd hml0 hP hK
  obtain ⟨rfl, hZ, hh⟩ := hP
  have hx := Bd.exec
  have hby := Bd.bytes
  have hml : c.maxLocals = 1 := hml0
  have hown : s.vm.findClass "com/example/violet_dye/violetdye/runtime/SummaryThrownPinLaw" = some m.cls := findClass_of_methodNamed Bd.named
  have hnm := (name_of_methodNamed Bd.named Bd.method).1
  have X0 : Stand p l e ({ frames := 0, cells := 0, slots := 0, locals := 0 } : Room) s m #[(.int p1)] below meth c s₁ [] 0 0 := Stand.of_body Bd
  have e0 : s₁.heap = h0 := by rw [← hh, Bd.state]; rfl
  have N0 := Fr.nil n0
  have pre0 : ∀ t, Steps p.tables e below (s₁.setTop (mkF m 0 #[.val (.int p1)] [])) t → Steps p.tables e below (s₁.setTop (entryFrame m #[(.int p1)] 1)) t := fun t k => castTop (ef_1 m p1) k
  obtain ⟨T2, X2, e2, st2⟩ := getS2 X0 hx hZ hown (host := "") (Or.inl (hw _ (List.mem_of_getElem? (i := 40) rfl))) Via.refl e0 S_LibraryCalls_Summary_ADD (g := (mkF m 40 #[.val (.int p1)] [])) rfl (hb hby d1_40)
  obtain ⟨fs, hr, hrun, hended, hW, hsame⟩ := X2.leave (v := some (.ref wAd)) (fun h => by rw [Bd.returns] at h; cases h)
  refine ⟨_, _, pre0 _ ?_, hrun, hended, _, _, rfl, ?_, ⟨_, rfl⟩, hW, hsame.mono (by decide) (by decide)⟩
  · show Steps p.tables e below (s₁.setTop (mkF m 0 #[.val (.int p1)] [])) _
    refine XS.iloadN X0.here hx rfl (hb hby d1_0) rfl ?_
    show Steps p.tables e below (s₁.setTop (mkF m 1 #[.val (.int p1)] [(.int p1)])) _
    refine XS.ifYes X0.here hx rfl (pc0 := 1) (pc' := 8) rfl (hb hby d1_1) rfl ((if0 _ _).trans (feq hc1).2) (by decide) (by decide) ?_
    show Steps p.tables e below (s₁.setTop (mkF m 8 #[.val (.int p1)] [])) _
    refine XS.iloadN X0.here hx rfl (hb hby d1_8) rfl ?_
    show Steps p.tables e below (s₁.setTop (mkF m 9 #[.val (.int p1)] [(.int p1)])) _
    refine XS.iconst X0.here hx rfl (hb hby d1_9) ?_
    show Steps p.tables e below (s₁.setTop (mkF m 10 #[.val (.int p1)] [(.int (1 : Int32)), (.int p1)])) _
    refine XS.icmpYes X0.here hx rfl (pc0 := 10) (pc' := 17) rfl (hb hby d1_10) rfl (feq hc10).2 (by decide) (by decide) ?_
    show Steps p.tables e below (s₁.setTop (mkF m 17 #[.val (.int p1)] [])) _
    refine XS.iloadN X0.here hx rfl (hb hby d1_17) rfl ?_
    show Steps p.tables e below (s₁.setTop (mkF m 18 #[.val (.int p1)] [(.int p1)])) _
    refine XS.iconst X0.here hx rfl (hb hby d1_18) ?_
    show Steps p.tables e below (s₁.setTop (mkF m 19 #[.val (.int p1)] [(.int (2 : Int32)), (.int p1)])) _
    refine XS.icmpYes X0.here hx rfl (pc0 := 19) (pc' := 26) rfl (hb hby d1_19) rfl (feq hc19).2 (by decide) (by decide) ?_
    show Steps p.tables e below (s₁.setTop (mkF m 26 #[.val (.int p1)] [])) _
    refine XS.iloadN X0.here hx rfl (hb hby d1_26) rfl ?_
    show Steps p.tables e below (s₁.setTop (mkF m 27 #[.val (.int p1)] [(.int p1)])) _
    refine XS.iconst X0.here hx rfl (hb hby d1_27) ?_
    show Steps p.tables e below (s₁.setTop (mkF m 28 #[.val (.int p1)] [(.int (3 : Int32)), (.int p1)])) _
    refine XS.icmpYes X0.here hx rfl (pc0 := 28) (pc' := 35) rfl (hb hby d1_28) rfl (feq hc28).2 (by decide) (by decide) ?_
    show Steps p.tables e below (s₁.setTop (mkF m 35 #[.val (.int p1)] [])) _
    refine XS.iloadN X0.here hx rfl (hb hby d1_35) rfl ?_
    show Steps p.tables e below (s₁.setTop (mkF m 36 #[.val (.int p1)] [(.int p1)])) _
    refine XS.iconst X0.here hx rfl (hb hby d1_36) ?_
    show Steps p.tables e below (s₁.setTop (mkF m 37 #[.val (.int p1)] [(.int (4 : Int32)), (.int p1)])) _
    refine XS.icmpNo X0.here hx rfl (hb hby d1_37) rfl (teq hc37).2 ?_
    show Steps p.tables e below (s₁.setTop (mkF m 40 #[.val (.int p1)] [])) _
    refine st2 _ ?_
    show Steps p.tables e below (T2.setTop (mkF m 43 #[.val (.int p1)] [(.ref wAd)])) _
    jvm_step X2.here [X2.here.top, hx, (hb hby d1_43), X2.method', Bd.returns, Value.isRef, FieldType.isReference]
    first | (intro acts; rw [hr _ acts rfl rfl rfl]) | rw [hr _ _ rfl rfl rfl]
    exact Steps.refl _
  · show Q1_k4 Z p1 wAd h0 n0 _ T2.heap _
    rw [e2]
    exact ⟨rfl, N0, rfl⟩
theorem d1_44 : decode method_2_code 44 = .ok (.iload_n 0, 1) := by decide +kernel
theorem d1_45 : decode method_2_code 45 = .ok (.iconst 5, 1) := by decide +kernel
theorem d1_46 : decode method_2_code 46 = .ok (.if_icmp .ne 7, 3) := by decide +kernel
theorem d1_49 : decode method_2_code 49 = .ok (.getstatic 25, 3) := by decide +kernel
theorem d1_52 : decode method_2_code 52 = .ok (.areturn, 1) := by decide +kernel
def Q1_k5 (Z : State) (p1 : Int32) (wSe : Addr) (h0 : Heap) (n0 : Nat) (v : Option Value) (h : Heap) (L : List Loc) : Prop := v = some (.ref wSe) ∧ Fr n0 L ∧ h = h0
set_option maxRecDepth 65536 in
set_option maxHeartbeats 40000000 in
theorem rm1_k5 (l : Launch) (Z : State) (a0 : Array Value) (hw : ∀ d ∈ tables_1, d.before a0 Z = true) (ws : List Jvm.Cond) (p1 : Int32) (wSe : Addr) (h0 : Heap) (n0 : Nat) (Z0 : n0 ≤ h0.size) (S_LibraryCalls_Summary_SET : Sta Z h0 "com/example/violet_dye/violetdye/runtime/LibraryCalls$Summary" "SET" "Lcom/example/violet_dye/violetdye/runtime/LibraryCalls$Summary;" (.ref wSe)) (hc1 : ¬ (p1 = (0 : Int32))) (hc10 : ¬ (p1 = (1 : Int32))) (hc19 : ¬ (p1 = (2 : Int32))) (hc28 : ¬ (p1 = (3 : Int32))) (hc37 : ¬ (p1 = (4 : Int32))) (hc46 : p1 = (5 : Int32)) :
    MetFree l (⟨"com/example/violet_dye/violetdye/runtime/SummaryThrownPinLaw", "pick", "(I)Lcom/example/violet_dye/violetdye/runtime/LibraryCalls$Summary;"⟩ : MethodName) (head1 (Jvm.Cond.code (⟨"com/example/violet_dye/violetdye/runtime/SummaryThrownPinLaw", "pick", "(I)Lcom/example/violet_dye/violetdye/runtime/LibraryCalls$Summary;"⟩ : MethodName) method_2_code 1 (some (.object "com/example/violet_dye/violetdye/runtime/LibraryCalls$Summary")) :: ws) ({ frames := 0, cells := 0, slots := 0, locals := 0 } : Room)) (fun a U => a = #[(.int p1)] ∧ Z.Warmed39 U.vm ∧ U.heap = h0) (fun _ _ _ _ _ => True) (fun _ U o U' => ∃ v L, o = .returned v ∧ Q1_k5 Z p1 wSe h0 n0 v U'.heap L ∧ FrameEnd U o U' L ({ frames := 0, cells := 0, slots := 0, locals := 0 } : Room).cells ({ frames := 0, cells := 0, slots := 0, locals := 0 } : Room).slots) := by
  refine MetFree.of_bodySF (plainFor_of_name pn_1) hisR ?_
  intro p e s m args below meth c s₁ Bd hml0 hP hK
  obtain ⟨rfl, hZ, hh⟩ := hP
  have hx := Bd.exec
  have hby := Bd.bytes
  have hml : c.maxLocals = 1 := hml0
  have hown : s.vm.findClass "com/example/violet_dye/violetdye/runtime/SummaryThrownPinLaw" = some m.cls := findClass_of_methodNamed Bd.named
  have hnm := (name_of_methodNamed Bd.named Bd.method).1
  have X0 : Stand p l e ({ frames := 0, cells := 0, slots := 0, locals := 0 } : Room) s m #[(.int p1)] below meth c s₁ [] 0 0 := Stand.of_body Bd
  have e0 : s₁.heap = h0 := by rw [← hh, Bd.state]; rfl
  have N0 := Fr.nil n0
  have pre0 : ∀ t, Steps p.tables e below (s₁.setTop (mkF m 0 #[.val (.int p1)] [])) t → Steps p.tables e below (s₁.setTop (entryFrame m #[(.int p1)] 1)) t := fun t k => castTop (ef_1 m p1) k
  obtain ⟨T2, X2, e2, st2⟩ := getS2 X0 hx hZ hown (host := "") (Or.inl (hw _ (List.mem_of_getElem? (i := 25) rfl))) Via.refl e0 S_LibraryCalls_Summary_SET (g := (mkF m 49 #[.val (.int p1)] [])) rfl (hb hby d1_49)
  obtain ⟨fs, hr, hrun, hended, hW, hsame⟩ := X2.leave (v := some (.ref wSe)) (fun h => by rw [Bd.returns] at h; cases h)
  refine ⟨_, _, pre0 _ ?_, hrun, hended, _, _, rfl, ?_, ⟨_, rfl⟩, hW, hsame.mono (by decide) (by decide)⟩
  · show Steps p.tables e below (s₁.setTop (mkF m 0 #[.val (.int p1)] [])) _
    refine XS.iloadN X0.here hx rfl (hb hby d1_0) rfl ?_
    show Steps p.tables e below (s₁.setTop (mkF m 1 #[.val (.int p1)] [(.int p1)])) _
    refine XS.ifYes X0.here hx rfl (pc0 := 1) (pc' := 8) rfl (hb hby d1_1) rfl ((if0 _ _).trans (feq hc1).2) (by decide) (by decide) ?_
    show Steps p.tables e below (s₁.setTop (mkF m 8 #[.val (.int p1)] [])) _
    refine XS.iloadN X0.here hx rfl (hb hby d1_8) rfl ?_
    show Steps p.tables e below (s₁.setTop (mkF m 9 #[.val (.int p1)] [(.int p1)])) _
    refine XS.iconst X0.here hx rfl (hb hby d1_9) ?_
    show Steps p.tables e below (s₁.setTop (mkF m 10 #[.val (.int p1)] [(.int (1 : Int32)), (.int p1)])) _
    refine XS.icmpYes X0.here hx rfl (pc0 := 10) (pc' := 17) rfl (hb hby d1_10) rfl (feq hc10).2 (by decide) (by decide) ?_
    show Steps p.tables e below (s₁.setTop (mkF m 17 #[.val (.int p1)] [])) _
    refine XS.iloadN X0.here hx rfl (hb hby d1_17) rfl ?_
    show Steps p.tables e below (s₁.setTop (mkF m 18 #[.val (.int p1)] [(.int p1)])) _
    refine XS.iconst X0.here hx rfl (hb hby d1_18) ?_
    show Steps p.tables e below (s₁.setTop (mkF m 19 #[.val (.int p1)] [(.int (2 : Int32)), (.int p1)])) _
    refine XS.icmpYes X0.here hx rfl (pc0 := 19) (pc' := 26) rfl (hb hby d1_19) rfl (feq hc19).2 (by decide) (by decide) ?_
    show Steps p.tables e below (s₁.setTop (mkF m 26 #[.val (.int p1)] [])) _
    refine XS.iloadN X0.here hx rfl (hb hby d1_26) rfl ?_
    show Steps p.tables e below (s₁.setTop (mkF m 27 #[.val (.int p1)] [(.int p1)])) _
    refine XS.iconst X0.here hx rfl (hb hby d1_27) ?_
    show Steps p.tables e below (s₁.setTop (mkF m 28 #[.val (.int p1)] [(.int (3 : Int32)), (.int p1)])) _
    refine XS.icmpYes X0.here hx rfl (pc0 := 28) (pc' := 35) rfl (hb hby d1_28) rfl (feq hc28).2 (by decide) (by decide) ?_
    show Steps p.tables e below (s₁.setTop (mkF m 35 #[.val (.int p1)] [])) _
    refine XS.iloadN X0.here hx rfl (hb hby d1_35) rfl ?_
    show Steps p.tables e below (s₁.setTop (mkF m 36 #[.val (.int p1)] [(.int p1)])) _
    refine XS.iconst X0.here hx rfl (hb hby d1_36) ?_
    show Steps p.tables e below (s₁.setTop (mkF m 37 #[.val (.int p1)] [(.int (4 : Int32)), (.int p1)])) _
    refine XS.icmpYes X0.here hx rfl (pc0 := 37) (pc' := 44) rfl (hb hby d1_37) rfl (feq hc37).2 (by decide) (by decide) ?_
    show Steps p.tables e below (s₁.setTop (mkF m 44 #[.val (.int p1)] [])) _
    refine XS.iloadN X0.here hx rfl (hb hby d1_44) rfl ?_
    show Steps p.tables e below (s₁.setTop (mkF m 45 #[.val (.int p1)] [(.int p1)])) _
    refine XS.iconst X0.here hx rfl (hb hby d1_45) ?_
    show Steps p.tables e below (s₁.setTop (mkF m 46 #[.val (.int p1)] [(.int (5 : Int32)), (.int p1)])) _
    refine XS.icmpNo X0.here hx rfl (hb hby d1_46) rfl (teq hc46).2 ?_
    show Steps p.tables e below (s₁.setTop (mkF m 49 #[.val (.int p1)] [])) _
    refine st2 _ ?_
    show Steps p.tables e below (T2.setTop (mkF m 52 #[.val (.int p1)] [(.ref wSe)])) _
    jvm_step X2.here [X2.here.top, hx, (hb hby d1_52), X2.method', Bd.returns, Value.isRef, FieldType.isReference]
    first | (intro acts; rw [hr _ acts rfl rfl rfl]) | rw [hr _ _ rfl rfl rfl]
    exact Steps.refl _
  · show Q1_k5 Z p1 wSe h0 n0 _ T2.heap _
    rw [e2]
    exact ⟨rfl, N0, rfl⟩
theorem d1_53 : decode method_2_code 53 = .ok (.iload_n 0, 1) := by decide +kernel
theorem d1_54 : decode method_2_code 54 = .ok (.bipush 6, 2) := by decide +kernel
theorem d1_56 : decode method_2_code 56 = .ok (.if_icmp .ne 7, 3) := by decide +kernel
theorem d1_59 : decode method_2_code 59 = .ok (.getstatic 28, 3) := by decide +kernel
theorem d1_62 : decode method_2_code 62 = .ok (.areturn, 1) := by decide +kernel
def Q1_k6 (Z : State) (p1 : Int32) (wPu : Addr) (h0 : Heap) (n0 : Nat) (v : Option Value) (h : Heap) (L : List Loc) : Prop := v = some (.ref wPu) ∧ Fr n0 L ∧ h = h0
set_option maxRecDepth 65536 in
set_option maxHeartbeats 40000000 in
theorem rm1_k6 (l : Launch) (Z : State) (a0 : Array Value) (hw : ∀ d ∈ tables_1, d.before a0 Z = true) (ws : List Jvm.Cond) (p1 : Int32) (wPu : Addr) (h0 : Heap) (n0 : Nat) (Z0 : n0 ≤ h0.size) (S_LibraryCalls_Summary_PUT : Sta Z h0 "com/example/violet_dye/violetdye/runtime/LibraryCalls$Summary" "PUT" "Lcom/example/violet_dye/violetdye/runtime/LibraryCalls$Summary;" (.ref wPu)) (hc1 : ¬ (p1 = (0 : Int32))) (hc10 : ¬ (p1 = (1 : Int32))) (hc19 : ¬ (p1 = (2 : Int32))) (hc28 : ¬ (p1 = (3 : Int32))) (hc37 : ¬ (p1 = (4 : Int32))) (hc46 : ¬ (p1 = (5 : Int32))) (hc56 : p1 = (6 : Int32)) :
    MetFree l (⟨"com/example/violet_dye/violetdye/runtime/SummaryThrownPinLaw", "pick", "(I)Lcom/example/violet_dye/violetdye/runtime/LibraryCalls$Summary;"⟩ : MethodName) (head1 (Jvm.Cond.code (⟨"com/example/violet_dye/violetdye/runtime/SummaryThrownPinLaw", "pick", "(I)Lcom/example/violet_dye/violetdye/runtime/LibraryCalls$Summary;"⟩ : MethodName) method_2_code 1 (some (.object "com/example/violet_dye/violetdye/runtime/LibraryCalls$Summary")) :: ws) ({ frames := 0, cells := 0, slots := 0, locals := 0 } : Room)) (fun a U => a = #[(.int p1)] ∧ Z.Warmed39 U.vm ∧ U.heap = h0) (fun _ _ _ _ _ => True) (fun _ U o U' => ∃ v L, o = .returned v ∧ Q1_k6 Z p1 wPu h0 n0 v U'.heap L ∧ FrameEnd U o U' L ({ frames := 0, cells := 0, slots := 0, locals := 0 } : Room).cells ({ frames := 0, cells := 0, slots := 0, locals := 0 } : Room).slots) := by
  refine MetFree.of_bodySF (plainFor_of_name pn_1) hisR ?_
  intro p e s m args below meth c s₁ Bd hml0 hP hK
  obtain ⟨rfl, hZ, hh⟩ := hP
  have hx := Bd.exec
  have hby := Bd.bytes
  have hml : c.maxLocals = 1 := hml0
  have hown : s.vm.findClass "com/example/violet_dye/violetdye/runtime/SummaryThrownPinLaw" = some m.cls := findClass_of_methodNamed Bd.named
  have hnm := (name_of_methodNamed Bd.named Bd.method).1
  have X0 : Stand p l e ({ frames := 0, cells := 0, slots := 0, locals := 0 } : Room) s m #[(.int p1)] below meth c s₁ [] 0 0 := Stand.of_body Bd
  have e0 : s₁.heap = h0 := by rw [← hh, Bd.state]; rfl
  have N0 := Fr.nil n0
  have pre0 : ∀ t, Steps p.tables e below (s₁.setTop (mkF m 0 #[.val (.int p1)] [])) t → Steps p.tables e below (s₁.setTop (entryFrame m #[(.int p1)] 1)) t := fun t k => castTop (ef_1 m p1) k
  obtain ⟨T2, X2, e2, st2⟩ := getS2 X0 hx hZ hown (host := "") (Or.inl (hw _ (List.mem_of_getElem? (i := 21) rfl))) Via.refl e0 S_LibraryCalls_Summary_PUT (g := (mkF m 59 #[.val (.int p1)] [])) rfl (hb hby d1_59)
  obtain ⟨fs, hr, hrun, hended, hW, hsame⟩ := X2.leave (v := some (.ref wPu)) (fun h => by rw [Bd.returns] at h; cases h)
  refine ⟨_, _, pre0 _ ?_, hrun, hended, _, _, rfl, ?_, ⟨_, rfl⟩, hW, hsame.mono (by decide) (by decide)⟩
  · show Steps p.tables e below (s₁.setTop (mkF m 0 #[.val (.int p1)] [])) _
    refine XS.iloadN X0.here hx rfl (hb hby d1_0) rfl ?_
    show Steps p.tables e below (s₁.setTop (mkF m 1 #[.val (.int p1)] [(.int p1)])) _
    refine XS.ifYes X0.here hx rfl (pc0 := 1) (pc' := 8) rfl (hb hby d1_1) rfl ((if0 _ _).trans (feq hc1).2) (by decide) (by decide) ?_
    show Steps p.tables e below (s₁.setTop (mkF m 8 #[.val (.int p1)] [])) _
    refine XS.iloadN X0.here hx rfl (hb hby d1_8) rfl ?_
    show Steps p.tables e below (s₁.setTop (mkF m 9 #[.val (.int p1)] [(.int p1)])) _
    refine XS.iconst X0.here hx rfl (hb hby d1_9) ?_
    show Steps p.tables e below (s₁.setTop (mkF m 10 #[.val (.int p1)] [(.int (1 : Int32)), (.int p1)])) _
    refine XS.icmpYes X0.here hx rfl (pc0 := 10) (pc' := 17) rfl (hb hby d1_10) rfl (feq hc10).2 (by decide) (by decide) ?_
    show Steps p.tables e below (s₁.setTop (mkF m 17 #[.val (.int p1)] [])) _
    refine XS.iloadN X0.here hx rfl (hb hby d1_17) rfl ?_
    show Steps p.tables e below (s₁.setTop (mkF m 18 #[.val (.int p1)] [(.int p1)])) _
    refine XS.iconst X0.here hx rfl (hb hby d1_18) ?_
    show Steps p.tables e below (s₁.setTop (mkF m 19 #[.val (.int p1)] [(.int (2 : Int32)), (.int p1)])) _
    refine XS.icmpYes X0.here hx rfl (pc0 := 19) (pc' := 26) rfl (hb hby d1_19) rfl (feq hc19).2 (by decide) (by decide) ?_
    show Steps p.tables e below (s₁.setTop (mkF m 26 #[.val (.int p1)] [])) _
    refine XS.iloadN X0.here hx rfl (hb hby d1_26) rfl ?_
    show Steps p.tables e below (s₁.setTop (mkF m 27 #[.val (.int p1)] [(.int p1)])) _
    refine XS.iconst X0.here hx rfl (hb hby d1_27) ?_
    show Steps p.tables e below (s₁.setTop (mkF m 28 #[.val (.int p1)] [(.int (3 : Int32)), (.int p1)])) _
    refine XS.icmpYes X0.here hx rfl (pc0 := 28) (pc' := 35) rfl (hb hby d1_28) rfl (feq hc28).2 (by decide) (by decide) ?_
    show Steps p.tables e below (s₁.setTop (mkF m 35 #[.val (.int p1)] [])) _
    refine XS.iloadN X0.here hx rfl (hb hby d1_35) rfl ?_
    show Steps p.tables e below (s₁.setTop (mkF m 36 #[.val (.int p1)] [(.int p1)])) _
    refine XS.iconst X0.here hx rfl (hb hby d1_36) ?_
    show Steps p.tables e below (s₁.setTop (mkF m 37 #[.val (.int p1)] [(.int (4 : Int32)), (.int p1)])) _
    refine XS.icmpYes X0.here hx rfl (pc0 := 37) (pc' := 44) rfl (hb hby d1_37) rfl (feq hc37).2 (by decide) (by decide) ?_
    show Steps p.tables e below (s₁.setTop (mkF m 44 #[.val (.int p1)] [])) _
    refine XS.iloadN X0.here hx rfl (hb hby d1_44) rfl ?_
    show Steps p.tables e below (s₁.setTop (mkF m 45 #[.val (.int p1)] [(.int p1)])) _
    refine XS.iconst X0.here hx rfl (hb hby d1_45) ?_
    show Steps p.tables e below (s₁.setTop (mkF m 46 #[.val (.int p1)] [(.int (5 : Int32)), (.int p1)])) _
    refine XS.icmpYes X0.here hx rfl (pc0 := 46) (pc' := 53) rfl (hb hby d1_46) rfl (feq hc46).2 (by decide) (by decide) ?_
    show Steps p.tables e below (s₁.setTop (mkF m 53 #[.val (.int p1)] [])) _
    refine XS.iloadN X0.here hx rfl (hb hby d1_53) rfl ?_
    show Steps p.tables e below (s₁.setTop (mkF m 54 #[.val (.int p1)] [(.int p1)])) _
    refine XS.bipush X0.here hx rfl (hb hby d1_54) ?_
    show Steps p.tables e below (s₁.setTop (mkF m 56 #[.val (.int p1)] [(.int (6 : Int32)), (.int p1)])) _
    refine XS.icmpNo X0.here hx rfl (hb hby d1_56) rfl (teq hc56).2 ?_
    show Steps p.tables e below (s₁.setTop (mkF m 59 #[.val (.int p1)] [])) _
    refine st2 _ ?_
    show Steps p.tables e below (T2.setTop (mkF m 62 #[.val (.int p1)] [(.ref wPu)])) _
    jvm_step X2.here [X2.here.top, hx, (hb hby d1_62), X2.method', Bd.returns, Value.isRef, FieldType.isReference]
    first | (intro acts; rw [hr _ acts rfl rfl rfl]) | rw [hr _ _ rfl rfl rfl]
    exact Steps.refl _
  · show Q1_k6 Z p1 wPu h0 n0 _ T2.heap _
    rw [e2]
    exact ⟨rfl, N0, rfl⟩
theorem d1_63 : decode method_2_code 63 = .ok (.iload_n 0, 1) := by decide +kernel
theorem d1_64 : decode method_2_code 64 = .ok (.bipush 7, 2) := by decide +kernel
theorem d1_66 : decode method_2_code 66 = .ok (.if_icmp .ne 7, 3) := by decide +kernel
theorem d1_69 : decode method_2_code 69 = .ok (.getstatic 31, 3) := by decide +kernel
theorem d1_72 : decode method_2_code 72 = .ok (.areturn, 1) := by decide +kernel
def Q1_k7 (Z : State) (p1 : Int32) (wAa : Addr) (h0 : Heap) (n0 : Nat) (v : Option Value) (h : Heap) (L : List Loc) : Prop := v = some (.ref wAa) ∧ Fr n0 L ∧ h = h0
set_option maxRecDepth 65536 in
set_option maxHeartbeats 40000000 in
theorem rm1_k7 (l : Launch) (Z : State) (a0 : Array Value) (hw : ∀ d ∈ tables_1, d.before a0 Z = true) (ws : List Jvm.Cond) (p1 : Int32) (wAa : Addr) (h0 : Heap) (n0 : Nat) (Z0 : n0 ≤ h0.size) (S_LibraryCalls_Summary_ADD_ALL : Sta Z h0 "com/example/violet_dye/violetdye/runtime/LibraryCalls$Summary" "ADD_ALL" "Lcom/example/violet_dye/violetdye/runtime/LibraryCalls$Summary;" (.ref wAa)) (hc1 : ¬ (p1 = (0 : Int32))) (hc10 : ¬ (p1 = (1 : Int32))) (hc19 : ¬ (p1 = (2 : Int32))) (hc28 : ¬ (p1 = (3 : Int32))) (hc37 : ¬ (p1 = (4 : Int32))) (hc46 : ¬ (p1 = (5 : Int32))) (hc56 : ¬ (p1 = (6 : Int32))) (hc66 : p1 = (7 : Int32)) :
    MetFree l (⟨"com/example/violet_dye/violetdye/runtime/SummaryThrownPinLaw", "pick", "(I)Lcom/example/violet_dye/violetdye/runtime/LibraryCalls$Summary;"⟩ : MethodName) (head1 (Jvm.Cond.code (⟨"com/example/violet_dye/violetdye/runtime/SummaryThrownPinLaw", "pick", "(I)Lcom/example/violet_dye/violetdye/runtime/LibraryCalls$Summary;"⟩ : MethodName) method_2_code 1 (some (.object "com/example/violet_dye/violetdye/runtime/LibraryCalls$Summary")) :: ws) ({ frames := 0, cells := 0, slots := 0, locals := 0 } : Room)) (fun a U => a = #[(.int p1)] ∧ Z.Warmed39 U.vm ∧ U.heap = h0) (fun _ _ _ _ _ => True) (fun _ U o U' => ∃ v L, o = .returned v ∧ Q1_k7 Z p1 wAa h0 n0 v U'.heap L ∧ FrameEnd U o U' L ({ frames := 0, cells := 0, slots := 0, locals := 0 } : Room).cells ({ frames := 0, cells := 0, slots := 0, locals := 0 } : Room).slots) := by
  refine MetFree.of_bodySF (plainFor_of_name pn_1) hisR ?_
  intro p e s m args below meth c s₁ Bd hml0 hP hK
  obtain ⟨rfl, hZ, hh⟩ := hP
  have hx := Bd.exec
  have hby := Bd.bytes
  have hml : c.maxLocals = 1 := hml0
  have hown : s.vm.findClass "com/example/violet_dye/violetdye/runtime/SummaryThrownPinLaw" = some m.cls := findClass_of_methodNamed Bd.named
  have hnm := (name_of_methodNamed Bd.named Bd.method).1
  have X0 : Stand p l e ({ frames := 0, cells := 0, slots := 0, locals := 0 } : Room) s m #[(.int p1)] below meth c s₁ [] 0 0 := Stand.of_body Bd
  have e0 : s₁.heap = h0 := by rw [← hh, Bd.state]; rfl
  have N0 := Fr.nil n0
  have pre0 : ∀ t, Steps p.tables e below (s₁.setTop (mkF m 0 #[.val (.int p1)] [])) t → Steps p.tables e below (s₁.setTop (entryFrame m #[(.int p1)] 1)) t := fun t k => castTop (ef_1 m p1) k
  obtain ⟨T2, X2, e2, st2⟩ := getS2 X0 hx hZ hown (host := "") (Or.inl (hw _ (List.mem_of_getElem? (i := 27) rfl))) Via.refl e0 S_LibraryCalls_Summary_ADD_ALL (g := (mkF m 69 #[.val (.int p1)] [])) rfl (hb hby d1_69)
  obtain ⟨fs, hr, hrun, hended, hW, hsame⟩ := X2.leave (v := some (.ref wAa)) (fun h => by rw [Bd.returns] at h; cases h)
  refine ⟨_, _, pre0 _ ?_, hrun, hended, _, _, rfl, ?_, ⟨_, rfl⟩, hW, hsame.mono (by decide) (by decide)⟩
  · show Steps p.tables e below (s₁.setTop (mkF m 0 #[.val (.int p1)] [])) _
    refine XS.iloadN X0.here hx rfl (hb hby d1_0) rfl ?_
    show Steps p.tables e below (s₁.setTop (mkF m 1 #[.val (.int p1)] [(.int p1)])) _
    refine XS.ifYes X0.here hx rfl (pc0 := 1) (pc' := 8) rfl (hb hby d1_1) rfl ((if0 _ _).trans (feq hc1).2) (by decide) (by decide) ?_
    show Steps p.tables e below (s₁.setTop (mkF m 8 #[.val (.int p1)] [])) _
    refine XS.iloadN X0.here hx rfl (hb hby d1_8) rfl ?_
    show Steps p.tables e below (s₁.setTop (mkF m 9 #[.val (.int p1)] [(.int p1)])) _
    refine XS.iconst X0.here hx rfl (hb hby d1_9) ?_
    show Steps p.tables e below (s₁.setTop (mkF m 10 #[.val (.int p1)] [(.int (1 : Int32)), (.int p1)])) _
    refine XS.icmpYes X0.here hx rfl (pc0 := 10) (pc' := 17) rfl (hb hby d1_10) rfl (feq hc10).2 (by decide) (by decide) ?_
    show Steps p.tables e below (s₁.setTop (mkF m 17 #[.val (.int p1)] [])) _
    refine XS.iloadN X0.here hx rfl (hb hby d1_17) rfl ?_
    show Steps p.tables e below (s₁.setTop (mkF m 18 #[.val (.int p1)] [(.int p1)])) _
    refine XS.iconst X0.here hx rfl (hb hby d1_18) ?_
    show Steps p.tables e below (s₁.setTop (mkF m 19 #[.val (.int p1)] [(.int (2 : Int32)), (.int p1)])) _
    refine XS.icmpYes X0.here hx rfl (pc0 := 19) (pc' := 26) rfl (hb hby d1_19) rfl (feq hc19).2 (by decide) (by decide) ?_
    show Steps p.tables e below (s₁.setTop (mkF m 26 #[.val (.int p1)] [])) _
    refine XS.iloadN X0.here hx rfl (hb hby d1_26) rfl ?_
    show Steps p.tables e below (s₁.setTop (mkF m 27 #[.val (.int p1)] [(.int p1)])) _
    refine XS.iconst X0.here hx rfl (hb hby d1_27) ?_
    show Steps p.tables e below (s₁.setTop (mkF m 28 #[.val (.int p1)] [(.int (3 : Int32)), (.int p1)])) _
    refine XS.icmpYes X0.here hx rfl (pc0 := 28) (pc' := 35) rfl (hb hby d1_28) rfl (feq hc28).2 (by decide) (by decide) ?_
    show Steps p.tables e below (s₁.setTop (mkF m 35 #[.val (.int p1)] [])) _
    refine XS.iloadN X0.here hx rfl (hb hby d1_35) rfl ?_
    show Steps p.tables e below (s₁.setTop (mkF m 36 #[.val (.int p1)] [(.int p1)])) _
    refine XS.iconst X0.here hx rfl (hb hby d1_36) ?_
    show Steps p.tables e below (s₁.setTop (mkF m 37 #[.val (.int p1)] [(.int (4 : Int32)), (.int p1)])) _
    refine XS.icmpYes X0.here hx rfl (pc0 := 37) (pc' := 44) rfl (hb hby d1_37) rfl (feq hc37).2 (by decide) (by decide) ?_
    show Steps p.tables e below (s₁.setTop (mkF m 44 #[.val (.int p1)] [])) _
    refine XS.iloadN X0.here hx rfl (hb hby d1_44) rfl ?_
    show Steps p.tables e below (s₁.setTop (mkF m 45 #[.val (.int p1)] [(.int p1)])) _
    refine XS.iconst X0.here hx rfl (hb hby d1_45) ?_
    show Steps p.tables e below (s₁.setTop (mkF m 46 #[.val (.int p1)] [(.int (5 : Int32)), (.int p1)])) _
    refine XS.icmpYes X0.here hx rfl (pc0 := 46) (pc' := 53) rfl (hb hby d1_46) rfl (feq hc46).2 (by decide) (by decide) ?_
    show Steps p.tables e below (s₁.setTop (mkF m 53 #[.val (.int p1)] [])) _
    refine XS.iloadN X0.here hx rfl (hb hby d1_53) rfl ?_
    show Steps p.tables e below (s₁.setTop (mkF m 54 #[.val (.int p1)] [(.int p1)])) _
    refine XS.bipush X0.here hx rfl (hb hby d1_54) ?_
    show Steps p.tables e below (s₁.setTop (mkF m 56 #[.val (.int p1)] [(.int (6 : Int32)), (.int p1)])) _
    refine XS.icmpYes X0.here hx rfl (pc0 := 56) (pc' := 63) rfl (hb hby d1_56) rfl (feq hc56).2 (by decide) (by decide) ?_
    show Steps p.tables e below (s₁.setTop (mkF m 63 #[.val (.int p1)] [])) _
    refine XS.iloadN X0.here hx rfl (hb hby d1_63) rfl ?_
    show Steps p.tables e below (s₁.setTop (mkF m 64 #[.val (.int p1)] [(.int p1)])) _
    refine XS.bipush X0.here hx rfl (hb hby d1_64) ?_
    show Steps p.tables e below (s₁.setTop (mkF m 66 #[.val (.int p1)] [(.int (7 : Int32)), (.int p1)])) _
    refine XS.icmpNo X0.here hx rfl (hb hby d1_66) rfl (teq hc66).2 ?_
    show Steps p.tables e below (s₁.setTop (mkF m 69 #[.val (.int p1)] [])) _
    refine st2 _ ?_
    show Steps p.tables e below (T2.setTop (mkF m 72 #[.val (.int p1)] [(.ref wAa)])) _
    jvm_step X2.here [X2.here.top, hx, (hb hby d1_72), X2.method', Bd.returns, Value.isRef, FieldType.isReference]
    first | (intro acts; rw [hr _ acts rfl rfl rfl]) | rw [hr _ _ rfl rfl rfl]
    exact Steps.refl _
  · show Q1_k7 Z p1 wAa h0 n0 _ T2.heap _
    rw [e2]
    exact ⟨rfl, N0, rfl⟩
theorem d1_73 : decode method_2_code 73 = .ok (.iload_n 0, 1) := by decide +kernel
theorem d1_74 : decode method_2_code 74 = .ok (.bipush 8, 2) := by decide +kernel
theorem d1_76 : decode method_2_code 76 = .ok (.if_icmp .ne 7, 3) := by decide +kernel
theorem d1_79 : decode method_2_code 79 = .ok (.getstatic 34, 3) := by decide +kernel
theorem d1_82 : decode method_2_code 82 = .ok (.areturn, 1) := by decide +kernel
def Q1_k8 (Z : State) (p1 : Int32) (wI : Addr) (h0 : Heap) (n0 : Nat) (v : Option Value) (h : Heap) (L : List Loc) : Prop := v = some (.ref wI) ∧ Fr n0 L ∧ h = h0
set_option maxRecDepth 65536 in
set_option maxHeartbeats 40000000 in
theorem rm1_k8 (l : Launch) (Z : State) (a0 : Array Value) (hw : ∀ d ∈ tables_1, d.before a0 Z = true) (ws : List Jvm.Cond) (p1 : Int32) (wI : Addr) (h0 : Heap) (n0 : Nat) (Z0 : n0 ≤ h0.size) (S_LibraryCalls_Summary_INTO : Sta Z h0 "com/example/violet_dye/violetdye/runtime/LibraryCalls$Summary" "INTO" "Lcom/example/violet_dye/violetdye/runtime/LibraryCalls$Summary;" (.ref wI)) (hc1 : ¬ (p1 = (0 : Int32))) (hc10 : ¬ (p1 = (1 : Int32))) (hc19 : ¬ (p1 = (2 : Int32))) (hc28 : ¬ (p1 = (3 : Int32))) (hc37 : ¬ (p1 = (4 : Int32))) (hc46 : ¬ (p1 = (5 : Int32))) (hc56 : ¬ (p1 = (6 : Int32))) (hc66 : ¬ (p1 = (7 : Int32))) (hc76 : p1 = (8 : Int32)) :
    MetFree l (⟨"com/example/violet_dye/violetdye/runtime/SummaryThrownPinLaw", "pick", "(I)Lcom/example/violet_dye/violetdye/runtime/LibraryCalls$Summary;"⟩ : MethodName) (head1 (Jvm.Cond.code (⟨"com/example/violet_dye/violetdye/runtime/SummaryThrownPinLaw", "pick", "(I)Lcom/example/violet_dye/violetdye/runtime/LibraryCalls$Summary;"⟩ : MethodName) method_2_code 1 (some (.object "com/example/violet_dye/violetdye/runtime/LibraryCalls$Summary")) :: ws) ({ frames := 0, cells := 0, slots := 0, locals := 0 } : Room)) (fun a U => a = #[(.int p1)] ∧ Z.Warmed39 U.vm ∧ U.heap = h0) (fun _ _ _ _ _ => True) (fun _ U o U' => ∃ v L, o = .returned v ∧ Q1_k8 Z p1 wI h0 n0 v U'.heap L ∧ FrameEnd U o U' L ({ frames := 0, cells := 0, slots := 0, locals := 0 } : Room).cells ({ frames := 0, cells := 0, slots := 0, locals := 0 } : Room).slots) := by
  refine MetFree.of_bodySF (plainFor_of_name pn_1) hisR ?_
  intro p e s m args below meth c s₁ Bd hml0 hP hK
  obtain ⟨rfl, hZ, hh⟩ := hP
  have hx := Bd.exec
  have hby := Bd.bytes
  have hml : c.maxLocals = 1 := hml0
  have hown : s.vm.findClass "com/example/violet_dye/violetdye/runtime/SummaryThrownPinLaw" = some m.cls := findClass_of_methodNamed Bd.named
  have hnm := (name_of_methodNamed Bd.named Bd.method).1
  have X0 : Stand p l e ({ frames := 0, cells := 0, slots := 0, locals := 0 } : Room) s m #[(.int p1)] below meth c s₁ [] 0 0 := Stand.of_body Bd
  have e0 : s₁.heap = h0 := by rw [← hh, Bd.state]; rfl
  have N0 := Fr.nil n0
  have pre0 : ∀ t, Steps p.tables e below (s₁.setTop (mkF m 0 #[.val (.int p1)] [])) t → Steps p.tables e below (s₁.setTop (entryFrame m #[(.int p1)] 1)) t := fun t k => castTop (ef_1 m p1) k
  obtain ⟨T2, X2, e2, st2⟩ := getS2 X0 hx hZ hown (host := "") (Or.inl (hw _ (List.mem_of_getElem? (i := 35) rfl))) Via.refl e0 S_LibraryCalls_Summary_INTO (g := (mkF m 79 #[.val (.int p1)] [])) rfl (hb hby d1_79)
  obtain ⟨fs, hr, hrun, hended, hW, hsame⟩ := X2.leave (v := some (.ref wI)) (fun h => by rw [Bd.returns] at h; cases h)
  refine ⟨_, _, pre0 _ ?_, hrun, hended, _, _, rfl, ?_, ⟨_, rfl⟩, hW, hsame.mono (by decide) (by decide)⟩
  · show Steps p.tables e below (s₁.setTop (mkF m 0 #[.val (.int p1)] [])) _
    refine XS.iloadN X0.here hx rfl (hb hby d1_0) rfl ?_
    show Steps p.tables e below (s₁.setTop (mkF m 1 #[.val (.int p1)] [(.int p1)])) _
    refine XS.ifYes X0.here hx rfl (pc0 := 1) (pc' := 8) rfl (hb hby d1_1) rfl ((if0 _ _).trans (feq hc1).2) (by decide) (by decide) ?_
    show Steps p.tables e below (s₁.setTop (mkF m 8 #[.val (.int p1)] [])) _
    refine XS.iloadN X0.here hx rfl (hb hby d1_8) rfl ?_
    show Steps p.tables e below (s₁.setTop (mkF m 9 #[.val (.int p1)] [(.int p1)])) _
    refine XS.iconst X0.here hx rfl (hb hby d1_9) ?_
    show Steps p.tables e below (s₁.setTop (mkF m 10 #[.val (.int p1)] [(.int (1 : Int32)), (.int p1)])) _
    refine XS.icmpYes X0.here hx rfl (pc0 := 10) (pc' := 17) rfl (hb hby d1_10) rfl (feq hc10).2 (by decide) (by decide) ?_
    show Steps p.tables e below (s₁.setTop (mkF m 17 #[.val (.int p1)] [])) _
    refine XS.iloadN X0.here hx rfl (hb hby d1_17) rfl ?_
    show Steps p.tables e below (s₁.setTop (mkF m 18 #[.val (.int p1)] [(.int p1)])) _
    refine XS.iconst X0.here hx rfl (hb hby d1_18) ?_
    show Steps p.tables e below (s₁.setTop (mkF m 19 #[.val (.int p1)] [(.int (2 : Int32)), (.int p1)])) _
    refine XS.icmpYes X0.here hx rfl (pc0 := 19) (pc' := 26) rfl (hb hby d1_19) rfl (feq hc19).2 (by decide) (by decide) ?_
    show Steps p.tables e below (s₁.setTop (mkF m 26 #[.val (.int p1)] [])) _
    refine XS.iloadN X0.here hx rfl (hb hby d1_26) rfl ?_
    show Steps p.tables e below (s₁.setTop (mkF m 27 #[.val (.int p1)] [(.int p1)])) _
    refine XS.iconst X0.here hx rfl (hb hby d1_27) ?_
    show Steps p.tables e below (s₁.setTop (mkF m 28 #[.val (.int p1)] [(.int (3 : Int32)), (.int p1)])) _
    refine XS.icmpYes X0.here hx rfl (pc0 := 28) (pc' := 35) rfl (hb hby d1_28) rfl (feq hc28).2 (by decide) (by decide) ?_
    show Steps p.tables e below (s₁.setTop (mkF m 35 #[.val (.int p1)] [])) _
    refine XS.iloadN X0.here hx rfl (hb hby d1_35) rfl ?_
    show Steps p.tables e below (s₁.setTop (mkF m 36 #[.val (.int p1)] [(.int p1)])) _
    refine XS.iconst X0.here hx rfl (hb hby d1_36) ?_
    show Steps p.tables e below (s₁.setTop (mkF m 37 #[.val (.int p1)] [(.int (4 : Int32)), (.int p1)])) _
    refine XS.icmpYes X0.here hx rfl (pc0 := 37) (pc' := 44) rfl (hb hby d1_37) rfl (feq hc37).2 (by decide) (by decide) ?_
    show Steps p.tables e below (s₁.setTop (mkF m 44 #[.val (.int p1)] [])) _
    refine XS.iloadN X0.here hx rfl (hb hby d1_44) rfl ?_
    show Steps p.tables e below (s₁.setTop (mkF m 45 #[.val (.int p1)] [(.int p1)])) _
    refine XS.iconst X0.here hx rfl (hb hby d1_45) ?_
    show Steps p.tables e below (s₁.setTop (mkF m 46 #[.val (.int p1)] [(.int (5 : Int32)), (.int p1)])) _
    refine XS.icmpYes X0.here hx rfl (pc0 := 46) (pc' := 53) rfl (hb hby d1_46) rfl (feq hc46).2 (by decide) (by decide) ?_
    show Steps p.tables e below (s₁.setTop (mkF m 53 #[.val (.int p1)] [])) _
    refine XS.iloadN X0.here hx rfl (hb hby d1_53) rfl ?_
    show Steps p.tables e below (s₁.setTop (mkF m 54 #[.val (.int p1)] [(.int p1)])) _
    refine XS.bipush X0.here hx rfl (hb hby d1_54) ?_
    show Steps p.tables e below (s₁.setTop (mkF m 56 #[.val (.int p1)] [(.int (6 : Int32)), (.int p1)])) _
    refine XS.icmpYes X0.here hx rfl (pc0 := 56) (pc' := 63) rfl (hb hby d1_56) rfl (feq hc56).2 (by decide) (by decide) ?_
    show Steps p.tables e below (s₁.setTop (mkF m 63 #[.val (.int p1)] [])) _
    refine XS.iloadN X0.here hx rfl (hb hby d1_63) rfl ?_
    show Steps p.tables e below (s₁.setTop (mkF m 64 #[.val (.int p1)] [(.int p1)])) _
    refine XS.bipush X0.here hx rfl (hb hby d1_64) ?_
    show Steps p.tables e below (s₁.setTop (mkF m 66 #[.val (.int p1)] [(.int (7 : Int32)), (.int p1)])) _
    refine XS.icmpYes X0.here hx rfl (pc0 := 66) (pc' := 73) rfl (hb hby d1_66) rfl (feq hc66).2 (by decide) (by decide) ?_
    show Steps p.tables e below (s₁.setTop (mkF m 73 #[.val (.int p1)] [])) _
    refine XS.iloadN X0.here hx rfl (hb hby d1_73) rfl ?_
    show Steps p.tables e below (s₁.setTop (mkF m 74 #[.val (.int p1)] [(.int p1)])) _
    refine XS.bipush X0.here hx rfl (hb hby d1_74) ?_
    show Steps p.tables e below (s₁.setTop (mkF m 76 #[.val (.int p1)] [(.int (8 : Int32)), (.int p1)])) _
    refine XS.icmpNo X0.here hx rfl (hb hby d1_76) rfl (teq hc76).2 ?_
    show Steps p.tables e below (s₁.setTop (mkF m 79 #[.val (.int p1)] [])) _
    refine st2 _ ?_
    show Steps p.tables e below (T2.setTop (mkF m 82 #[.val (.int p1)] [(.ref wI)])) _
    jvm_step X2.here [X2.here.top, hx, (hb hby d1_82), X2.method', Bd.returns, Value.isRef, FieldType.isReference]
    first | (intro acts; rw [hr _ acts rfl rfl rfl]) | rw [hr _ _ rfl rfl rfl]
    exact Steps.refl _
  · show Q1_k8 Z p1 wI h0 n0 _ T2.heap _
    rw [e2]
    exact ⟨rfl, N0, rfl⟩
theorem d1_83 : decode method_2_code 83 = .ok (.iload_n 0, 1) := by decide +kernel
theorem d1_84 : decode method_2_code 84 = .ok (.bipush 9, 2) := by decide +kernel
theorem d1_86 : decode method_2_code 86 = .ok (.if_icmp .ne 7, 3) := by decide +kernel
theorem d1_89 : decode method_2_code 89 = .ok (.getstatic 37, 3) := by decide +kernel
theorem d1_92 : decode method_2_code 92 = .ok (.areturn, 1) := by decide +kernel
def Q1_k9 (Z : State) (p1 : Int32) (wOf : Addr) (h0 : Heap) (n0 : Nat) (v : Option Value) (h : Heap) (L : List Loc) : Prop := v = some (.ref wOf) ∧ Fr n0 L ∧ h = h0
set_option maxRecDepth 65536 in
set_option maxHeartbeats 40000000 in
theorem rm1_k9 (l : Launch) (Z : State) (a0 : Array Value) (hw : ∀ d ∈ tables_1, d.before a0 Z = true) (ws : List Jvm.Cond) (p1 : Int32) (wOf : Addr) (h0 : Heap) (n0 : Nat) (Z0 : n0 ≤ h0.size) (S_LibraryCalls_Summary_OF : Sta Z h0 "com/example/violet_dye/violetdye/runtime/LibraryCalls$Summary" "OF" "Lcom/example/violet_dye/violetdye/runtime/LibraryCalls$Summary;" (.ref wOf)) (hc1 : ¬ (p1 = (0 : Int32))) (hc10 : ¬ (p1 = (1 : Int32))) (hc19 : ¬ (p1 = (2 : Int32))) (hc28 : ¬ (p1 = (3 : Int32))) (hc37 : ¬ (p1 = (4 : Int32))) (hc46 : ¬ (p1 = (5 : Int32))) (hc56 : ¬ (p1 = (6 : Int32))) (hc66 : ¬ (p1 = (7 : Int32))) (hc76 : ¬ (p1 = (8 : Int32))) (hc86 : p1 = (9 : Int32)) :
    MetFree l (⟨"com/example/violet_dye/violetdye/runtime/SummaryThrownPinLaw", "pick", "(I)Lcom/example/violet_dye/violetdye/runtime/LibraryCalls$Summary;"⟩ : MethodName) (head1 (Jvm.Cond.code (⟨"com/example/violet_dye/violetdye/runtime/SummaryThrownPinLaw", "pick", "(I)Lcom/example/violet_dye/violetdye/runtime/LibraryCalls$Summary;"⟩ : MethodName) method_2_code 1 (some (.object "com/example/violet_dye/violetdye/runtime/LibraryCalls$Summary")) :: ws) ({ frames := 0, cells := 0, slots := 0, locals := 0 } : Room)) (fun a U => a = #[(.int p1)] ∧ Z.Warmed39 U.vm ∧ U.heap = h0) (fun _ _ _ _ _ => True) (fun _ U o U' => ∃ v L, o = .returned v ∧ Q1_k9 Z p1 wOf h0 n0 v U'.heap L ∧ FrameEnd U o U' L ({ frames := 0, cells := 0, slots := 0, locals := 0 } : Room).cells ({ frames := 0, cells := 0, slots := 0, locals := 0 } : Room).slots) := by
  refine MetFree.of_bodySF (plainFor_of_name pn_1) hisR ?_
  intro p e s m args below meth c s₁ Bd hml0 hP hK
  obtain ⟨rfl, hZ, hh⟩ := hP
  have hx := Bd.exec
  have hby := Bd.bytes
  have hml : c.maxLocals = 1 := hml0
  have hown : s.vm.findClass "com/example/violet_dye/violetdye/runtime/SummaryThrownPinLaw" = some m.cls := findClass_of_methodNamed Bd.named
  have hnm := (name_of_methodNamed Bd.named Bd.method).1
  have X0 : Stand p l e ({ frames := 0, cells := 0, slots := 0, locals := 0 } : Room) s m #[(.int p1)] below meth c s₁ [] 0 0 := Stand.of_body Bd
  have e0 : s₁.heap = h0 := by rw [← hh, Bd.state]; rfl
  have N0 := Fr.nil n0
  have pre0 : ∀ t, Steps p.tables e below (s₁.setTop (mkF m 0 #[.val (.int p1)] [])) t → Steps p.tables e below (s₁.setTop (entryFrame m #[(.int p1)] 1)) t := fun t k => castTop (ef_1 m p1) k
  obtain ⟨T2, X2, e2, st2⟩ := getS2 X0 hx hZ hown (host := "") (Or.inl (hw _ (List.mem_of_getElem? (i := 29) rfl))) Via.refl e0 S_LibraryCalls_Summary_OF (g := (mkF m 89 #[.val (.int p1)] [])) rfl (hb hby d1_89)
  obtain ⟨fs, hr, hrun, hended, hW, hsame⟩ := X2.leave (v := some (.ref wOf)) (fun h => by rw [Bd.returns] at h; cases h)
  refine ⟨_, _, pre0 _ ?_, hrun, hended, _, _, rfl, ?_, ⟨_, rfl⟩, hW, hsame.mono (by decide) (by decide)⟩
  · show Steps p.tables e below (s₁.setTop (mkF m 0 #[.val (.int p1)] [])) _
    refine XS.iloadN X0.here hx rfl (hb hby d1_0) rfl ?_
    show Steps p.tables e below (s₁.setTop (mkF m 1 #[.val (.int p1)] [(.int p1)])) _
    refine XS.ifYes X0.here hx rfl (pc0 := 1) (pc' := 8) rfl (hb hby d1_1) rfl ((if0 _ _).trans (feq hc1).2) (by decide) (by decide) ?_
    show Steps p.tables e below (s₁.setTop (mkF m 8 #[.val (.int p1)] [])) _
    refine XS.iloadN X0.here hx rfl (hb hby d1_8) rfl ?_
    show Steps p.tables e below (s₁.setTop (mkF m 9 #[.val (.int p1)] [(.int p1)])) _
    refine XS.iconst X0.here hx rfl (hb hby d1_9) ?_
    show Steps p.tables e below (s₁.setTop (mkF m 10 #[.val (.int p1)] [(.int (1 : Int32)), (.int p1)])) _
    refine XS.icmpYes X0.here hx rfl (pc0 := 10) (pc' := 17) rfl (hb hby d1_10) rfl (feq hc10).2 (by decide) (by decide) ?_
    show Steps p.tables e below (s₁.setTop (mkF m 17 #[.val (.int p1)] [])) _
    refine XS.iloadN X0.here hx rfl (hb hby d1_17) rfl ?_
    show Steps p.tables e below (s₁.setTop (mkF m 18 #[.val (.int p1)] [(.int p1)])) _
    refine XS.iconst X0.here hx rfl (hb hby d1_18) ?_
    show Steps p.tables e below (s₁.setTop (mkF m 19 #[.val (.int p1)] [(.int (2 : Int32)), (.int p1)])) _
    refine XS.icmpYes X0.here hx rfl (pc0 := 19) (pc' := 26) rfl (hb hby d1_19) rfl (feq hc19).2 (by decide) (by decide) ?_
    show Steps p.tables e below (s₁.setTop (mkF m 26 #[.val (.int p1)] [])) _
    refine XS.iloadN X0.here hx rfl (hb hby d1_26) rfl ?_
    show Steps p.tables e below (s₁.setTop (mkF m 27 #[.val (.int p1)] [(.int p1)])) _
    refine XS.iconst X0.here hx rfl (hb hby d1_27) ?_
    show Steps p.tables e below (s₁.setTop (mkF m 28 #[.val (.int p1)] [(.int (3 : Int32)), (.int p1)])) _
    refine XS.icmpYes X0.here hx rfl (pc0 := 28) (pc' := 35) rfl (hb hby d1_28) rfl (feq hc28).2 (by decide) (by decide) ?_
    show Steps p.tables e below (s₁.setTop (mkF m 35 #[.val (.int p1)] [])) _
    refine XS.iloadN X0.here hx rfl (hb hby d1_35) rfl ?_
    show Steps p.tables e below (s₁.setTop (mkF m 36 #[.val (.int p1)] [(.int p1)])) _
    refine XS.iconst X0.here hx rfl (hb hby d1_36) ?_
    show Steps p.tables e below (s₁.setTop (mkF m 37 #[.val (.int p1)] [(.int (4 : Int32)), (.int p1)])) _
    refine XS.icmpYes X0.here hx rfl (pc0 := 37) (pc' := 44) rfl (hb hby d1_37) rfl (feq hc37).2 (by decide) (by decide) ?_
    show Steps p.tables e below (s₁.setTop (mkF m 44 #[.val (.int p1)] [])) _
    refine XS.iloadN X0.here hx rfl (hb hby d1_44) rfl ?_
    show Steps p.tables e below (s₁.setTop (mkF m 45 #[.val (.int p1)] [(.int p1)])) _
    refine XS.iconst X0.here hx rfl (hb hby d1_45) ?_
    show Steps p.tables e below (s₁.setTop (mkF m 46 #[.val (.int p1)] [(.int (5 : Int32)), (.int p1)])) _
    refine XS.icmpYes X0.here hx rfl (pc0 := 46) (pc' := 53) rfl (hb hby d1_46) rfl (feq hc46).2 (by decide) (by decide) ?_
    show Steps p.tables e below (s₁.setTop (mkF m 53 #[.val (.int p1)] [])) _
    refine XS.iloadN X0.here hx rfl (hb hby d1_53) rfl ?_
    show Steps p.tables e below (s₁.setTop (mkF m 54 #[.val (.int p1)] [(.int p1)])) _
    refine XS.bipush X0.here hx rfl (hb hby d1_54) ?_
    show Steps p.tables e below (s₁.setTop (mkF m 56 #[.val (.int p1)] [(.int (6 : Int32)), (.int p1)])) _
    refine XS.icmpYes X0.here hx rfl (pc0 := 56) (pc' := 63) rfl (hb hby d1_56) rfl (feq hc56).2 (by decide) (by decide) ?_
    show Steps p.tables e below (s₁.setTop (mkF m 63 #[.val (.int p1)] [])) _
    refine XS.iloadN X0.here hx rfl (hb hby d1_63) rfl ?_
    show Steps p.tables e below (s₁.setTop (mkF m 64 #[.val (.int p1)] [(.int p1)])) _
    refine XS.bipush X0.here hx rfl (hb hby d1_64) ?_
    show Steps p.tables e below (s₁.setTop (mkF m 66 #[.val (.int p1)] [(.int (7 : Int32)), (.int p1)])) _
    refine XS.icmpYes X0.here hx rfl (pc0 := 66) (pc' := 73) rfl (hb hby d1_66) rfl (feq hc66).2 (by decide) (by decide) ?_
    show Steps p.tables e below (s₁.setTop (mkF m 73 #[.val (.int p1)] [])) _
    refine XS.iloadN X0.here hx rfl (hb hby d1_73) rfl ?_
    show Steps p.tables e below (s₁.setTop (mkF m 74 #[.val (.int p1)] [(.int p1)])) _
    refine XS.bipush X0.here hx rfl (hb hby d1_74) ?_
    show Steps p.tables e below (s₁.setTop (mkF m 76 #[.val (.int p1)] [(.int (8 : Int32)), (.int p1)])) _
    refine XS.icmpYes X0.here hx rfl (pc0 := 76) (pc' := 83) rfl (hb hby d1_76) rfl (feq hc76).2 (by decide) (by decide) ?_
    show Steps p.tables e below (s₁.setTop (mkF m 83 #[.val (.int p1)] [])) _
    refine XS.iloadN X0.here hx rfl (hb hby d1_83) rfl ?_
    show Steps p.tables e below (s₁.setTop (mkF m 84 #[.val (.int p1)] [(.int p1)])) _
    refine XS.bipush X0.here hx rfl (hb hby d1_84) ?_
    show Steps p.tables e below (s₁.setTop (mkF m 86 #[.val (.int p1)] [(.int (9 : Int32)), (.int p1)])) _
    refine XS.icmpNo X0.here hx rfl (hb hby d1_86) rfl (teq hc86).2 ?_
    show Steps p.tables e below (s₁.setTop (mkF m 89 #[.val (.int p1)] [])) _
    refine st2 _ ?_
    show Steps p.tables e below (T2.setTop (mkF m 92 #[.val (.int p1)] [(.ref wOf)])) _
    jvm_step X2.here [X2.here.top, hx, (hb hby d1_92), X2.method', Bd.returns, Value.isRef, FieldType.isReference]
    first | (intro acts; rw [hr _ acts rfl rfl rfl]) | rw [hr _ _ rfl rfl rfl]
    exact Steps.refl _
  · show Q1_k9 Z p1 wOf h0 n0 _ T2.heap _
    rw [e2]
    exact ⟨rfl, N0, rfl⟩
theorem d1_93 : decode method_2_code 93 = .ok (.iload_n 0, 1) := by decide +kernel
theorem d1_94 : decode method_2_code 94 = .ok (.bipush 10, 2) := by decide +kernel
theorem d1_96 : decode method_2_code 96 = .ok (.if_icmp .ne 7, 3) := by decide +kernel
theorem d1_99 : decode method_2_code 99 = .ok (.getstatic 40, 3) := by decide +kernel
theorem d1_102 : decode method_2_code 102 = .ok (.areturn, 1) := by decide +kernel
def Q1_k10 (Z : State) (p1 : Int32) (wAl : Addr) (h0 : Heap) (n0 : Nat) (v : Option Value) (h : Heap) (L : List Loc) : Prop := v = some (.ref wAl) ∧ Fr n0 L ∧ h = h0
set_option maxRecDepth 65536 in
set_option maxHeartbeats 40000000 in
theorem rm1_k10 (l : Launch) (Z : State) (a0 : Array Value) (hw : ∀ d ∈ tables_1, d.before a0 Z = true) (ws : List Jvm.Cond) (p1 : Int32) (wAl : Addr) (h0 : Heap) (n0 : Nat) (Z0 : n0 ≤ h0.size) (S_LibraryCalls_Summary_AS_LIST : Sta Z h0 "com/example/violet_dye/violetdye/runtime/LibraryCalls$Summary" "AS_LIST" "Lcom/example/violet_dye/violetdye/runtime/LibraryCalls$Summary;" (.ref wAl)) (hc1 : ¬ (p1 = (0 : Int32))) (hc10 : ¬ (p1 = (1 : Int32))) (hc19 : ¬ (p1 = (2 : Int32))) (hc28 : ¬ (p1 = (3 : Int32))) (hc37 : ¬ (p1 = (4 : Int32))) (hc46 : ¬ (p1 = (5 : Int32))) (hc56 : ¬ (p1 = (6 : Int32))) (hc66 : ¬ (p1 = (7 : Int32))) (hc76 : ¬ (p1 = (8 : Int32))) (hc86 : ¬ (p1 = (9 : Int32))) (hc96 : p1 = (10 : Int32)) :
    MetFree l (⟨"com/example/violet_dye/violetdye/runtime/SummaryThrownPinLaw", "pick", "(I)Lcom/example/violet_dye/violetdye/runtime/LibraryCalls$Summary;"⟩ : MethodName) (head1 (Jvm.Cond.code (⟨"com/example/violet_dye/violetdye/runtime/SummaryThrownPinLaw", "pick", "(I)Lcom/example/violet_dye/violetdye/runtime/LibraryCalls$Summary;"⟩ : MethodName) method_2_code 1 (some (.object "com/example/violet_dye/violetdye/runtime/LibraryCalls$Summary")) :: ws) ({ frames := 0, cells := 0, slots := 0, locals := 0 } : Room)) (fun a U => a = #[(.int p1)] ∧ Z.Warmed39 U.vm ∧ U.heap = h0) (fun _ _ _ _ _ => True) (fun _ U o U' => ∃ v L, o = .returned v ∧ Q1_k10 Z p1 wAl h0 n0 v U'.heap L ∧ FrameEnd U o U' L ({ frames := 0, cells := 0, slots := 0, locals := 0 } : Room).cells ({ frames := 0, cells := 0, slots := 0, locals := 0 } : Room).slots) := by
  refine MetFree.of_bodySF (plainFor_of_name pn_1) hisR ?_
  intro p e s m args below meth c s₁ Bd hml0 hP hK
  obtain ⟨rfl, hZ, hh⟩ := hP
  have hx := Bd.exec
  have hby := Bd.bytes
  have hml : c.maxLocals = 1 := hml0
  have hown : s.vm.findClass "com/example/violet_dye/violetdye/runtime/SummaryThrownPinLaw" = some m.cls := findClass_of_methodNamed Bd.named
  have hnm := (name_of_methodNamed Bd.named Bd.method).1
  have X0 : Stand p l e ({ frames := 0, cells := 0, slots := 0, locals := 0 } : Room) s m #[(.int p1)] below meth c s₁ [] 0 0 := Stand.of_body Bd
  have e0 : s₁.heap = h0 := by rw [← hh, Bd.state]; rfl
  have N0 := Fr.nil n0
  have pre0 : ∀ t, Steps p.tables e below (s₁.setTop (mkF m 0 #[.val (.int p1)] [])) t → Steps p.tables e below (s₁.setTop (entryFrame m #[(.int p1)] 1)) t := fun t k => castTop (ef_1 m p1) k
  obtain ⟨T2, X2, e2, st2⟩ := getS2 X0 hx hZ hown (host := "") (Or.inl (hw _ (List.mem_of_getElem? (i := 36) rfl))) Via.refl e0 S_LibraryCalls_Summary_AS_LIST (g := (mkF m 99 #[.val (.int p1)] [])) rfl (hb hby d1_99)
  obtain ⟨fs, hr, hrun, hended, hW, hsame⟩ := X2.leave (v := some (.ref wAl)) (fun h => by rw [Bd.returns] at h; cases h)
  refine ⟨_, _, pre0 _ ?_, hrun, hended, _, _, rfl, ?_, ⟨_, rfl⟩, hW, hsame.mono (by decide) (by decide)⟩
  · show Steps p.tables e below (s₁.setTop (mkF m 0 #[.val (.int p1)] [])) _
    refine XS.iloadN X0.here hx rfl (hb hby d1_0) rfl ?_
    show Steps p.tables e below (s₁.setTop (mkF m 1 #[.val (.int p1)] [(.int p1)])) _
    refine XS.ifYes X0.here hx rfl (pc0 := 1) (pc' := 8) rfl (hb hby d1_1) rfl ((if0 _ _).trans (feq hc1).2) (by decide) (by decide) ?_
    show Steps p.tables e below (s₁.setTop (mkF m 8 #[.val (.int p1)] [])) _
    refine XS.iloadN X0.here hx rfl (hb hby d1_8) rfl ?_
    show Steps p.tables e below (s₁.setTop (mkF m 9 #[.val (.int p1)] [(.int p1)])) _
    refine XS.iconst X0.here hx rfl (hb hby d1_9) ?_
    show Steps p.tables e below (s₁.setTop (mkF m 10 #[.val (.int p1)] [(.int (1 : Int32)), (.int p1)])) _
    refine XS.icmpYes X0.here hx rfl (pc0 := 10) (pc' := 17) rfl (hb hby d1_10) rfl (feq hc10).2 (by decide) (by decide) ?_
    show Steps p.tables e below (s₁.setTop (mkF m 17 #[.val (.int p1)] [])) _
    refine XS.iloadN X0.here hx rfl (hb hby d1_17) rfl ?_
    show Steps p.tables e below (s₁.setTop (mkF m 18 #[.val (.int p1)] [(.int p1)])) _
    refine XS.iconst X0.here hx rfl (hb hby d1_18) ?_
    show Steps p.tables e below (s₁.setTop (mkF m 19 #[.val (.int p1)] [(.int (2 : Int32)), (.int p1)])) _
    refine XS.icmpYes X0.here hx rfl (pc0 := 19) (pc' := 26) rfl (hb hby d1_19) rfl (feq hc19).2 (by decide) (by decide) ?_
    show Steps p.tables e below (s₁.setTop (mkF m 26 #[.val (.int p1)] [])) _
    refine XS.iloadN X0.here hx rfl (hb hby d1_26) rfl ?_
    show Steps p.tables e below (s₁.setTop (mkF m 27 #[.val (.int p1)] [(.int p1)])) _
    refine XS.iconst X0.here hx rfl (hb hby d1_27) ?_
    show Steps p.tables e below (s₁.setTop (mkF m 28 #[.val (.int p1)] [(.int (3 : Int32)), (.int p1)])) _
    refine XS.icmpYes X0.here hx rfl (pc0 := 28) (pc' := 35) rfl (hb hby d1_28) rfl (feq hc28).2 (by decide) (by decide) ?_
    show Steps p.tables e below (s₁.setTop (mkF m 35 #[.val (.int p1)] [])) _
    refine XS.iloadN X0.here hx rfl (hb hby d1_35) rfl ?_
    show Steps p.tables e below (s₁.setTop (mkF m 36 #[.val (.int p1)] [(.int p1)])) _
    refine XS.iconst X0.here hx rfl (hb hby d1_36) ?_
    show Steps p.tables e below (s₁.setTop (mkF m 37 #[.val (.int p1)] [(.int (4 : Int32)), (.int p1)])) _
    refine XS.icmpYes X0.here hx rfl (pc0 := 37) (pc' := 44) rfl (hb hby d1_37) rfl (feq hc37).2 (by decide) (by decide) ?_
    show Steps p.tables e below (s₁.setTop (mkF m 44 #[.val (.int p1)] [])) _
    refine XS.iloadN X0.here hx rfl (hb hby d1_44) rfl ?_
    show Steps p.tables e below (s₁.setTop (mkF m 45 #[.val (.int p1)] [(.int p1)])) _
    refine XS.iconst X0.here hx rfl (hb hby d1_45) ?_
    show Steps p.tables e below (s₁.setTop (mkF m 46 #[.val (.int p1)] [(.int (5 : Int32)), (.int p1)])) _
    refine XS.icmpYes X0.here hx rfl (pc0 := 46) (pc' := 53) rfl (hb hby d1_46) rfl (feq hc46).2 (by decide) (by decide) ?_
    show Steps p.tables e below (s₁.setTop (mkF m 53 #[.val (.int p1)] [])) _
    refine XS.iloadN X0.here hx rfl (hb hby d1_53) rfl ?_
    show Steps p.tables e below (s₁.setTop (mkF m 54 #[.val (.int p1)] [(.int p1)])) _
    refine XS.bipush X0.here hx rfl (hb hby d1_54) ?_
    show Steps p.tables e below (s₁.setTop (mkF m 56 #[.val (.int p1)] [(.int (6 : Int32)), (.int p1)])) _
    refine XS.icmpYes X0.here hx rfl (pc0 := 56) (pc' := 63) rfl (hb hby d1_56) rfl (feq hc56).2 (by decide) (by decide) ?_
    show Steps p.tables e below (s₁.setTop (mkF m 63 #[.val (.int p1)] [])) _
    refine XS.iloadN X0.here hx rfl (hb hby d1_63) rfl ?_
    show Steps p.tables e below (s₁.setTop (mkF m 64 #[.val (.int p1)] [(.int p1)])) _
    refine XS.bipush X0.here hx rfl (hb hby d1_64) ?_
    show Steps p.tables e below (s₁.setTop (mkF m 66 #[.val (.int p1)] [(.int (7 : Int32)), (.int p1)])) _
    refine XS.icmpYes X0.here hx rfl (pc0 := 66) (pc' := 73) rfl (hb hby d1_66) rfl (feq hc66).2 (by decide) (by decide) ?_
    show Steps p.tables e below (s₁.setTop (mkF m 73 #[.val (.int p1)] [])) _
    refine XS.iloadN X0.here hx rfl (hb hby d1_73) rfl ?_
    show Steps p.tables e below (s₁.setTop (mkF m 74 #[.val (.int p1)] [(.int p1)])) _
    refine XS.bipush X0.here hx rfl (hb hby d1_74) ?_
    show Steps p.tables e below (s₁.setTop (mkF m 76 #[.val (.int p1)] [(.int (8 : Int32)), (.int p1)])) _
    refine XS.icmpYes X0.here hx rfl (pc0 := 76) (pc' := 83) rfl (hb hby d1_76) rfl (feq hc76).2 (by decide) (by decide) ?_
    show Steps p.tables e below (s₁.setTop (mkF m 83 #[.val (.int p1)] [])) _
    refine XS.iloadN X0.here hx rfl (hb hby d1_83) rfl ?_
    show Steps p.tables e below (s₁.setTop (mkF m 84 #[.val (.int p1)] [(.int p1)])) _
    refine XS.bipush X0.here hx rfl (hb hby d1_84) ?_
    show Steps p.tables e below (s₁.setTop (mkF m 86 #[.val (.int p1)] [(.int (9 : Int32)), (.int p1)])) _
    refine XS.icmpYes X0.here hx rfl (pc0 := 86) (pc' := 93) rfl (hb hby d1_86) rfl (feq hc86).2 (by decide) (by decide) ?_
    show Steps p.tables e below (s₁.setTop (mkF m 93 #[.val (.int p1)] [])) _
    refine XS.iloadN X0.here hx rfl (hb hby d1_93) rfl ?_
    show Steps p.tables e below (s₁.setTop (mkF m 94 #[.val (.int p1)] [(.int p1)])) _
    refine XS.bipush X0.here hx rfl (hb hby d1_94) ?_
    show Steps p.tables e below (s₁.setTop (mkF m 96 #[.val (.int p1)] [(.int (10 : Int32)), (.int p1)])) _
    refine XS.icmpNo X0.here hx rfl (hb hby d1_96) rfl (teq hc96).2 ?_
    show Steps p.tables e below (s₁.setTop (mkF m 99 #[.val (.int p1)] [])) _
    refine st2 _ ?_
    show Steps p.tables e below (T2.setTop (mkF m 102 #[.val (.int p1)] [(.ref wAl)])) _
    jvm_step X2.here [X2.here.top, hx, (hb hby d1_102), X2.method', Bd.returns, Value.isRef, FieldType.isReference]
    first | (intro acts; rw [hr _ acts rfl rfl rfl]) | rw [hr _ _ rfl rfl rfl]
    exact Steps.refl _
  · show Q1_k10 Z p1 wAl h0 n0 _ T2.heap _
    rw [e2]
    exact ⟨rfl, N0, rfl⟩
theorem d1_103 : decode method_2_code 103 = .ok (.iload_n 0, 1) := by decide +kernel
theorem d1_104 : decode method_2_code 104 = .ok (.bipush 11, 2) := by decide +kernel
theorem d1_106 : decode method_2_code 106 = .ok (.if_icmp .ne 7, 3) := by decide +kernel
theorem d1_109 : decode method_2_code 109 = .ok (.getstatic 43, 3) := by decide +kernel
theorem d1_112 : decode method_2_code 112 = .ok (.areturn, 1) := by decide +kernel
def Q1_k11 (Z : State) (p1 : Int32) (wCo : Addr) (h0 : Heap) (n0 : Nat) (v : Option Value) (h : Heap) (L : List Loc) : Prop := v = some (.ref wCo) ∧ Fr n0 L ∧ h = h0
set_option maxRecDepth 65536 in
set_option maxHeartbeats 40000000 in
theorem rm1_k11 (l : Launch) (Z : State) (a0 : Array Value) (hw : ∀ d ∈ tables_1, d.before a0 Z = true) (ws : List Jvm.Cond) (p1 : Int32) (wCo : Addr) (h0 : Heap) (n0 : Nat) (Z0 : n0 ≤ h0.size) (S_LibraryCalls_Summary_COPY_OF : Sta Z h0 "com/example/violet_dye/violetdye/runtime/LibraryCalls$Summary" "COPY_OF" "Lcom/example/violet_dye/violetdye/runtime/LibraryCalls$Summary;" (.ref wCo)) (hc1 : ¬ (p1 = (0 : Int32))) (hc10 : ¬ (p1 = (1 : Int32))) (hc19 : ¬ (p1 = (2 : Int32))) (hc28 : ¬ (p1 = (3 : Int32))) (hc37 : ¬ (p1 = (4 : Int32))) (hc46 : ¬ (p1 = (5 : Int32))) (hc56 : ¬ (p1 = (6 : Int32))) (hc66 : ¬ (p1 = (7 : Int32))) (hc76 : ¬ (p1 = (8 : Int32))) (hc86 : ¬ (p1 = (9 : Int32))) (hc96 : ¬ (p1 = (10 : Int32))) (hc106 : p1 = (11 : Int32)) :
    MetFree l (⟨"com/example/violet_dye/violetdye/runtime/SummaryThrownPinLaw", "pick", "(I)Lcom/example/violet_dye/violetdye/runtime/LibraryCalls$Summary;"⟩ : MethodName) (head1 (Jvm.Cond.code (⟨"com/example/violet_dye/violetdye/runtime/SummaryThrownPinLaw", "pick", "(I)Lcom/example/violet_dye/violetdye/runtime/LibraryCalls$Summary;"⟩ : MethodName) method_2_code 1 (some (.object "com/example/violet_dye/violetdye/runtime/LibraryCalls$Summary")) :: ws) ({ frames := 0, cells := 0, slots := 0, locals := 0 } : Room)) (fun a U => a = #[(.int p1)] ∧ Z.Warmed39 U.vm ∧ U.heap = h0) (fun _ _ _ _ _ => True) (fun _ U o U' => ∃ v L, o = .returned v ∧ Q1_k11 Z p1 wCo h0 n0 v U'.heap L ∧ FrameEnd U o U' L ({ frames := 0, cells := 0, slots := 0, locals := 0 } : Room).cells ({ frames := 0, cells := 0, slots := 0, locals := 0 } : Room).slots) := by
  refine MetFree.of_bodySF (plainFor_of_name pn_1) hisR ?_
  intro p e s m args below meth c s₁ Bd hml0 hP hK
  obtain ⟨rfl, hZ, hh⟩ := hP
  have hx := Bd.exec
  have hby := Bd.bytes
  have hml : c.maxLocals = 1 := hml0
  have hown : s.vm.findClass "com/example/violet_dye/violetdye/runtime/SummaryThrownPinLaw" = some m.cls := findClass_of_methodNamed Bd.named
  have hnm := (name_of_methodNamed Bd.named Bd.method).1
  have X0 : Stand p l e ({ frames := 0, cells := 0, slots := 0, locals := 0 } : Room) s m #[(.int p1)] below meth c s₁ [] 0 0 := Stand.of_body Bd
  have e0 : s₁.heap = h0 := by rw [← hh, Bd.state]; rfl
  have N0 := Fr.nil n0
  have pre0 : ∀ t, Steps p.tables e below (s₁.setTop (mkF m 0 #[.val (.int p1)] [])) t → Steps p.tables e below (s₁.setTop (entryFrame m #[(.int p1)] 1)) t := fun t k => castTop (ef_1 m p1) k
  obtain ⟨T2, X2, e2, st2⟩ := getS2 X0 hx hZ hown (host := "") (Or.inl (hw _ (List.mem_of_getElem? (i := 32) rfl))) Via.refl e0 S_LibraryCalls_Summary_COPY_OF (g := (mkF m 109 #[.val (.int p1)] [])) rfl (hb hby d1_109)
  obtain ⟨fs, hr, hrun, hended, hW, hsame⟩ := X2.leave (v := some (.ref wCo)) (fun h => by rw [Bd.returns] at h; cases h)
  refine ⟨_, _, pre0 _ ?_, hrun, hended, _, _, rfl, ?_, ⟨_, rfl⟩, hW, hsame.mono (by decide) (by decide)⟩
  · show Steps p.tables e below (s₁.setTop (mkF m 0 #[.val (.int p1)] [])) _
    refine XS.iloadN X0.here hx rfl (hb hby d1_0) rfl ?_
    show Steps p.tables e below (s₁.setTop (mkF m 1 #[.val (.int p1)] [(.int p1)])) _
    refine XS.ifYes X0.here hx rfl (pc0 := 1) (pc' := 8) rfl (hb hby d1_1) rfl ((if0 _ _).trans (feq hc1).2) (by decide) (by decide) ?_
    show Steps p.tables e below (s₁.setTop (mkF m 8 #[.val (.int p1)] [])) _
    refine XS.iloadN X0.here hx rfl (hb hby d1_8) rfl ?_
    show Steps p.tables e below (s₁.setTop (mkF m 9 #[.val (.int p1)] [(.int p1)])) _
    refine XS.iconst X0.here hx rfl (hb hby d1_9) ?_
    show Steps p.tables e below (s₁.setTop (mkF m 10 #[.val (.int p1)] [(.int (1 : Int32)), (.int p1)])) _
    refine XS.icmpYes X0.here hx rfl (pc0 := 10) (pc' := 17) rfl (hb hby d1_10) rfl (feq hc10).2 (by decide) (by decide) ?_
    show Steps p.tables e below (s₁.setTop (mkF m 17 #[.val (.int p1)] [])) _
    refine XS.iloadN X0.here hx rfl (hb hby d1_17) rfl ?_
    show Steps p.tables e below (s₁.setTop (mkF m 18 #[.val (.int p1)] [(.int p1)])) _
    refine XS.iconst X0.here hx rfl (hb hby d1_18) ?_
    show Steps p.tables e below (s₁.setTop (mkF m 19 #[.val (.int p1)] [(.int (2 : Int32)), (.int p1)])) _
    refine XS.icmpYes X0.here hx rfl (pc0 := 19) (pc' := 26) rfl (hb hby d1_19) rfl (feq hc19).2 (by decide) (by decide) ?_
    show Steps p.tables e below (s₁.setTop (mkF m 26 #[.val (.int p1)] [])) _
    refine XS.iloadN X0.here hx rfl (hb hby d1_26) rfl ?_
    show Steps p.tables e below (s₁.setTop (mkF m 27 #[.val (.int p1)] [(.int p1)])) _
    refine XS.iconst X0.here hx rfl (hb hby d1_27) ?_
    show Steps p.tables e below (s₁.setTop (mkF m 28 #[.val (.int p1)] [(.int (3 : Int32)), (.int p1)])) _
    refine XS.icmpYes X0.here hx rfl (pc0 := 28) (pc' := 35) rfl (hb hby d1_28) rfl (feq hc28).2 (by decide) (by decide) ?_
    show Steps p.tables e below (s₁.setTop (mkF m 35 #[.val (.int p1)] [])) _
    refine XS.iloadN X0.here hx rfl (hb hby d1_35) rfl ?_
    show Steps p.tables e below (s₁.setTop (mkF m 36 #[.val (.int p1)] [(.int p1)])) _
    refine XS.iconst X0.here hx rfl (hb hby d1_36) ?_
    show Steps p.tables e below (s₁.setTop (mkF m 37 #[.val (.int p1)] [(.int (4 : Int32)), (.int p1)])) _
    refine XS.icmpYes X0.here hx rfl (pc0 := 37) (pc' := 44) rfl (hb hby d1_37) rfl (feq hc37).2 (by decide) (by decide) ?_
    show Steps p.tables e below (s₁.setTop (mkF m 44 #[.val (.int p1)] [])) _
    refine XS.iloadN X0.here hx rfl (hb hby d1_44) rfl ?_
    show Steps p.tables e below (s₁.setTop (mkF m 45 #[.val (.int p1)] [(.int p1)])) _
    refine XS.iconst X0.here hx rfl (hb hby d1_45) ?_
    show Steps p.tables e below (s₁.setTop (mkF m 46 #[.val (.int p1)] [(.int (5 : Int32)), (.int p1)])) _
    refine XS.icmpYes X0.here hx rfl (pc0 := 46) (pc' := 53) rfl (hb hby d1_46) rfl (feq hc46).2 (by decide) (by decide) ?_
    show Steps p.tables e below (s₁.setTop (mkF m 53 #[.val (.int p1)] [])) _
    refine XS.iloadN X0.here hx rfl (hb hby d1_53) rfl ?_
    show Steps p.tables e below (s₁.setTop (mkF m 54 #[.val (.int p1)] [(.int p1)])) _
    refine XS.bipush X0.here hx rfl (hb hby d1_54) ?_
    show Steps p.tables e below (s₁.setTop (mkF m 56 #[.val (.int p1)] [(.int (6 : Int32)), (.int p1)])) _
    refine XS.icmpYes X0.here hx rfl (pc0 := 56) (pc' := 63) rfl (hb hby d1_56) rfl (feq hc56).2 (by decide) (by decide) ?_
    show Steps p.tables e below (s₁.setTop (mkF m 63 #[.val (.int p1)] [])) _
    refine XS.iloadN X0.here hx rfl (hb hby d1_63) rfl ?_
    show Steps p.tables e below (s₁.setTop (mkF m 64 #[.val (.int p1)] [(.int p1)])) _
    refine XS.bipush X0.here hx rfl (hb hby d1_64) ?_
    show Steps p.tables e below (s₁.setTop (mkF m 66 #[.val (.int p1)] [(.int (7 : Int32)), (.int p1)])) _
    refine XS.icmpYes X0.here hx rfl (pc0 := 66) (pc' := 73) rfl (hb hby d1_66) rfl (feq hc66).2 (by decide) (by decide) ?_
    show Steps p.tables e below (s₁.setTop (mkF m 73 #[.val (.int p1)] [])) _
    refine XS.iloadN X0.here hx rfl (hb hby d1_73) rfl ?_
    show Steps p.tables e below (s₁.setTop (mkF m 74 #[.val (.int p1)] [(.int p1)])) _
    refine XS.bipush X0.here hx rfl (hb hby d1_74) ?_
    show Steps p.tables e below (s₁.setTop (mkF m 76 #[.val (.int p1)] [(.int (8 : Int32)), (.int p1)])) _
    refine XS.icmpYes X0.here hx rfl (pc0 := 76) (pc' := 83) rfl (hb hby d1_76) rfl (feq hc76).2 (by decide) (by decide) ?_
    show Steps p.tables e below (s₁.setTop (mkF m 83 #[.val (.int p1)] [])) _
    refine XS.iloadN X0.here hx rfl (hb hby d1_83) rfl ?_
    show Steps p.tables e below (s₁.setTop (mkF m 84 #[.val (.int p1)] [(.int p1)])) _
    refine XS.bipush X0.here hx rfl (hb hby d1_84) ?_
    show Steps p.tables e below (s₁.setTop (mkF m 86 #[.val (.int p1)] [(.int (9 : Int32)), (.int p1)])) _
    refine XS.icmpYes X0.here hx rfl (pc0 := 86) (pc' := 93) rfl (hb hby d1_86) rfl (feq hc86).2 (by decide) (by decide) ?_
    show Steps p.tables e below (s₁.setTop (mkF m 93 #[.val (.int p1)] [])) _
    refine XS.iloadN X0.here hx rfl (hb hby d1_93) rfl ?_
    show Steps p.tables e below (s₁.setTop (mkF m 94 #[.val (.int p1)] [(.int p1)])) _
    refine XS.bipush X0.here hx rfl (hb hby d1_94) ?_
    show Steps p.tables e below (s₁.setTop (mkF m 96 #[.val (.int p1)] [(.int (10 : Int32)), (.int p1)])) _
    refine XS.icmpYes X0.here hx rfl (pc0 := 96) (pc' := 103) rfl (hb hby d1_96) rfl (feq hc96).2 (by decide) (by decide) ?_
    show Steps p.tables e below (s₁.setTop (mkF m 103 #[.val (.int p1)] [])) _
    refine XS.iloadN X0.here hx rfl (hb hby d1_103) rfl ?_
    show Steps p.tables e below (s₁.setTop (mkF m 104 #[.val (.int p1)] [(.int p1)])) _
    refine XS.bipush X0.here hx rfl (hb hby d1_104) ?_
    show Steps p.tables e below (s₁.setTop (mkF m 106 #[.val (.int p1)] [(.int (11 : Int32)), (.int p1)])) _
    refine XS.icmpNo X0.here hx rfl (hb hby d1_106) rfl (teq hc106).2 ?_
    show Steps p.tables e below (s₁.setTop (mkF m 109 #[.val (.int p1)] [])) _
    refine st2 _ ?_
    show Steps p.tables e below (T2.setTop (mkF m 112 #[.val (.int p1)] [(.ref wCo)])) _
    jvm_step X2.here [X2.here.top, hx, (hb hby d1_112), X2.method', Bd.returns, Value.isRef, FieldType.isReference]
    first | (intro acts; rw [hr _ acts rfl rfl rfl]) | rw [hr _ _ rfl rfl rfl]
    exact Steps.refl _
  · show Q1_k11 Z p1 wCo h0 n0 _ T2.heap _
    rw [e2]
    exact ⟨rfl, N0, rfl⟩
theorem d1_113 : decode method_2_code 113 = .ok (.getstatic 46, 3) := by decide +kernel
theorem d1_116 : decode method_2_code 116 = .ok (.areturn, 1) := by decide +kernel
def Q1_k12 (Z : State) (p1 : Int32) (wVo : Addr) (h0 : Heap) (n0 : Nat) (v : Option Value) (h : Heap) (L : List Loc) : Prop := v = some (.ref wVo) ∧ Fr n0 L ∧ h = h0
set_option maxRecDepth 65536 in
set_option maxHeartbeats 40000000 in
theorem rm1_k12 (l : Launch) (Z : State) (a0 : Array Value) (hw : ∀ d ∈ tables_1, d.before a0 Z = true) (ws : List Jvm.Cond) (p1 : Int32) (wVo : Addr) (h0 : Heap) (n0 : Nat) (Z0 : n0 ≤ h0.size) (S_LibraryCalls_Summary_VIEW_OF : Sta Z h0 "com/example/violet_dye/violetdye/runtime/LibraryCalls$Summary" "VIEW_OF" "Lcom/example/violet_dye/violetdye/runtime/LibraryCalls$Summary;" (.ref wVo)) (hc1 : ¬ (p1 = (0 : Int32))) (hc10 : ¬ (p1 = (1 : Int32))) (hc19 : ¬ (p1 = (2 : Int32))) (hc28 : ¬ (p1 = (3 : Int32))) (hc37 : ¬ (p1 = (4 : Int32))) (hc46 : ¬ (p1 = (5 : Int32))) (hc56 : ¬ (p1 = (6 : Int32))) (hc66 : ¬ (p1 = (7 : Int32))) (hc76 : ¬ (p1 = (8 : Int32))) (hc86 : ¬ (p1 = (9 : Int32))) (hc96 : ¬ (p1 = (10 : Int32))) (hc106 : ¬ (p1 = (11 : Int32))) :
    MetFree l (⟨"com/example/violet_dye/violetdye/runtime/SummaryThrownPinLaw", "pick", "(I)Lcom/example/violet_dye/violetdye/runtime/LibraryCalls$Summary;"⟩ : MethodName) (head1 (Jvm.Cond.code (⟨"com/example/violet_dye/violetdye/runtime/SummaryThrownPinLaw", "pick", "(I)Lcom/example/violet_dye/violetdye/runtime/LibraryCalls$Summary;"⟩ : MethodName) method_2_code 1 (some (.object "com/example/violet_dye/violetdye/runtime/LibraryCalls$Summary")) :: ws) ({ frames := 0, cells := 0, slots := 0, locals := 0 } : Room)) (fun a U => a = #[(.int p1)] ∧ Z.Warmed39 U.vm ∧ U.heap = h0) (fun _ _ _ _ _ => True) (fun _ U o U' => ∃ v L, o = .returned v ∧ Q1_k12 Z p1 wVo h0 n0 v U'.heap L ∧ FrameEnd U o U' L ({ frames := 0, cells := 0, slots := 0, locals := 0 } : Room).cells ({ frames := 0, cells := 0, slots := 0, locals := 0 } : Room).slots) := by
  refine MetFree.of_bodySF (plainFor_of_name pn_1) hisR ?_
  intro p e s m args below meth c s₁ Bd hml0 hP hK
  obtain ⟨rfl, hZ, hh⟩ := hP
  have hx := Bd.exec
  have hby := Bd.bytes
  have hml : c.maxLocals = 1 := hml0
  have hown : s.vm.findClass "com/example/violet_dye/violetdye/runtime/SummaryThrownPinLaw" = some m.cls := findClass_of_methodNamed Bd.named
  have hnm := (name_of_methodNamed Bd.named Bd.method).1
  have X0 : Stand p l e ({ frames := 0, cells := 0, slots := 0, locals := 0 } : Room) s m #[(.int p1)] below meth c s₁ [] 0 0 := Stand.of_body Bd
  have e0 : s₁.heap = h0 := by rw [← hh, Bd.state]; rfl
  have N0 := Fr.nil n0
  have pre0 : ∀ t, Steps p.tables e below (s₁.setTop (mkF m 0 #[.val (.int p1)] [])) t → Steps p.tables e below (s₁.setTop (entryFrame m #[(.int p1)] 1)) t := fun t k => castTop (ef_1 m p1) k
  obtain ⟨T2, X2, e2, st2⟩ := getS2 X0 hx hZ hown (host := "") (Or.inl (hw _ (List.mem_of_getElem? (i := 38) rfl))) Via.refl e0 S_LibraryCalls_Summary_VIEW_OF (g := (mkF m 113 #[.val (.int p1)] [])) rfl (hb hby d1_113)
  obtain ⟨fs, hr, hrun, hended, hW, hsame⟩ := X2.leave (v := some (.ref wVo)) (fun h => by rw [Bd.returns] at h; cases h)
  refine ⟨_, _, pre0 _ ?_, hrun, hended, _, _, rfl, ?_, ⟨_, rfl⟩, hW, hsame.mono (by decide) (by decide)⟩
  · show Steps p.tables e below (s₁.setTop (mkF m 0 #[.val (.int p1)] [])) _
    refine XS.iloadN X0.here hx rfl (hb hby d1_0) rfl ?_
    show Steps p.tables e below (s₁.setTop (mkF m 1 #[.val (.int p1)] [(.int p1)])) _
    refine XS.ifYes X0.here hx rfl (pc0 := 1) (pc' := 8) rfl (hb hby d1_1) rfl ((if0 _ _).trans (feq hc1).2) (by decide) (by decide) ?_
    show Steps p.tables e below (s₁.setTop (mkF m 8 #[.val (.int p1)] [])) _
    refine XS.iloadN X0.here hx rfl (hb hby d1_8) rfl ?_
    show Steps p.tables e below (s₁.setTop (mkF m 9 #[.val (.int p1)] [(.int p1)])) _
    refine XS.iconst X0.here hx rfl (hb hby d1_9) ?_
    show Steps p.tables e below (s₁.setTop (mkF m 10 #[.val (.int p1)] [(.int (1 : Int32)), (.int p1)])) _
    refine XS.icmpYes X0.here hx rfl (pc0 := 10) (pc' := 17) rfl (hb hby d1_10) rfl (feq hc10).2 (by decide) (by decide) ?_
    show Steps p.tables e below (s₁.setTop (mkF m 17 #[.val (.int p1)] [])) _
    refine XS.iloadN X0.here hx rfl (hb hby d1_17) rfl ?_
    show Steps p.tables e below (s₁.setTop (mkF m 18 #[.val (.int p1)] [(.int p1)])) _
    refine XS.iconst X0.here hx rfl (hb hby d1_18) ?_
    show Steps p.tables e below (s₁.setTop (mkF m 19 #[.val (.int p1)] [(.int (2 : Int32)), (.int p1)])) _
    refine XS.icmpYes X0.here hx rfl (pc0 := 19) (pc' := 26) rfl (hb hby d1_19) rfl (feq hc19).2 (by decide) (by decide) ?_
    show Steps p.tables e below (s₁.setTop (mkF m 26 #[.val (.int p1)] [])) _
    refine XS.iloadN X0.here hx rfl (hb hby d1_26) rfl ?_
    show Steps p.tables e below (s₁.setTop (mkF m 27 #[.val (.int p1)] [(.int p1)])) _
    refine XS.iconst X0.here hx rfl (hb hby d1_27) ?_
    show Steps p.tables e below (s₁.setTop (mkF m 28 #[.val (.int p1)] [(.int (3 : Int32)), (.int p1)])) _
    refine XS.icmpYes X0.here hx rfl (pc0 := 28) (pc' := 35) rfl (hb hby d1_28) rfl (feq hc28).2 (by decide) (by decide) ?_
    show Steps p.tables e below (s₁.setTop (mkF m 35 #[.val (.int p1)] [])) _
    refine XS.iloadN X0.here hx rfl (hb hby d1_35) rfl ?_
    show Steps p.tables e below (s₁.setTop (mkF m 36 #[.val (.int p1)] [(.int p1)])) _
    refine XS.iconst X0.here hx rfl (hb hby d1_36) ?_
    show Steps p.tables e below (s₁.setTop (mkF m 37 #[.val (.int p1)] [(.int (4 : Int32)), (.int p1)])) _
    refine XS.icmpYes X0.here hx rfl (pc0 := 37) (pc' := 44) rfl (hb hby d1_37) rfl (feq hc37).2 (by decide) (by decide) ?_
    show Steps p.tables e below (s₁.setTop (mkF m 44 #[.val (.int p1)] [])) _
    refine XS.iloadN X0.here hx rfl (hb hby d1_44) rfl ?_
    show Steps p.tables e below (s₁.setTop (mkF m 45 #[.val (.int p1)] [(.int p1)])) _
    refine XS.iconst X0.here hx rfl (hb hby d1_45) ?_
    show Steps p.tables e below (s₁.setTop (mkF m 46 #[.val (.int p1)] [(.int (5 : Int32)), (.int p1)])) _
    refine XS.icmpYes X0.here hx rfl (pc0 := 46) (pc' := 53) rfl (hb hby d1_46) rfl (feq hc46).2 (by decide) (by decide) ?_
    show Steps p.tables e below (s₁.setTop (mkF m 53 #[.val (.int p1)] [])) _
    refine XS.iloadN X0.here hx rfl (hb hby d1_53) rfl ?_
    show Steps p.tables e below (s₁.setTop (mkF m 54 #[.val (.int p1)] [(.int p1)])) _
    refine XS.bipush X0.here hx rfl (hb hby d1_54) ?_
    show Steps p.tables e below (s₁.setTop (mkF m 56 #[.val (.int p1)] [(.int (6 : Int32)), (.int p1)])) _
    refine XS.icmpYes X0.here hx rfl (pc0 := 56) (pc' := 63) rfl (hb hby d1_56) rfl (feq hc56).2 (by decide) (by decide) ?_
    show Steps p.tables e below (s₁.setTop (mkF m 63 #[.val (.int p1)] [])) _
    refine XS.iloadN X0.here hx rfl (hb hby d1_63) rfl ?_
    show Steps p.tables e below (s₁.setTop (mkF m 64 #[.val (.int p1)] [(.int p1)])) _
    refine XS.bipush X0.here hx rfl (hb hby d1_64) ?_
    show Steps p.tables e below (s₁.setTop (mkF m 66 #[.val (.int p1)] [(.int (7 : Int32)), (.int p1)])) _
    refine XS.icmpYes X0.here hx rfl (pc0 := 66) (pc' := 73) rfl (hb hby d1_66) rfl (feq hc66).2 (by decide) (by decide) ?_
    show Steps p.tables e below (s₁.setTop (mkF m 73 #[.val (.int p1)] [])) _
    refine XS.iloadN X0.here hx rfl (hb hby d1_73) rfl ?_
    show Steps p.tables e below (s₁.setTop (mkF m 74 #[.val (.int p1)] [(.int p1)])) _
    refine XS.bipush X0.here hx rfl (hb hby d1_74) ?_
    show Steps p.tables e below (s₁.setTop (mkF m 76 #[.val (.int p1)] [(.int (8 : Int32)), (.int p1)])) _
    refine XS.icmpYes X0.here hx rfl (pc0 := 76) (pc' := 83) rfl (hb hby d1_76) rfl (feq hc76).2 (by decide) (by decide) ?_
    show Steps p.tables e below (s₁.setTop (mkF m 83 #[.val (.int p1)] [])) _
    refine XS.iloadN X0.here hx rfl (hb hby d1_83) rfl ?_
    show Steps p.tables e below (s₁.setTop (mkF m 84 #[.val (.int p1)] [(.int p1)])) _
    refine XS.bipush X0.here hx rfl (hb hby d1_84) ?_
    show Steps p.tables e below (s₁.setTop (mkF m 86 #[.val (.int p1)] [(.int (9 : Int32)), (.int p1)])) _
    refine XS.icmpYes X0.here hx rfl (pc0 := 86) (pc' := 93) rfl (hb hby d1_86) rfl (feq hc86).2 (by decide) (by decide) ?_
    show Steps p.tables e below (s₁.setTop (mkF m 93 #[.val (.int p1)] [])) _
    refine XS.iloadN X0.here hx rfl (hb hby d1_93) rfl ?_
    show Steps p.tables e below (s₁.setTop (mkF m 94 #[.val (.int p1)] [(.int p1)])) _
    refine XS.bipush X0.here hx rfl (hb hby d1_94) ?_
    show Steps p.tables e below (s₁.setTop (mkF m 96 #[.val (.int p1)] [(.int (10 : Int32)), (.int p1)])) _
    refine XS.icmpYes X0.here hx rfl (pc0 := 96) (pc' := 103) rfl (hb hby d1_96) rfl (feq hc96).2 (by decide) (by decide) ?_
    show Steps p.tables e below (s₁.setTop (mkF m 103 #[.val (.int p1)] [])) _
    refine XS.iloadN X0.here hx rfl (hb hby d1_103) rfl ?_
    show Steps p.tables e below (s₁.setTop (mkF m 104 #[.val (.int p1)] [(.int p1)])) _
    refine XS.bipush X0.here hx rfl (hb hby d1_104) ?_
    show Steps p.tables e below (s₁.setTop (mkF m 106 #[.val (.int p1)] [(.int (11 : Int32)), (.int p1)])) _
    refine XS.icmpYes X0.here hx rfl (pc0 := 106) (pc' := 113) rfl (hb hby d1_106) rfl (feq hc106).2 (by decide) (by decide) ?_
    show Steps p.tables e below (s₁.setTop (mkF m 113 #[.val (.int p1)] [])) _
    refine st2 _ ?_
    show Steps p.tables e below (T2.setTop (mkF m 116 #[.val (.int p1)] [(.ref wVo)])) _
    jvm_step X2.here [X2.here.top, hx, (hb hby d1_116), X2.method', Bd.returns, Value.isRef, FieldType.isReference]
    first | (intro acts; rw [hr _ acts rfl rfl rfl]) | rw [hr _ _ rfl rfl rfl]
    exact Steps.refl _
  · show Q1_k12 Z p1 wVo h0 n0 _ T2.heap _
    rw [e2]
    exact ⟨rfl, N0, rfl⟩
theorem d2_0 : decode prog_28_method_4_code 0 = .ok (.aload_n 0, 1) := by decide +kernel
theorem d2_1 : decode prog_28_method_4_code 1 = .ok (.getstatic 3, 3) := by decide +kernel
theorem d2_4 : decode prog_28_method_4_code 4 = .ok (.if_acmp .eq 24, 3) := by decide +kernel
theorem d2_28 : decode prog_28_method_4_code 28 = .ok (.getstatic 3, 3) := by decide +kernel
theorem d2_31 : decode prog_28_method_4_code 31 = .ok (.astore_n 1, 1) := by decide +kernel
theorem d2_32 : decode prog_28_method_4_code 32 = .ok (.goto 19, 3) := by decide +kernel
theorem d2_51 : decode prog_28_method_4_code 51 = .ok (.aload_n 1, 1) := by decide +kernel
theorem d2_52 : decode prog_28_method_4_code 52 = .ok (.areturn, 1) := by decide +kernel
theorem pn_2 : plainName "com/example/violet_dye/violetdye/runtime/LibraryCalls$Summary" = true := by first | (simp [plainName, overriddenIn]; done) | decide +kernel
theorem ef_2 (m : MethodId) (x0 : Addr) : entryFrame m #[(.ref x0)] 2 = mkF m 0 #[.val (.ref x0), .unset] [] := by first | (simp [entryFrame, mkF, argsToLocals, Value.category]; done) | rfl
def Q2_R (Z : State) (a1 : Addr) (wR : Addr) (h0 : Heap) (n0 : Nat) (v : Option Value) (h : Heap) (L : List Loc) : Prop := v = some (.ref wR) ∧ Fr n0 L ∧ h = h0
set_option maxRecDepth 65536 in
set_option maxHeartbeats 40000000 in
theorem rm2_R (l : Launch) (Z : State) (a0 : Array Value) (hw : ∀ d ∈ tables_1, d.before a0 Z = true) (ws : List Jvm.Cond) (a1 : Addr) (wR : Addr) (h0 : Heap) (n0 : Nat) (Z0 : n0 ≤ h0.size) (S_LibraryCalls_Summary_READ : Sta Z h0 "com/example/violet_dye/violetdye/runtime/LibraryCalls$Summary" "READ" "Lcom/example/violet_dye/violetdye/runtime/LibraryCalls$Summary;" (.ref wR)) (ha4 : a1 = wR) :
    MetFree l (⟨"com/example/violet_dye/violetdye/runtime/LibraryCalls$Summary", "thrown", "()Lcom/example/violet_dye/violetdye/runtime/LibraryCalls$Summary;"⟩ : MethodName) (head1 (Jvm.Cond.code (⟨"com/example/violet_dye/violetdye/runtime/LibraryCalls$Summary", "thrown", "()Lcom/example/violet_dye/violetdye/runtime/LibraryCalls$Summary;"⟩ : MethodName) prog_28_method_4_code 2 (some (.object "com/example/violet_dye/violetdye/runtime/LibraryCalls$Summary")) :: ws) ({ frames := 0, cells := 0, slots := 0, locals := 0 } : Room)) (fun a U => a = #[(.ref a1)] ∧ Z.Warmed39 U.vm ∧ U.heap = h0) (fun _ _ _ _ _ => True) (fun _ U o U' => ∃ v L, o = .returned v ∧ Q2_R Z a1 wR h0 n0 v U'.heap L ∧ FrameEnd U o U' L ({ frames := 0, cells := 0, slots := 0, locals := 0 } : Room).cells ({ frames := 0, cells := 0, slots := 0, locals := 0 } : Room).slots) := by
  refine MetFree.of_bodySF (plainFor_of_name pn_2) hisR ?_
  intro p e s m args below meth c s₁ Bd hml0 hP hK
  obtain ⟨rfl, hZ, hh⟩ := hP
  have hx := Bd.exec
  have hby := Bd.bytes
  have hml : c.maxLocals = 2 := hml0
  have hown : s.vm.findClass "com/example/violet_dye/violetdye/runtime/LibraryCalls$Summary" = some m.cls := findClass_of_methodNamed Bd.named
  have hnm := (name_of_methodNamed Bd.named Bd.method).1
  have X0 : Stand p l e ({ frames := 0, cells := 0, slots := 0, locals := 0 } : Room) s m #[(.ref a1)] below meth c s₁ [] 0 0 := Stand.of_body Bd
  have e0 : s₁.heap = h0 := by rw [← hh, Bd.state]; rfl
  have N0 := Fr.nil n0
  have pre0 : ∀ t, Steps p.tables e below (s₁.setTop (mkF m 0 #[.val (.ref a1), .unset] [])) t → Steps p.tables e below (s₁.setTop (entryFrame m #[(.ref a1)] 2)) t := fun t k => castTop (ef_2 m a1) k
  obtain ⟨T2, X2, e2, st2⟩ := getS2 X0 hx hZ hown (host := "") (Or.inl (hw _ (List.mem_of_getElem? (i := 13) rfl))) Via.refl e0 S_LibraryCalls_Summary_READ (g := (mkF m 1 #[.val (.ref a1), .unset] [(.ref a1)])) rfl (hb hby d2_1)
  obtain ⟨T3, X3, e3, st3⟩ := getS2 X2 hx hZ hown (host := "") (Or.inl (hw _ (List.mem_of_getElem? (i := 13) rfl))) Via.refl e2 S_LibraryCalls_Summary_READ (g := (mkF m 28 #[.val (.ref a1), .unset] [])) rfl (hb hby d2_28)
  obtain ⟨fs, hr, hrun, hended, hW, hsame⟩ := X3.leave (v := some (.ref wR)) (fun h => by rw [Bd.returns] at h; cases h)
  refine ⟨_, _, pre0 _ ?_, hrun, hended, _, _, rfl, ?_, ⟨_, rfl⟩, hW, hsame.mono (by decide) (by decide)⟩
  · show Steps p.tables e below (s₁.setTop (mkF m 0 #[.val (.ref a1), .unset] [])) _
    refine XS.aloadN X0.here hx rfl (hb hby d2_0) rfl rfl ?_
    show Steps p.tables e below (s₁.setTop (mkF m 1 #[.val (.ref a1), .unset] [(.ref a1)])) _
    refine st2 _ ?_
    show Steps p.tables e below (T2.setTop (mkF m 4 #[.val (.ref a1), .unset] [(.ref wR), (.ref a1)])) _
    refine Jvm.RoadKit.acmp (g := (mkF m 4 #[.val (.ref a1), .unset] [(.ref wR), (.ref a1)])) X2 hx rfl rfl rfl (pc0 := 4) (pc' := 28) (same := true) rfl (hb hby d2_4) rfl (decide_eq_true (congrArg Value.ref ha4)) (by decide) (by decide) ?_
    show Steps p.tables e below (T2.setTop (mkF m 28 #[.val (.ref a1), .unset] [])) _
    refine st3 _ ?_
    show Steps p.tables e below (T3.setTop (mkF m 31 #[.val (.ref a1), .unset] [(.ref wR)])) _
    refine XS.astoreN X3.here hx rfl (hb hby d2_31) rfl rfl (l' := #[.val (.ref a1), .val (.ref wR)]) rfl ?_
    show Steps p.tables e below (T3.setTop (mkF m 32 #[.val (.ref a1), .val (.ref wR)] [])) _
    refine XS.goto X3.here hx rfl (pc0 := 32) (pc' := 51) rfl (hb hby d2_32) (by decide) (by decide) ?_
    show Steps p.tables e below (T3.setTop (mkF m 51 #[.val (.ref a1), .val (.ref wR)] [])) _
    refine XS.aloadN X3.here hx rfl (hb hby d2_51) rfl rfl ?_
    show Steps p.tables e below (T3.setTop (mkF m 52 #[.val (.ref a1), .val (.ref wR)] [(.ref wR)])) _
    jvm_step X3.here [X3.here.top, hx, (hb hby d2_52), X3.method', Bd.returns, Value.isRef, FieldType.isReference]
    first | (intro acts; rw [hr _ acts rfl rfl rfl]) | rw [hr _ _ rfl rfl rfl]
    exact Steps.refl _
  · show Q2_R Z a1 wR h0 n0 _ T3.heap _
    rw [e3]
    exact ⟨rfl, N0, rfl⟩
theorem d2_7 : decode prog_28_method_4_code 7 = .ok (.aload_n 0, 1) := by decide +kernel
theorem d2_8 : decode prog_28_method_4_code 8 = .ok (.getstatic 7, 3) := by decide +kernel
theorem d2_11 : decode prog_28_method_4_code 11 = .ok (.if_acmp .eq 17, 3) := by decide +kernel
def Q2_E (Z : State) (a1 : Addr) (wR : Addr) (wE : Addr) (h0 : Heap) (n0 : Nat) (v : Option Value) (h : Heap) (L : List Loc) : Prop := v = some (.ref wR) ∧ Fr n0 L ∧ h = h0
set_option maxRecDepth 65536 in
set_option maxHeartbeats 40000000 in
theorem rm2_E (l : Launch) (Z : State) (a0 : Array Value) (hw : ∀ d ∈ tables_1, d.before a0 Z = true) (ws : List Jvm.Cond) (a1 : Addr) (wR : Addr) (wE : Addr) (h0 : Heap) (n0 : Nat) (Z0 : n0 ≤ h0.size) (S_LibraryCalls_Summary_READ : Sta Z h0 "com/example/violet_dye/violetdye/runtime/LibraryCalls$Summary" "READ" "Lcom/example/violet_dye/violetdye/runtime/LibraryCalls$Summary;" (.ref wR)) (S_LibraryCalls_Summary_ELEMENT : Sta Z h0 "com/example/violet_dye/violetdye/runtime/LibraryCalls$Summary" "ELEMENT" "Lcom/example/violet_dye/violetdye/runtime/LibraryCalls$Summary;" (.ref wE)) (ha4 : ¬ (a1 = wR)) (ha11 : a1 = wE) :
    MetFree l (⟨"com/example/violet_dye/violetdye/runtime/LibraryCalls$Summary", "thrown", "()Lcom/example/violet_dye/violetdye/runtime/LibraryCalls$Summary;"⟩ : MethodName) (head1 (Jvm.Cond.code (⟨"com/example/violet_dye/violetdye/runtime/LibraryCalls$Summary", "thrown", "()Lcom/example/violet_dye/violetdye/runtime/LibraryCalls$Summary;"⟩ : MethodName) prog_28_method_4_code 2 (some (.object "com/example/violet_dye/violetdye/runtime/LibraryCalls$Summary")) :: ws) ({ frames := 0, cells := 0, slots := 0, locals := 0 } : Room)) (fun a U => a = #[(.ref a1)] ∧ Z.Warmed39 U.vm ∧ U.heap = h0) (fun _ _ _ _ _ => True) (fun _ U o U' => ∃ v L, o = .returned v ∧ Q2_E Z a1 wR wE h0 n0 v U'.heap L ∧ FrameEnd U o U' L ({ frames := 0, cells := 0, slots := 0, locals := 0 } : Room).cells ({ frames := 0, cells := 0, slots := 0, locals := 0 } : Room).slots) := by
  refine MetFree.of_bodySF (plainFor_of_name pn_2) hisR ?_
  intro p e s m args below meth c s₁ Bd hml0 hP hK
  obtain ⟨rfl, hZ, hh⟩ := hP
  have hx := Bd.exec
  have hby := Bd.bytes
  have hml : c.maxLocals = 2 := hml0
  have hown : s.vm.findClass "com/example/violet_dye/violetdye/runtime/LibraryCalls$Summary" = some m.cls := findClass_of_methodNamed Bd.named
  have hnm := (name_of_methodNamed Bd.named Bd.method).1
  have X0 : Stand p l e ({ frames := 0, cells := 0, slots := 0, locals := 0 } : Room) s m #[(.ref a1)] below meth c s₁ [] 0 0 := Stand.of_body Bd
  have e0 : s₁.heap = h0 := by rw [← hh, Bd.state]; rfl
  have N0 := Fr.nil n0
  have pre0 : ∀ t, Steps p.tables e below (s₁.setTop (mkF m 0 #[.val (.ref a1), .unset] [])) t → Steps p.tables e below (s₁.setTop (entryFrame m #[(.ref a1)] 2)) t := fun t k => castTop (ef_2 m a1) k
  obtain ⟨T2, X2, e2, st2⟩ := getS2 X0 hx hZ hown (host := "") (Or.inl (hw _ (List.mem_of_getElem? (i := 13) rfl))) Via.refl e0 S_LibraryCalls_Summary_READ (g := (mkF m 1 #[.val (.ref a1), .unset] [(.ref a1)])) rfl (hb hby d2_1)
  obtain ⟨T3, X3, e3, st3⟩ := getS2 X2 hx hZ hown (host := "") (Or.inl (hw _ (List.mem_of_getElem? (i := 16) rfl))) Via.refl e2 S_LibraryCalls_Summary_ELEMENT (g := (mkF m 8 #[.val (.ref a1), .unset] [(.ref a1)])) rfl (hb hby d2_8)
  obtain ⟨T4, X4, e4, st4⟩ := getS2 X3 hx hZ hown (host := "") (Or.inl (hw _ (List.mem_of_getElem? (i := 13) rfl))) Via.refl e3 S_LibraryCalls_Summary_READ (g := (mkF m 28 #[.val (.ref a1), .unset] [])) rfl (hb hby d2_28)
  obtain ⟨fs, hr, hrun, hended, hW, hsame⟩ := X4.leave (v := some (.ref wR)) (fun h => by rw [Bd.returns] at h; cases h)
  refine ⟨_, _, pre0 _ ?_, hrun, hended, _, _, rfl, ?_, ⟨_, rfl⟩, hW, hsame.mono (by decide) (by decide)⟩
  · show Steps p.tables e below (s₁.setTop (mkF m 0 #[.val (.ref a1), .unset] [])) _
    refine XS.aloadN X0.here hx rfl (hb hby d2_0) rfl rfl ?_
    show Steps p.tables e below (s₁.setTop (mkF m 1 #[.val (.ref a1), .unset] [(.ref a1)])) _
    refine st2 _ ?_
    show Steps p.tables e below (T2.setTop (mkF m 4 #[.val (.ref a1), .unset] [(.ref wR), (.ref a1)])) _
    refine Jvm.RoadKit.acmp (g := (mkF m 4 #[.val (.ref a1), .unset] [(.ref wR), (.ref a1)])) X2 hx rfl rfl rfl (pc0 := 4) (pc' := 7) (same := false) rfl (hb hby d2_4) rfl (decide_eq_false fun q => ha4 (Value.ref.inj q)) (by decide) (by decide) ?_
    show Steps p.tables e below (T2.setTop (mkF m 7 #[.val (.ref a1), .unset] [])) _
    refine XS.aloadN X2.here hx rfl (hb hby d2_7) rfl rfl ?_
    show Steps p.tables e below (T2.setTop (mkF m 8 #[.val (.ref a1), .unset] [(.ref a1)])) _
    refine st3 _ ?_
    show Steps p.tables e below (T3.setTop (mkF m 11 #[.val (.ref a1), .unset] [(.ref wE), (.ref a1)])) _
    refine Jvm.RoadKit.acmp (g := (mkF m 11 #[.val (.ref a1), .unset] [(.ref wE), (.ref a1)])) X3 hx rfl rfl rfl (pc0 := 11) (pc' := 28) (same := true) rfl (hb hby d2_11) rfl (decide_eq_true (congrArg Value.ref ha11)) (by decide) (by decide) ?_
    show Steps p.tables e below (T3.setTop (mkF m 28 #[.val (.ref a1), .unset] [])) _
    refine st4 _ ?_
    show Steps p.tables e below (T4.setTop (mkF m 31 #[.val (.ref a1), .unset] [(.ref wR)])) _
    refine XS.astoreN X4.here hx rfl (hb hby d2_31) rfl rfl (l' := #[.val (.ref a1), .val (.ref wR)]) rfl ?_
    show Steps p.tables e below (T4.setTop (mkF m 32 #[.val (.ref a1), .val (.ref wR)] [])) _
    refine XS.goto X4.here hx rfl (pc0 := 32) (pc' := 51) rfl (hb hby d2_32) (by decide) (by decide) ?_
    show Steps p.tables e below (T4.setTop (mkF m 51 #[.val (.ref a1), .val (.ref wR)] [])) _
    refine XS.aloadN X4.here hx rfl (hb hby d2_51) rfl rfl ?_
    show Steps p.tables e below (T4.setTop (mkF m 52 #[.val (.ref a1), .val (.ref wR)] [(.ref wR)])) _
    jvm_step X4.here [X4.here.top, hx, (hb hby d2_52), X4.method', Bd.returns, Value.isRef, FieldType.isReference]
    first | (intro acts; rw [hr _ acts rfl rfl rfl]) | rw [hr _ _ rfl rfl rfl]
    exact Steps.refl _
  · show Q2_E Z a1 wR wE h0 n0 _ T4.heap _
    rw [e4]
    exact ⟨rfl, N0, rfl⟩
theorem d2_14 : decode prog_28_method_4_code 14 = .ok (.aload_n 0, 1) := by decide +kernel
theorem d2_15 : decode prog_28_method_4_code 15 = .ok (.getstatic 10, 3) := by decide +kernel
theorem d2_18 : decode prog_28_method_4_code 18 = .ok (.if_acmp .eq 10, 3) := by decide +kernel
def Q2_V (Z : State) (a1 : Addr) (wR : Addr) (wE : Addr) (wV : Addr) (h0 : Heap) (n0 : Nat) (v : Option Value) (h : Heap) (L : List Loc) : Prop := v = some (.ref wR) ∧ Fr n0 L ∧ h = h0
set_option maxRecDepth 65536 in
set_option maxHeartbeats 40000000 in
theorem rm2_V (l : Launch) (Z : State) (a0 : Array Value) (hw : ∀ d ∈ tables_1, d.before a0 Z = true) (ws : List Jvm.Cond) (a1 : Addr) (wR : Addr) (wE : Addr) (wV : Addr) (h0 : Heap) (n0 : Nat) (Z0 : n0 ≤ h0.size) (S_LibraryCalls_Summary_READ : Sta Z h0 "com/example/violet_dye/violetdye/runtime/LibraryCalls$Summary" "READ" "Lcom/example/violet_dye/violetdye/runtime/LibraryCalls$Summary;" (.ref wR)) (S_LibraryCalls_Summary_ELEMENT : Sta Z h0 "com/example/violet_dye/violetdye/runtime/LibraryCalls$Summary" "ELEMENT" "Lcom/example/violet_dye/violetdye/runtime/LibraryCalls$Summary;" (.ref wE)) (S_LibraryCalls_Summary_VIEW : Sta Z h0 "com/example/violet_dye/violetdye/runtime/LibraryCalls$Summary" "VIEW" "Lcom/example/violet_dye/violetdye/runtime/LibraryCalls$Summary;" (.ref wV)) (ha4 : ¬ (a1 = wR)) (ha11 : ¬ (a1 = wE)) (ha18 : a1 = wV) :
    MetFree l (⟨"com/example/violet_dye/violetdye/runtime/LibraryCalls$Summary", "thrown", "()Lcom/example/violet_dye/violetdye/runtime/LibraryCalls$Summary;"⟩ : MethodName) (head1 (Jvm.Cond.code (⟨"com/example/violet_dye/violetdye/runtime/LibraryCalls$Summary", "thrown", "()Lcom/example/violet_dye/violetdye/runtime/LibraryCalls$Summary;"⟩ : MethodName) prog_28_method_4_code 2 (some (.object "com/example/violet_dye/violetdye/runtime/LibraryCalls$Summary")) :: ws) ({ frames := 0, cells := 0, slots := 0, locals := 0 } : Room)) (fun a U => a = #[(.ref a1)] ∧ Z.Warmed39 U.vm ∧ U.heap = h0) (fun _ _ _ _ _ => True) (fun _ U o U' => ∃ v L, o = .returned v ∧ Q2_V Z a1 wR wE wV h0 n0 v U'.heap L ∧ FrameEnd U o U' L ({ frames := 0, cells := 0, slots := 0, locals := 0 } : Room).cells ({ frames := 0, cells := 0, slots := 0, locals := 0 } : Room).slots) := by
  refine MetFree.of_bodySF (plainFor_of_name pn_2) hisR ?_
  intro p e s m args below meth c s₁ Bd hml0 hP hK
  obtain ⟨rfl, hZ, hh⟩ := hP
  have hx := Bd.exec
  have hby := Bd.bytes
  have hml : c.maxLocals = 2 := hml0
  have hown : s.vm.findClass "com/example/violet_dye/violetdye/runtime/LibraryCalls$Summary" = some m.cls := findClass_of_methodNamed Bd.named
  have hnm := (name_of_methodNamed Bd.named Bd.method).1
  have X0 : Stand p l e ({ frames := 0, cells := 0, slots := 0, locals := 0 } : Room) s m #[(.ref a1)] below meth c s₁ [] 0 0 := Stand.of_body Bd
  have e0 : s₁.heap = h0 := by rw [← hh, Bd.state]; rfl
  have N0 := Fr.nil n0
  have pre0 : ∀ t, Steps p.tables e below (s₁.setTop (mkF m 0 #[.val (.ref a1), .unset] [])) t → Steps p.tables e below (s₁.setTop (entryFrame m #[(.ref a1)] 2)) t := fun t k => castTop (ef_2 m a1) k
  obtain ⟨T2, X2, e2, st2⟩ := getS2 X0 hx hZ hown (host := "") (Or.inl (hw _ (List.mem_of_getElem? (i := 13) rfl))) Via.refl e0 S_LibraryCalls_Summary_READ (g := (mkF m 1 #[.val (.ref a1), .unset] [(.ref a1)])) rfl (hb hby d2_1)
  obtain ⟨T3, X3, e3, st3⟩ := getS2 X2 hx hZ hown (host := "") (Or.inl (hw _ (List.mem_of_getElem? (i := 16) rfl))) Via.refl e2 S_LibraryCalls_Summary_ELEMENT (g := (mkF m 8 #[.val (.ref a1), .unset] [(.ref a1)])) rfl (hb hby d2_8)
  obtain ⟨T4, X4, e4, st4⟩ := getS2 X3 hx hZ hown (host := "") (Or.inl (hw _ (List.mem_of_getElem? (i := 18) rfl))) Via.refl e3 S_LibraryCalls_Summary_VIEW (g := (mkF m 15 #[.val (.ref a1), .unset] [(.ref a1)])) rfl (hb hby d2_15)
  obtain ⟨T5, X5, e5, st5⟩ := getS2 X4 hx hZ hown (host := "") (Or.inl (hw _ (List.mem_of_getElem? (i := 13) rfl))) Via.refl e4 S_LibraryCalls_Summary_READ (g := (mkF m 28 #[.val (.ref a1), .unset] [])) rfl (hb hby d2_28)
  obtain ⟨fs, hr, hrun, hended, hW, hsame⟩ := X5.leave (v := some (.ref wR)) (fun h => by rw [Bd.returns] at h; cases h)
  refine ⟨_, _, pre0 _ ?_, hrun, hended, _, _, rfl, ?_, ⟨_, rfl⟩, hW, hsame.mono (by decide) (by decide)⟩
  · show Steps p.tables e below (s₁.setTop (mkF m 0 #[.val (.ref a1), .unset] [])) _
    refine XS.aloadN X0.here hx rfl (hb hby d2_0) rfl rfl ?_
    show Steps p.tables e below (s₁.setTop (mkF m 1 #[.val (.ref a1), .unset] [(.ref a1)])) _
    refine st2 _ ?_
    show Steps p.tables e below (T2.setTop (mkF m 4 #[.val (.ref a1), .unset] [(.ref wR), (.ref a1)])) _
    refine Jvm.RoadKit.acmp (g := (mkF m 4 #[.val (.ref a1), .unset] [(.ref wR), (.ref a1)])) X2 hx rfl rfl rfl (pc0 := 4) (pc' := 7) (same := false) rfl (hb hby d2_4) rfl (decide_eq_false fun q => ha4 (Value.ref.inj q)) (by decide) (by decide) ?_
    show Steps p.tables e below (T2.setTop (mkF m 7 #[.val (.ref a1), .unset] [])) _
    refine XS.aloadN X2.here hx rfl (hb hby d2_7) rfl rfl ?_
    show Steps p.tables e below (T2.setTop (mkF m 8 #[.val (.ref a1), .unset] [(.ref a1)])) _
    refine st3 _ ?_
    show Steps p.tables e below (T3.setTop (mkF m 11 #[.val (.ref a1), .unset] [(.ref wE), (.ref a1)])) _
    refine Jvm.RoadKit.acmp (g := (mkF m 11 #[.val (.ref a1), .unset] [(.ref wE), (.ref a1)])) X3 hx rfl rfl rfl (pc0 := 11) (pc' := 14) (same := false) rfl (hb hby d2_11) rfl (decide_eq_false fun q => ha11 (Value.ref.inj q)) (by decide) (by decide) ?_
    show Steps p.tables e below (T3.setTop (mkF m 14 #[.val (.ref a1), .unset] [])) _
    refine XS.aloadN X3.here hx rfl (hb hby d2_14) rfl rfl ?_
    show Steps p.tables e below (T3.setTop (mkF m 15 #[.val (.ref a1), .unset] [(.ref a1)])) _
    refine st4 _ ?_
    show Steps p.tables e below (T4.setTop (mkF m 18 #[.val (.ref a1), .unset] [(.ref wV), (.ref a1)])) _
    refine Jvm.RoadKit.acmp (g := (mkF m 18 #[.val (.ref a1), .unset] [(.ref wV), (.ref a1)])) X4 hx rfl rfl rfl (pc0 := 18) (pc' := 28) (same := true) rfl (hb hby d2_18) rfl (decide_eq_true (congrArg Value.ref ha18)) (by decide) (by decide) ?_
    show Steps p.tables e below (T4.setTop (mkF m 28 #[.val (.ref a1), .unset] [])) _
    refine st5 _ ?_
    show Steps p.tables e below (T5.setTop (mkF m 31 #[.val (.ref a1), .unset] [(.ref wR)])) _
    refine XS.astoreN X5.here hx rfl (hb hby d2_31) rfl rfl (l' := #[.val (.ref a1), .val (.ref wR)]) rfl ?_
    show Steps p.tables e below (T5.setTop (mkF m 32 #[.val (.ref a1), .val (.ref wR)] [])) _
    refine XS.goto X5.here hx rfl (pc0 := 32) (pc' := 51) rfl (hb hby d2_32) (by decide) (by decide) ?_
    show Steps p.tables e below (T5.setTop (mkF m 51 #[.val (.ref a1), .val (.ref wR)] [])) _
    refine XS.aloadN X5.here hx rfl (hb hby d2_51) rfl rfl ?_
    show Steps p.tables e below (T5.setTop (mkF m 52 #[.val (.ref a1), .val (.ref wR)] [(.ref wR)])) _
    jvm_step X5.here [X5.here.top, hx, (hb hby d2_52), X5.method', Bd.returns, Value.isRef, FieldType.isReference]
    first | (intro acts; rw [hr _ acts rfl rfl rfl]) | rw [hr _ _ rfl rfl rfl]
    exact Steps.refl _
  · show Q2_V Z a1 wR wE wV h0 n0 _ T5.heap _
    rw [e5]
    exact ⟨rfl, N0, rfl⟩
theorem d2_21 : decode prog_28_method_4_code 21 = .ok (.aload_n 0, 1) := by decide +kernel
theorem d2_22 : decode prog_28_method_4_code 22 = .ok (.getstatic 13, 3) := by decide +kernel
theorem d2_25 : decode prog_28_method_4_code 25 = .ok (.if_acmp .ne 10, 3) := by decide +kernel
def Q2_A (Z : State) (a1 : Addr) (wR : Addr) (wE : Addr) (wV : Addr) (wA : Addr) (h0 : Heap) (n0 : Nat) (v : Option Value) (h : Heap) (L : List Loc) : Prop := v = some (.ref wR) ∧ Fr n0 L ∧ h = h0
set_option maxRecDepth 65536 in
set_option maxHeartbeats 40000000 in
theorem rm2_A (l : Launch) (Z : State) (a0 : Array Value) (hw : ∀ d ∈ tables_1, d.before a0 Z = true) (ws : List Jvm.Cond) (a1 : Addr) (wR : Addr) (wE : Addr) (wV : Addr) (wA : Addr) (h0 : Heap) (n0 : Nat) (Z0 : n0 ≤ h0.size) (S_LibraryCalls_Summary_READ : Sta Z h0 "com/example/violet_dye/violetdye/runtime/LibraryCalls$Summary" "READ" "Lcom/example/violet_dye/violetdye/runtime/LibraryCalls$Summary;" (.ref wR)) (S_LibraryCalls_Summary_ELEMENT : Sta Z h0 "com/example/violet_dye/violetdye/runtime/LibraryCalls$Summary" "ELEMENT" "Lcom/example/violet_dye/violetdye/runtime/LibraryCalls$Summary;" (.ref wE)) (S_LibraryCalls_Summary_VIEW : Sta Z h0 "com/example/violet_dye/violetdye/runtime/LibraryCalls$Summary" "VIEW" "Lcom/example/violet_dye/violetdye/runtime/LibraryCalls$Summary;" (.ref wV)) (S_LibraryCalls_Summary_ARRAY : Sta Z h0 "com/example/violet_dye/violetdye/runtime/LibraryCalls$Summary" "ARRAY" "Lcom/example/violet_dye/violetdye/runtime/LibraryCalls$Summary;" (.ref wA)) (ha4 : ¬ (a1 = wR)) (ha11 : ¬ (a1 = wE)) (ha18 : ¬ (a1 = wV)) (ha25 : a1 = wA) :
    MetFree l (⟨"com/example/violet_dye/violetdye/runtime/LibraryCalls$Summary", "thrown", "()Lcom/example/violet_dye/violetdye/runtime/LibraryCalls$Summary;"⟩ : MethodName) (head1 (Jvm.Cond.code (⟨"com/example/violet_dye/violetdye/runtime/LibraryCalls$Summary", "thrown", "()Lcom/example/violet_dye/violetdye/runtime/LibraryCalls$Summary;"⟩ : MethodName) prog_28_method_4_code 2 (some (.object "com/example/violet_dye/violetdye/runtime/LibraryCalls$Summary")) :: ws) ({ frames := 0, cells := 0, slots := 0, locals := 0 } : Room)) (fun a U => a = #[(.ref a1)] ∧ Z.Warmed39 U.vm ∧ U.heap = h0) (fun _ _ _ _ _ => True) (fun _ U o U' => ∃ v L, o = .returned v ∧ Q2_A Z a1 wR wE wV wA h0 n0 v U'.heap L ∧ FrameEnd U o U' L ({ frames := 0, cells := 0, slots := 0, locals := 0 } : Room).cells ({ frames := 0, cells := 0, slots := 0, locals := 0 } : Room).slots) := by
  refine MetFree.of_bodySF (plainFor_of_name pn_2) hisR ?_
  intro p e s m args below meth c s₁ Bd hml0 hP hK
  obtain ⟨rfl, hZ, hh⟩ := hP
  have hx := Bd.exec
  have hby := Bd.bytes
  have hml : c.maxLocals = 2 := hml0
  have hown : s.vm.findClass "com/example/violet_dye/violetdye/runtime/LibraryCalls$Summary" = some m.cls := findClass_of_methodNamed Bd.named
  have hnm := (name_of_methodNamed Bd.named Bd.method).1
  have X0 : Stand p l e ({ frames := 0, cells := 0, slots := 0, locals := 0 } : Room) s m #[(.ref a1)] below meth c s₁ [] 0 0 := Stand.of_body Bd
  have e0 : s₁.heap = h0 := by rw [← hh, Bd.state]; rfl
  have N0 := Fr.nil n0
  have pre0 : ∀ t, Steps p.tables e below (s₁.setTop (mkF m 0 #[.val (.ref a1), .unset] [])) t → Steps p.tables e below (s₁.setTop (entryFrame m #[(.ref a1)] 2)) t := fun t k => castTop (ef_2 m a1) k
  obtain ⟨T2, X2, e2, st2⟩ := getS2 X0 hx hZ hown (host := "") (Or.inl (hw _ (List.mem_of_getElem? (i := 13) rfl))) Via.refl e0 S_LibraryCalls_Summary_READ (g := (mkF m 1 #[.val (.ref a1), .unset] [(.ref a1)])) rfl (hb hby d2_1)
  obtain ⟨T3, X3, e3, st3⟩ := getS2 X2 hx hZ hown (host := "") (Or.inl (hw _ (List.mem_of_getElem? (i := 16) rfl))) Via.refl e2 S_LibraryCalls_Summary_ELEMENT (g := (mkF m 8 #[.val (.ref a1), .unset] [(.ref a1)])) rfl (hb hby d2_8)
  obtain ⟨T4, X4, e4, st4⟩ := getS2 X3 hx hZ hown (host := "") (Or.inl (hw _ (List.mem_of_getElem? (i := 18) rfl))) Via.refl e3 S_LibraryCalls_Summary_VIEW (g := (mkF m 15 #[.val (.ref a1), .unset] [(.ref a1)])) rfl (hb hby d2_15)
  obtain ⟨T5, X5, e5, st5⟩ := getS2 X4 hx hZ hown (host := "") (Or.inl (hw _ (List.mem_of_getElem? (i := 20) rfl))) Via.refl e4 S_LibraryCalls_Summary_ARRAY (g := (mkF m 22 #[.val (.ref a1), .unset] [(.ref a1)])) rfl (hb hby d2_22)
  obtain ⟨T6, X6, e6, st6⟩ := getS2 X5 hx hZ hown (host := "") (Or.inl (hw _ (List.mem_of_getElem? (i := 13) rfl))) Via.refl e5 S_LibraryCalls_Summary_READ (g := (mkF m 28 #[.val (.ref a1), .unset] [])) rfl (hb hby d2_28)
  obtain ⟨fs, hr, hrun, hended, hW, hsame⟩ := X6.leave (v := some (.ref wR)) (fun h => by rw [Bd.returns] at h; cases h)
  refine ⟨_, _, pre0 _ ?_, hrun, hended, _, _, rfl, ?_, ⟨_, rfl⟩, hW, hsame.mono (by decide) (by decide)⟩
  · show Steps p.tables e below (s₁.setTop (mkF m 0 #[.val (.ref a1), .unset] [])) _
    refine XS.aloadN X0.here hx rfl (hb hby d2_0) rfl rfl ?_
    show Steps p.tables e below (s₁.setTop (mkF m 1 #[.val (.ref a1), .unset] [(.ref a1)])) _
    refine st2 _ ?_
    show Steps p.tables e below (T2.setTop (mkF m 4 #[.val (.ref a1), .unset] [(.ref wR), (.ref a1)])) _
    refine Jvm.RoadKit.acmp (g := (mkF m 4 #[.val (.ref a1), .unset] [(.ref wR), (.ref a1)])) X2 hx rfl rfl rfl (pc0 := 4) (pc' := 7) (same := false) rfl (hb hby d2_4) rfl (decide_eq_false fun q => ha4 (Value.ref.inj q)) (by decide) (by decide) ?_
    show Steps p.tables e below (T2.setTop (mkF m 7 #[.val (.ref a1), .unset] [])) _
    refine XS.aloadN X2.here hx rfl (hb hby d2_7) rfl rfl ?_
    show Steps p.tables e below (T2.setTop (mkF m 8 #[.val (.ref a1), .unset] [(.ref a1)])) _
    refine st3 _ ?_
    show Steps p.tables e below (T3.setTop (mkF m 11 #[.val (.ref a1), .unset] [(.ref wE), (.ref a1)])) _
    refine Jvm.RoadKit.acmp (g := (mkF m 11 #[.val (.ref a1), .unset] [(.ref wE), (.ref a1)])) X3 hx rfl rfl rfl (pc0 := 11) (pc' := 14) (same := false) rfl (hb hby d2_11) rfl (decide_eq_false fun q => ha11 (Value.ref.inj q)) (by decide) (by decide) ?_
    show Steps p.tables e below (T3.setTop (mkF m 14 #[.val (.ref a1), .unset] [])) _
    refine XS.aloadN X3.here hx rfl (hb hby d2_14) rfl rfl ?_
    show Steps p.tables e below (T3.setTop (mkF m 15 #[.val (.ref a1), .unset] [(.ref a1)])) _
    refine st4 _ ?_
    show Steps p.tables e below (T4.setTop (mkF m 18 #[.val (.ref a1), .unset] [(.ref wV), (.ref a1)])) _
    refine Jvm.RoadKit.acmp (g := (mkF m 18 #[.val (.ref a1), .unset] [(.ref wV), (.ref a1)])) X4 hx rfl rfl rfl (pc0 := 18) (pc' := 21) (same := false) rfl (hb hby d2_18) rfl (decide_eq_false fun q => ha18 (Value.ref.inj q)) (by decide) (by decide) ?_
    show Steps p.tables e below (T4.setTop (mkF m 21 #[.val (.ref a1), .unset] [])) _
    refine XS.aloadN X4.here hx rfl (hb hby d2_21) rfl rfl ?_
    show Steps p.tables e below (T4.setTop (mkF m 22 #[.val (.ref a1), .unset] [(.ref a1)])) _
    refine st5 _ ?_
    show Steps p.tables e below (T5.setTop (mkF m 25 #[.val (.ref a1), .unset] [(.ref wA), (.ref a1)])) _
    refine Jvm.RoadKit.acmp (g := (mkF m 25 #[.val (.ref a1), .unset] [(.ref wA), (.ref a1)])) X5 hx rfl rfl rfl (pc0 := 25) (pc' := 28) (same := true) rfl (hb hby d2_25) rfl (decide_eq_true (congrArg Value.ref ha25)) (by decide) (by decide) ?_
    show Steps p.tables e below (T5.setTop (mkF m 28 #[.val (.ref a1), .unset] [])) _
    refine st6 _ ?_
    show Steps p.tables e below (T6.setTop (mkF m 31 #[.val (.ref a1), .unset] [(.ref wR)])) _
    refine XS.astoreN X6.here hx rfl (hb hby d2_31) rfl rfl (l' := #[.val (.ref a1), .val (.ref wR)]) rfl ?_
    show Steps p.tables e below (T6.setTop (mkF m 32 #[.val (.ref a1), .val (.ref wR)] [])) _
    refine XS.goto X6.here hx rfl (pc0 := 32) (pc' := 51) rfl (hb hby d2_32) (by decide) (by decide) ?_
    show Steps p.tables e below (T6.setTop (mkF m 51 #[.val (.ref a1), .val (.ref wR)] [])) _
    refine XS.aloadN X6.here hx rfl (hb hby d2_51) rfl rfl ?_
    show Steps p.tables e below (T6.setTop (mkF m 52 #[.val (.ref a1), .val (.ref wR)] [(.ref wR)])) _
    jvm_step X6.here [X6.here.top, hx, (hb hby d2_52), X6.method', Bd.returns, Value.isRef, FieldType.isReference]
    first | (intro acts; rw [hr _ acts rfl rfl rfl]) | rw [hr _ _ rfl rfl rfl]
    exact Steps.refl _
  · show Q2_A Z a1 wR wE wV wA h0 n0 _ T6.heap _
    rw [e6]
    exact ⟨rfl, N0, rfl⟩
theorem d2_35 : decode prog_28_method_4_code 35 = .ok (.aload_n 0, 1) := by decide +kernel
theorem d2_36 : decode prog_28_method_4_code 36 = .ok (.getstatic 28, 3) := by decide +kernel
theorem d2_39 : decode prog_28_method_4_code 39 = .ok (.if_acmp .ne 10, 3) := by decide +kernel
theorem d2_42 : decode prog_28_method_4_code 42 = .ok (.getstatic 28, 3) := by decide +kernel
theorem d2_45 : decode prog_28_method_4_code 45 = .ok (.astore_n 1, 1) := by decide +kernel
theorem d2_46 : decode prog_28_method_4_code 46 = .ok (.goto 5, 3) := by decide +kernel
def Q2_I (Z : State) (a1 : Addr) (wR : Addr) (wE : Addr) (wV : Addr) (wA : Addr) (wI : Addr) (h0 : Heap) (n0 : Nat) (v : Option Value) (h : Heap) (L : List Loc) : Prop := v = some (.ref wI) ∧ Fr n0 L ∧ h = h0
set_option maxRecDepth 65536 in
set_option maxHeartbeats 40000000 in
theorem rm2_I (l : Launch) (Z : State) (a0 : Array Value) (hw : ∀ d ∈ tables_1, d.before a0 Z = true) (ws : List Jvm.Cond) (a1 : Addr) (wR : Addr) (wE : Addr) (wV : Addr) (wA : Addr) (wI : Addr) (h0 : Heap) (n0 : Nat) (Z0 : n0 ≤ h0.size) (S_LibraryCalls_Summary_READ : Sta Z h0 "com/example/violet_dye/violetdye/runtime/LibraryCalls$Summary" "READ" "Lcom/example/violet_dye/violetdye/runtime/LibraryCalls$Summary;" (.ref wR)) (S_LibraryCalls_Summary_ELEMENT : Sta Z h0 "com/example/violet_dye/violetdye/runtime/LibraryCalls$Summary" "ELEMENT" "Lcom/example/violet_dye/violetdye/runtime/LibraryCalls$Summary;" (.ref wE)) (S_LibraryCalls_Summary_VIEW : Sta Z h0 "com/example/violet_dye/violetdye/runtime/LibraryCalls$Summary" "VIEW" "Lcom/example/violet_dye/violetdye/runtime/LibraryCalls$Summary;" (.ref wV)) (S_LibraryCalls_Summary_ARRAY : Sta Z h0 "com/example/violet_dye/violetdye/runtime/LibraryCalls$Summary" "ARRAY" "Lcom/example/violet_dye/violetdye/runtime/LibraryCalls$Summary;" (.ref wA)) (S_LibraryCalls_Summary_INTO : Sta Z h0 "com/example/violet_dye/violetdye/runtime/LibraryCalls$Summary" "INTO" "Lcom/example/violet_dye/violetdye/runtime/LibraryCalls$Summary;" (.ref wI)) (ha4 : ¬ (a1 = wR)) (ha11 : ¬ (a1 = wE)) (ha18 : ¬ (a1 = wV)) (ha25 : ¬ (a1 = wA)) (ha39 : a1 = wI) :
    MetFree l (⟨"com/example/violet_dye/violetdye/runtime/LibraryCalls$Summary", "thrown", "()Lcom/example/violet_dye/violetdye/runtime/LibraryCalls$Summary;"⟩ : MethodName) (head1 (Jvm.Cond.code (⟨"com/example/violet_dye/violetdye/runtime/LibraryCalls$Summary", "thrown", "()Lcom/example/violet_dye/violetdye/runtime/LibraryCalls$Summary;"⟩ : MethodName) prog_28_method_4_code 2 (some (.object "com/example/violet_dye/violetdye/runtime/LibraryCalls$Summary")) :: ws) ({ frames := 0, cells := 0, slots := 0, locals := 0 } : Room)) (fun a U => a = #[(.ref a1)] ∧ Z.Warmed39 U.vm ∧ U.heap = h0) (fun _ _ _ _ _ => True) (fun _ U o U' => ∃ v L, o = .returned v ∧ Q2_I Z a1 wR wE wV wA wI h0 n0 v U'.heap L ∧ FrameEnd U o U' L ({ frames := 0, cells := 0, slots := 0, locals := 0 } : Room).cells ({ frames := 0, cells := 0, slots := 0, locals := 0 } : Room).slots) := by
  refine MetFree.of_bodySF (plainFor_of_name pn_2) hisR ?_
  intro p e s m args below meth c s₁ Bd hml0 hP hK
  obtain ⟨rfl, hZ, hh⟩ := hP
  have hx := Bd.exec
  have hby := Bd.bytes
  have hml : c.maxLocals = 2 := hml0
  have hown : s.vm.findClass "com/example/violet_dye/violetdye/runtime/LibraryCalls$Summary" = some m.cls := findClass_of_methodNamed Bd.named
  have hnm := (name_of_methodNamed Bd.named Bd.method).1
  have X0 : Stand p l e ({ frames := 0, cells := 0, slots := 0, locals := 0 } : Room) s m #[(.ref a1)] below meth c s₁ [] 0 0 := Stand.of_body Bd
  have e0 : s₁.heap = h0 := by rw [← hh, Bd.state]; rfl
  have N0 := Fr.nil n0
  have pre0 : ∀ t, Steps p.tables e below (s₁.setTop (mkF m 0 #[.val (.ref a1), .unset] [])) t → Steps p.tables e below (s₁.setTop (entryFrame m #[(.ref a1)] 2)) t := fun t k => castTop (ef_2 m a1) k
  obtain ⟨T2, X2, e2, st2⟩ := getS2 X0 hx hZ hown (host := "") (Or.inl (hw _ (List.mem_of_getElem? (i := 13) rfl))) Via.refl e0 S_LibraryCalls_Summary_READ (g := (mkF m 1 #[.val (.ref a1), .unset] [(.ref a1)])) rfl (hb hby d2_1)
  obtain ⟨T3, X3, e3, st3⟩ := getS2 X2 hx hZ hown (host := "") (Or.inl (hw _ (List.mem_of_getElem? (i := 16) rfl))) Via.refl e2 S_LibraryCalls_Summary_ELEMENT (g := (mkF m 8 #[.val (.ref a1), .unset] [(.ref a1)])) rfl (hb hby d2_8)
  obtain ⟨T4, X4, e4, st4⟩ := getS2 X3 hx hZ hown (host := "") (Or.inl (hw _ (List.mem_of_getElem? (i := 18) rfl))) Via.refl e3 S_LibraryCalls_Summary_VIEW (g := (mkF m 15 #[.val (.ref a1), .unset] [(.ref a1)])) rfl (hb hby d2_15)
  obtain ⟨T5, X5, e5, st5⟩ := getS2 X4 hx hZ hown (host := "") (Or.inl (hw _ (List.mem_of_getElem? (i := 20) rfl))) Via.refl e4 S_LibraryCalls_Summary_ARRAY (g := (mkF m 22 #[.val (.ref a1), .unset] [(.ref a1)])) rfl (hb hby d2_22)
  obtain ⟨T6, X6, e6, st6⟩ := getS2 X5 hx hZ hown (host := "") (Or.inl (hw _ (List.mem_of_getElem? (i := 23) rfl))) Via.refl e5 S_LibraryCalls_Summary_INTO (g := (mkF m 36 #[.val (.ref a1), .unset] [(.ref a1)])) rfl (hb hby d2_36)
  obtain ⟨T7, X7, e7, st7⟩ := getS2 X6 hx hZ hown (host := "") (Or.inl (hw _ (List.mem_of_getElem? (i := 23) rfl))) Via.refl e6 S_LibraryCalls_Summary_INTO (g := (mkF m 42 #[.val (.ref a1), .unset] [])) rfl (hb hby d2_42)
  obtain ⟨fs, hr, hrun, hended, hW, hsame⟩ := X7.leave (v := some (.ref wI)) (fun h => by rw [Bd.returns] at h; cases h)
  refine ⟨_, _, pre0 _ ?_, hrun, hended, _, _, rfl, ?_, ⟨_, rfl⟩, hW, hsame.mono (by decide) (by decide)⟩
  · show Steps p.tables e below (s₁.setTop (mkF m 0 #[.val (.ref a1), .unset] [])) _
    refine XS.aloadN X0.here hx rfl (hb hby d2_0) rfl rfl ?_
    show Steps p.tables e below (s₁.setTop (mkF m 1 #[.val (.ref a1), .unset] [(.ref a1)])) _
    refine st2 _ ?_
    show Steps p.tables e below (T2.setTop (mkF m 4 #[.val (.ref a1), .unset] [(.ref wR), (.ref a1)])) _
    refine Jvm.RoadKit.acmp (g := (mkF m 4 #[.val (.ref a1), .unset] [(.ref wR), (.ref a1)])) X2 hx rfl rfl rfl (pc0 := 4) (pc' := 7) (same := false) rfl (hb hby d2_4) rfl (decide_eq_false fun q => ha4 (Value.ref.inj q)) (by decide) (by decide) ?_
    show Steps p.tables e below (T2.setTop (mkF m 7 #[.val (.ref a1), .unset] [])) _
    refine XS.aloadN X2.here hx rfl (hb hby d2_7) rfl rfl ?_
    show Steps p.tables e below (T2.setTop (mkF m 8 #[.val (.ref a1), .unset] [(.ref a1)])) _
    refine st3 _ ?_
    show Steps p.tables e below (T3.setTop (mkF m 11 #[.val (.ref a1), .unset] [(.ref wE), (.ref a1)])) _
    refine Jvm.RoadKit.acmp (g := (mkF m 11 #[.val (.ref a1), .unset] [(.ref wE), (.ref a1)])) X3 hx rfl rfl rfl (pc0 := 11) (pc' := 14) (same := false) rfl (hb hby d2_11) rfl (decide_eq_false fun q => ha11 (Value.ref.inj q)) (by decide) (by decide) ?_
    show Steps p.tables e below (T3.setTop (mkF m 14 #[.val (.ref a1), .unset] [])) _
    refine XS.aloadN X3.here hx rfl (hb hby d2_14) rfl rfl ?_
    show Steps p.tables e below (T3.setTop (mkF m 15 #[.val (.ref a1), .unset] [(.ref a1)])) _
    refine st4 _ ?_
    show Steps p.tables e below (T4.setTop (mkF m 18 #[.val (.ref a1), .unset] [(.ref wV), (.ref a1)])) _
    refine Jvm.RoadKit.acmp (g := (mkF m 18 #[.val (.ref a1), .unset] [(.ref wV), (.ref a1)])) X4 hx rfl rfl rfl (pc0 := 18) (pc' := 21) (same := false) rfl (hb hby d2_18) rfl (decide_eq_false fun q => ha18 (Value.ref.inj q)) (by decide) (by decide) ?_
    show Steps p.tables e below (T4.setTop (mkF m 21 #[.val (.ref a1), .unset] [])) _
    refine XS.aloadN X4.here hx rfl (hb hby d2_21) rfl rfl ?_
    show Steps p.tables e below (T4.setTop (mkF m 22 #[.val (.ref a1), .unset] [(.ref a1)])) _
    refine st5 _ ?_
    show Steps p.tables e below (T5.setTop (mkF m 25 #[.val (.ref a1), .unset] [(.ref wA), (.ref a1)])) _
    refine Jvm.RoadKit.acmp (g := (mkF m 25 #[.val (.ref a1), .unset] [(.ref wA), (.ref a1)])) X5 hx rfl rfl rfl (pc0 := 25) (pc' := 35) (same := false) rfl (hb hby d2_25) rfl (decide_eq_false fun q => ha25 (Value.ref.inj q)) (by decide) (by decide) ?_
    show Steps p.tables e below (T5.setTop (mkF m 35 #[.val (.ref a1), .unset] [])) _
    refine XS.aloadN X5.here hx rfl (hb hby d2_35) rfl rfl ?_
    show Steps p.tables e below (T5.setTop (mkF m 36 #[.val (.ref a1), .unset] [(.ref a1)])) _
    refine st6 _ ?_
    show Steps p.tables e below (T6.setTop (mkF m 39 #[.val (.ref a1), .unset] [(.ref wI), (.ref a1)])) _
    refine Jvm.RoadKit.acmp (g := (mkF m 39 #[.val (.ref a1), .unset] [(.ref wI), (.ref a1)])) X6 hx rfl rfl rfl (pc0 := 39) (pc' := 42) (same := true) rfl (hb hby d2_39) rfl (decide_eq_true (congrArg Value.ref ha39)) (by decide) (by decide) ?_
    show Steps p.tables e below (T6.setTop (mkF m 42 #[.val (.ref a1), .unset] [])) _
    refine st7 _ ?_
    show Steps p.tables e below (T7.setTop (mkF m 45 #[.val (.ref a1), .unset] [(.ref wI)])) _
    refine XS.astoreN X7.here hx rfl (hb hby d2_45) rfl rfl (l' := #[.val (.ref a1), .val (.ref wI)]) rfl ?_
    show Steps p.tables e below (T7.setTop (mkF m 46 #[.val (.ref a1), .val (.ref wI)] [])) _
    refine XS.goto X7.here hx rfl (pc0 := 46) (pc' := 51) rfl (hb hby d2_46) (by decide) (by decide) ?_
    show Steps p.tables e below (T7.setTop (mkF m 51 #[.val (.ref a1), .val (.ref wI)] [])) _
    refine XS.aloadN X7.here hx rfl (hb hby d2_51) rfl rfl ?_
    show Steps p.tables e below (T7.setTop (mkF m 52 #[.val (.ref a1), .val (.ref wI)] [(.ref wI)])) _
    jvm_step X7.here [X7.here.top, hx, (hb hby d2_52), X7.method', Bd.returns, Value.isRef, FieldType.isReference]
    first | (intro acts; rw [hr _ acts rfl rfl rfl]) | rw [hr _ _ rfl rfl rfl]
    exact Steps.refl _
  · show Q2_I Z a1 wR wE wV wA wI h0 n0 _ T7.heap _
    rw [e7]
    exact ⟨rfl, N0, rfl⟩
theorem d2_49 : decode prog_28_method_4_code 49 = .ok (.aconst_null, 1) := by decide +kernel
theorem d2_50 : decode prog_28_method_4_code 50 = .ok (.astore_n 1, 1) := by decide +kernel
def Q2_N (Z : State) (a1 : Addr) (wR : Addr) (wE : Addr) (wV : Addr) (wA : Addr) (wI : Addr) (h0 : Heap) (n0 : Nat) (v : Option Value) (h : Heap) (L : List Loc) : Prop := v = some .null ∧ Fr n0 L ∧ h = h0
set_option maxRecDepth 65536 in
set_option maxHeartbeats 40000000 in
theorem rm2_N (l : Launch) (Z : State) (a0 : Array Value) (hw : ∀ d ∈ tables_1, d.before a0 Z = true) (ws : List Jvm.Cond) (a1 : Addr) (wR : Addr) (wE : Addr) (wV : Addr) (wA : Addr) (wI : Addr) (h0 : Heap) (n0 : Nat) (Z0 : n0 ≤ h0.size) (S_LibraryCalls_Summary_READ : Sta Z h0 "com/example/violet_dye/violetdye/runtime/LibraryCalls$Summary" "READ" "Lcom/example/violet_dye/violetdye/runtime/LibraryCalls$Summary;" (.ref wR)) (S_LibraryCalls_Summary_ELEMENT : Sta Z h0 "com/example/violet_dye/violetdye/runtime/LibraryCalls$Summary" "ELEMENT" "Lcom/example/violet_dye/violetdye/runtime/LibraryCalls$Summary;" (.ref wE)) (S_LibraryCalls_Summary_VIEW : Sta Z h0 "com/example/violet_dye/violetdye/runtime/LibraryCalls$Summary" "VIEW" "Lcom/example/violet_dye/violetdye/runtime/LibraryCalls$Summary;" (.ref wV)) (S_LibraryCalls_Summary_ARRAY : Sta Z h0 "com/example/violet_dye/violetdye/runtime/LibraryCalls$Summary" "ARRAY" "Lcom/example/violet_dye/violetdye/runtime/LibraryCalls$Summary;" (.ref wA)) (S_LibraryCalls_Summary_INTO : Sta Z h0 "com/example/violet_dye/violetdye/runtime/LibraryCalls$Summary" "INTO" "Lcom/example/violet_dye/violetdye/runtime/LibraryCalls$Summary;" (.ref wI)) (ha4 : ¬ (a1 = wR)) (ha11 : ¬ (a1 = wE)) (ha18 : ¬ (a1 = wV)) (ha25 : ¬ (a1 = wA)) (ha39 : ¬ (a1 = wI)) :
    MetFree l (⟨"com/example/violet_dye/violetdye/runtime/LibraryCalls$Summary", "thrown", "()Lcom/example/violet_dye/violetdye/runtime/LibraryCalls$Summary;"⟩ : MethodName) (head1 (Jvm.Cond.code (⟨"com/example/violet_dye/violetdye/runtime/LibraryCalls$Summary", "thrown", "()Lcom/example/violet_dye/violetdye/runtime/LibraryCalls$Summary;"⟩ : MethodName) prog_28_method_4_code 2 (some (.object "com/example/violet_dye/violetdye/runtime/LibraryCalls$Summary")) :: ws) ({ frames := 0, cells := 0, slots := 0, locals := 0 } : Room)) (fun a U => a = #[(.ref a1)] ∧ Z.Warmed39 U.vm ∧ U.heap = h0) (fun _ _ _ _ _ => True) (fun _ U o U' => ∃ v L, o = .returned v ∧ Q2_N Z a1 wR wE wV wA wI h0 n0 v U'.heap L ∧ FrameEnd U o U' L ({ frames := 0, cells := 0, slots := 0, locals := 0 } : Room).cells ({ frames := 0, cells := 0, slots := 0, locals := 0 } : Room).slots) := by
  refine MetFree.of_bodySF (plainFor_of_name pn_2) hisR ?_
  intro p e s m args below meth c s₁ Bd hml0 hP hK
  obtain ⟨rfl, hZ, hh⟩ := hP
  have hx := Bd.exec
  have hby := Bd.bytes
  have hml : c.maxLocals = 2 := hml0
  have hown : s.vm.findClass "com/example/violet_dye/violetdye/runtime/LibraryCalls$Summary" = some m.cls := findClass_of_methodNamed Bd.named
  have hnm := (name_of_methodNamed Bd.named Bd.method).1
  have X0 : Stand p l e ({ frames := 0, cells := 0, slots := 0, locals := 0 } : Room) s m #[(.ref a1)] below meth c s₁ [] 0 0 := Stand.of_body Bd
  have e0 : s₁.heap = h0 := by rw [← hh, Bd.state]; rfl
  have N0 := Fr.nil n0
  have pre0 : ∀ t, Steps p.tables e below (s₁.setTop (mkF m 0 #[.val (.ref a1), .unset] [])) t → Steps p.tables e below (s₁.setTop (entryFrame m #[(.ref a1)] 2)) t := fun t k => castTop (ef_2 m a1) k
  obtain ⟨T2, X2, e2, st2⟩ := getS2 X0 hx hZ hown (host := "") (Or.inl (hw _ (List.mem_of_getElem? (i := 13) rfl))) Via.refl e0 S_LibraryCalls_Summary_READ (g := (mkF m 1 #[.val (.ref a1), .unset] [(.ref a1)])) rfl (hb hby d2_1)
  obtain ⟨T3, X3, e3, st3⟩ := getS2 X2 hx hZ hown (host := "") (Or.inl (hw _ (List.mem_of_getElem? (i := 16) rfl))) Via.refl e2 S_LibraryCalls_Summary_ELEMENT (g := (mkF m 8 #[.val (.ref a1), .unset] [(.ref a1)])) rfl (hb hby d2_8)
  obtain ⟨T4, X4, e4, st4⟩ := getS2 X3 hx hZ hown (host := "") (Or.inl (hw _ (List.mem_of_getElem? (i := 18) rfl))) Via.refl e3 S_LibraryCalls_Summary_VIEW (g := (mkF m 15 #[.val (.ref a1), .unset] [(.ref a1)])) rfl (hb hby d2_15)
  obtain ⟨T5, X5, e5, st5⟩ := getS2 X4 hx hZ hown (host := "") (Or.inl (hw _ (List.mem_of_getElem? (i := 20) rfl))) Via.refl e4 S_LibraryCalls_Summary_ARRAY (g := (mkF m 22 #[.val (.ref a1), .unset] [(.ref a1)])) rfl (hb hby d2_22)
  obtain ⟨T6, X6, e6, st6⟩ := getS2 X5 hx hZ hown (host := "") (Or.inl (hw _ (List.mem_of_getElem? (i := 23) rfl))) Via.refl e5 S_LibraryCalls_Summary_INTO (g := (mkF m 36 #[.val (.ref a1), .unset] [(.ref a1)])) rfl (hb hby d2_36)
  obtain ⟨fs, hr, hrun, hended, hW, hsame⟩ := X6.leave (v := some .null) (fun h => by rw [Bd.returns] at h; cases h)
  refine ⟨_, _, pre0 _ ?_, hrun, hended, _, _, rfl, ?_, ⟨_, rfl⟩, hW, hsame.mono (by decide) (by decide)⟩
  · show Steps p.tables e below (s₁.setTop (mkF m 0 #[.val (.ref a1), .unset] [])) _
    refine XS.aloadN X0.here hx rfl (hb hby d2_0) rfl rfl ?_
    show Steps p.tables e below (s₁.setTop (mkF m 1 #[.val (.ref a1), .unset] [(.ref a1)])) _
    refine st2 _ ?_
    show Steps p.tables e below (T2.setTop (mkF m 4 #[.val (.ref a1), .unset] [(.ref wR), (.ref a1)])) _
    refine Jvm.RoadKit.acmp (g := (mkF m 4 #[.val (.ref a1), .unset] [(.ref wR), (.ref a1)])) X2 hx rfl rfl rfl (pc0 := 4) (pc' := 7) (same := false) rfl (hb hby d2_4) rfl (decide_eq_false fun q => ha4 (Value.ref.inj q)) (by decide) (by decide) ?_
    show Steps p.tables e below (T2.setTop (mkF m 7 #[.val (.ref a1), .unset] [])) _
    refine XS.aloadN X2.here hx rfl (hb hby d2_7) rfl rfl ?_
    show Steps p.tables e below (T2.setTop (mkF m 8 #[.val (.ref a1), .unset] [(.ref a1)])) _
    refine st3 _ ?_
    show Steps p.tables e below (T3.setTop (mkF m 11 #[.val (.ref a1), .unset] [(.ref wE), (.ref a1)])) _
    refine Jvm.RoadKit.acmp (g := (mkF m 11 #[.val (.ref a1), .unset] [(.ref wE), (.ref a1)])) X3 hx rfl rfl rfl (pc0 := 11) (pc' := 14) (same := false) rfl (hb hby d2_11) rfl (decide_eq_false fun q => ha11 (Value.ref.inj q)) (by decide) (by decide) ?_
    show Steps p.tables e below (T3.setTop (mkF m 14 #[.val (.ref a1), .unset] [])) _
    refine XS.aloadN X3.here hx rfl (hb hby d2_14) rfl rfl ?_
    show Steps p.tables e below (T3.setTop (mkF m 15 #[.val (.ref a1), .unset] [(.ref a1)])) _
    refine st4 _ ?_
    show Steps p.tables e below (T4.setTop (mkF m 18 #[.val (.ref a1), .unset] [(.ref wV), (.ref a1)])) _
    refine Jvm.RoadKit.acmp (g := (mkF m 18 #[.val (.ref a1), .unset] [(.ref wV), (.ref a1)])) X4 hx rfl rfl rfl (pc0 := 18) (pc' := 21) (same := false) rfl (hb hby d2_18) rfl (decide_eq_false fun q => ha18 (Value.ref.inj q)) (by decide) (by decide) ?_
    show Steps p.tables e below (T4.setTop (mkF m 21 #[.val (.ref a1), .unset] [])) _
    refine XS.aloadN X4.here hx rfl (hb hby d2_21) rfl rfl ?_
    show Steps p.tables e below (T4.setTop (mkF m 22 #[.val (.ref a1), .unset] [(.ref a1)])) _
    refine st5 _ ?_
    show Steps p.tables e below (T5.setTop (mkF m 25 #[.val (.ref a1), .unset] [(.ref wA), (.ref a1)])) _
    refine Jvm.RoadKit.acmp (g := (mkF m 25 #[.val (.ref a1), .unset] [(.ref wA), (.ref a1)])) X5 hx rfl rfl rfl (pc0 := 25) (pc' := 35) (same := false) rfl (hb hby d2_25) rfl (decide_eq_false fun q => ha25 (Value.ref.inj q)) (by decide) (by decide) ?_
    show Steps p.tables e below (T5.setTop (mkF m 35 #[.val (.ref a1), .unset] [])) _
    refine XS.aloadN X5.here hx rfl (hb hby d2_35) rfl rfl ?_
    show Steps p.tables e below (T5.setTop (mkF m 36 #[.val (.ref a1), .unset] [(.ref a1)])) _
    refine st6 _ ?_
    show Steps p.tables e below (T6.setTop (mkF m 39 #[.val (.ref a1), .unset] [(.ref wI), (.ref a1)])) _
    refine Jvm.RoadKit.acmp (g := (mkF m 39 #[.val (.ref a1), .unset] [(.ref wI), (.ref a1)])) X6 hx rfl rfl rfl (pc0 := 39) (pc' := 49) (same := false) rfl (hb hby d2_39) rfl (decide_eq_false fun q => ha39 (Value.ref.inj q)) (by decide) (by decide) ?_
    show Steps p.tables e below (T6.setTop (mkF m 49 #[.val (.ref a1), .unset] [])) _
    refine XS.aconstNull X6.here hx rfl (hb hby d2_49) ?_
    show Steps p.tables e below (T6.setTop (mkF m 50 #[.val (.ref a1), .unset] [.null])) _
    refine XS.astoreN X6.here hx rfl (hb hby d2_50) rfl rfl (l' := #[.val (.ref a1), .val .null]) rfl ?_
    show Steps p.tables e below (T6.setTop (mkF m 51 #[.val (.ref a1), .val .null] [])) _
    refine XS.aloadN X6.here hx rfl (hb hby d2_51) rfl rfl ?_
    show Steps p.tables e below (T6.setTop (mkF m 52 #[.val (.ref a1), .val .null] [.null])) _
    jvm_step X6.here [X6.here.top, hx, (hb hby d2_52), X6.method', Bd.returns, Value.isRef, FieldType.isReference]
    first | (intro acts; rw [hr _ acts rfl rfl rfl]) | rw [hr _ _ rfl rfl rfl]
    exact Steps.refl _
  · show Q2_N Z a1 wR wE wV wA wI h0 n0 _ T6.heap _
    rw [e6]
    exact ⟨rfl, N0, rfl⟩
abbrev own_Pick (l : Launch) (Z : State) (h0 : Heap) (n0 : Nat) (p1 : Int32) (w : Addr) : Prop := MetFree l (⟨"com/example/violet_dye/violetdye/runtime/SummaryThrownPinLaw", "pick", "(I)Lcom/example/violet_dye/violetdye/runtime/LibraryCalls$Summary;"⟩ : MethodName) (head1 (Jvm.Cond.code (⟨"com/example/violet_dye/violetdye/runtime/SummaryThrownPinLaw", "pick", "(I)Lcom/example/violet_dye/violetdye/runtime/LibraryCalls$Summary;"⟩ : MethodName) method_2_code 1 (some (.object "com/example/violet_dye/violetdye/runtime/LibraryCalls$Summary")) :: []) ({ frames := 0, cells := 0, slots := 0, locals := 0 } : Room)) (fun a U => a = #[(.int p1)] ∧ Z.Warmed39 U.vm ∧ U.heap = h0) (fun _ _ _ _ _ => True) (fun _ U o U' => ∃ v L, o = .returned v ∧ own_Q (.ref w) h0 n0 v U'.heap L ∧ FrameEnd U o U' L ({ frames := 0, cells := 0, slots := 0, locals := 0 } : Room).cells ({ frames := 0, cells := 0, slots := 0, locals := 0 } : Room).slots)
abbrev own_Thrown (l : Launch) (Z : State) (h0 : Heap) (n0 : Nat) (a1 : Addr) (r : Value) : Prop := MetFree l (⟨"com/example/violet_dye/violetdye/runtime/LibraryCalls$Summary", "thrown", "()Lcom/example/violet_dye/violetdye/runtime/LibraryCalls$Summary;"⟩ : MethodName) (head1 (Jvm.Cond.code (⟨"com/example/violet_dye/violetdye/runtime/LibraryCalls$Summary", "thrown", "()Lcom/example/violet_dye/violetdye/runtime/LibraryCalls$Summary;"⟩ : MethodName) prog_28_method_4_code 2 (some (.object "com/example/violet_dye/violetdye/runtime/LibraryCalls$Summary")) :: []) ({ frames := 0, cells := 0, slots := 0, locals := 0 } : Room)) (fun a U => a = #[(.ref a1)] ∧ Z.Warmed39 U.vm ∧ U.heap = h0) (fun _ _ _ _ _ => True) (fun _ U o U' => ∃ v L, o = .returned v ∧ own_Q r h0 n0 v U'.heap L ∧ FrameEnd U o U' L ({ frames := 0, cells := 0, slots := 0, locals := 0 } : Room).cells ({ frames := 0, cells := 0, slots := 0, locals := 0 } : Room).slots)
theorem pn_0 : plainName "com/example/violet_dye/violetdye/runtime/SummaryThrownPinLaw" = true := by first | (simp [plainName, overriddenIn]; done) | decide +kernel
theorem pd_0_0 : parseMethodDescriptor "(I)Lcom/example/violet_dye/violetdye/runtime/LibraryCalls$Summary;" = some ⟨[.int], some (.object "com/example/violet_dye/violetdye/runtime/LibraryCalls$Summary")⟩ := by decide +kernel
theorem pd_0_1 : parseMethodDescriptor "()Lcom/example/violet_dye/violetdye/runtime/LibraryCalls$Summary;" = some ⟨[], some (.object "com/example/violet_dye/violetdye/runtime/LibraryCalls$Summary")⟩ := by decide +kernel
theorem ef_0 (m : MethodId) (x0 : Int32) : entryFrame m #[(.int x0)] maxLocals = mkF m 0 #[.val (.int x0), .unset, .unset, .unset, .unset, .unset] [] := by first | (simp [entryFrame, mkF, argsToLocals, Value.category, maxLocals]; done) | rfl
def Q0_A (Z : State) (p1 : Int32) (w : Addr) (wR : Addr) (h0 : Heap) (n0 : Nat) (v : Option Value) (h : Heap) (L : List Loc) : Prop := v = some (.int (1 : Int32)) ∧ Fr n0 L ∧ h = h0
set_option maxRecDepth 65536 in
set_option maxHeartbeats 40000000 in
theorem rm0_A (l : Launch) (Z : State) (a0 : Array Value) (hw : ∀ d ∈ tables_1, d.before a0 Z = true) (ws : List Jvm.Cond) (p1 : Int32) (w : Addr) (wR : Addr) (h0 : Heap) (n0 : Nat) (Z0 : n0 ≤ h0.size) (HP : own_Pick l Z h0 n0 ((p1 &&& (2147483647 : Int32)) - ((p1 &&& (2147483647 : Int32)) / (13 : Int32)) * (13 : Int32)) w) (E_w : Exa Z h0 w "com/example/violet_dye/violetdye/runtime/LibraryCalls$Summary") (HT : own_Thrown l Z h0 n0 w (.ref wR)) (S_LibraryCalls_Summary_READ : Sta Z h0 "com/example/violet_dye/violetdye/runtime/LibraryCalls$Summary" "READ" "Lcom/example/violet_dye/violetdye/runtime/LibraryCalls$Summary;" (.ref wR)) (E_wR : Exa Z h0 wR "com/example/violet_dye/violetdye/runtime/LibraryCalls$Summary") (HT2 : own_Thrown l Z h0 n0 wR (.ref wR)) (hc20 : ¬ ((3 : Int32) < ((p1 &&& (2147483647 : Int32)) - ((p1 &&& (2147483647 : Int32)) / (13 : Int32)) * (13 : Int32)))) (hc75 : ¬ ((1 : Int32) = (0 : Int32))) :
    MetFree l x (head1 (Jvm.Cond.code x code maxLocals ret :: ws) room_1) (fun a U => a = #[(.int p1)] ∧ Z.Warmed39 U.vm ∧ U.heap = h0) (fun _ _ _ _ _ => True) (fun _ U o U' => ∃ v L, o = .returned v ∧ Q0_A Z p1 w wR h0 n0 v U'.heap L ∧ FrameEnd U o U' L room_1.cells room_1.slots) := by
  refine MetFree.of_bodySF (plainFor_of_name pn_0) hisR ?_
  intro p e s m args below meth c s₁ Bd hml0 hP hK
  obtain ⟨rfl, hZ, hh⟩ := hP
  have hx := Bd.exec
  have hby := Bd.bytes
  have hml : c.maxLocals = 6 := hml0
  have hown : s.vm.findClass "com/example/violet_dye/violetdye/runtime/SummaryThrownPinLaw" = some m.cls := findClass_of_methodNamed Bd.named
  have hnm := (name_of_methodNamed Bd.named Bd.method).1
  have X0 : Stand p l e room_1 s m #[(.int p1)] below meth c s₁ [] 0 0 := Stand.of_body Bd
  have e0 : s₁.heap = h0 := by rw [← hh, Bd.state]; rfl
  have N0 := Fr.nil n0
  have pre0 : ∀ t, Steps p.tables e below (s₁.setTop (mkF m 0 #[.val (.int p1), .unset, .unset, .unset, .unset, .unset] [])) t → Steps p.tables e below (s₁.setTop (entryFrame m #[(.int p1)] maxLocals)) t := fun t k => castTop (ef_0 m p1) k
  obtain ⟨_, _, ⟨T2, L2, k2, n2⟩, -, X2, ⟨Lc2, hQ2, l2, y2, z2⟩, st2⟩ := Jvm.LawKit.callS X0 hx (y := (⟨"com/example/violet_dye/violetdye/runtime/SummaryThrownPinLaw", "pick", "(I)Lcom/example/violet_dye/violetdye/runtime/LibraryCalls$Summary;"⟩ : MethodName)) hown (mvT hZ (hw _ (List.mem_of_getElem? (i := 1) rfl))) (mvT hZ (hw _ (List.mem_of_getElem? (i := 2) rfl))) (mvT hZ (hw _ (List.mem_of_getElem? (i := 3) rfl))) (mvT hZ (hw _ (List.mem_of_getElem? (i := 4) rfl))) (by decide) (backOf (W := 0) (HP) hZ (hw _ (List.mem_of_getElem? (i := 4) rfl)) (hw _ (List.mem_of_getElem? (i := 3) rfl)) (by decide) (by decide)) (g := (mkF m 9 #[.val (.int p1), .val (.int ((p1 &&& (2147483647 : Int32)) - ((p1 &&& (2147483647 : Int32)) / (13 : Int32)) * (13 : Int32))), .unset, .unset, .unset, .unset] [(.int ((p1 &&& (2147483647 : Int32)) - ((p1 &&& (2147483647 : Int32)) / (13 : Int32)) * (13 : Int32)))])) rfl (by rw [hml]; rfl) (argsL := [(.int ((p1 &&& (2147483647 : Int32)) - ((p1 &&& (2147483647 : Int32)) / (13 : Int32)) * (13 : Int32)))]) (rest := []) (lenOf pd_0_0 rfl) rfl (by show 2 * 0 + _ ≤ _; exact Nat.le_of_eq rfl) (hb hby at_9) (fun _ _ => ⟨rfl, e0, (by decide : 0 + 0 ≤ _), (by decide : 0 + 0 ≤ _)⟩)
  dsimp only [Pt.U, Pt.locs, Pt.cells, Pt.slots] at X2 l2 y2 z2 st2 hQ2
  subst l2 y2 z2
  obtain ⟨rfl, N2q, e2⟩ := hQ2
  have N2 := Fr.app N0 N2q
  obtain ⟨cq3, kq3, q3a, q3b, q3c⟩ := isOf hZ e2 E_w
  obtain ⟨_, _, ⟨T3, L3, k3, n3⟩, -, X3, ⟨Lc3, hQ3, l3, y3, z3⟩, st3⟩ := X2.virtualBack hx (y := (⟨"com/example/violet_dye/violetdye/runtime/LibraryCalls$Summary", "thrown", "()Lcom/example/violet_dye/violetdye/runtime/LibraryCalls$Summary;"⟩ : MethodName)) (z := (⟨"com/example/violet_dye/violetdye/runtime/LibraryCalls$Summary", "thrown", "()Lcom/example/violet_dye/violetdye/runtime/LibraryCalls$Summary;"⟩ : MethodName)) hown (mvT hZ (hw _ (List.mem_of_getElem? (i := 8) rfl))) (mvT hZ (hw _ (List.mem_of_getElem? (i := 9) rfl))) (notFace_of_selects (args := #[]) (mvT hZ (hw _ (List.mem_of_getElem? (i := 11) rfl)))) (mvT hZ (hw _ (List.mem_of_getElem? (i := 11) rfl))) (mvT hZ (hw _ (List.mem_of_getElem? (i := 10) rfl))) (by decide) (backOf (W := 0) (HT) hZ (hw _ (List.mem_of_getElem? (i := 12) rfl)) (hw _ (List.mem_of_getElem? (i := 6) rfl)) (by decide) (by decide)) q3a q3c (g := (mkF m 14 #[.val (.int p1), .val (.int ((p1 &&& (2147483647 : Int32)) - ((p1 &&& (2147483647 : Int32)) / (13 : Int32)) * (13 : Int32))), .val (.ref w), .unset, .unset, .unset] [(.ref w)])) rfl (by rw [hml]; rfl) (Steps.refl _) (argsL := []) (rest := []) (lenOf pd_0_1 rfl) rfl (by show 2 * 0 + _ ≤ _; exact Nat.le_of_eq rfl) (hb hby at_14) (fun _ _ => ⟨rfl, e2, (by decide : 0 + 0 ≤ _), (by decide : 0 + 0 ≤ _)⟩)
  dsimp only [Pt.U, Pt.locs, Pt.cells, Pt.slots] at X3 l3 y3 z3 st3 hQ3
  subst l3 y3 z3
  obtain ⟨rfl, N3q, e3⟩ := hQ3
  have N3 := Fr.app N2 N3q
  obtain ⟨T4, X4, e4, st4⟩ := getS2 X3 hx hZ hown (host := "") (Or.inl (hw _ (List.mem_of_getElem? (i := 5) rfl))) Via.refl e3 S_LibraryCalls_Summary_READ (g := (mkF m 23 #[.val (.int p1), .val (.int ((p1 &&& (2147483647 : Int32)) - ((p1 &&& (2147483647 : Int32)) / (13 : Int32)) * (13 : Int32))), .val (.ref w), .val (.ref wR), .unset, .unset] [])) rfl (hb hby at_23)
  obtain ⟨cq5, kq5, q5a, q5b, q5c⟩ := isOf hZ e4 E_wR
  obtain ⟨_, _, ⟨T5, L5, k5, n5⟩, -, X5, ⟨Lc5, hQ5, l5, y5, z5⟩, st5⟩ := X4.virtualBack hx (y := (⟨"com/example/violet_dye/violetdye/runtime/LibraryCalls$Summary", "thrown", "()Lcom/example/violet_dye/violetdye/runtime/LibraryCalls$Summary;"⟩ : MethodName)) (z := (⟨"com/example/violet_dye/violetdye/runtime/LibraryCalls$Summary", "thrown", "()Lcom/example/violet_dye/violetdye/runtime/LibraryCalls$Summary;"⟩ : MethodName)) hown (mvT hZ (hw _ (List.mem_of_getElem? (i := 8) rfl))) (mvT hZ (hw _ (List.mem_of_getElem? (i := 9) rfl))) (notFace_of_selects (args := #[]) (mvT hZ (hw _ (List.mem_of_getElem? (i := 11) rfl)))) (mvT hZ (hw _ (List.mem_of_getElem? (i := 11) rfl))) (mvT hZ (hw _ (List.mem_of_getElem? (i := 10) rfl))) (by decide) (backOf (W := 0) (HT2) hZ (hw _ (List.mem_of_getElem? (i := 12) rfl)) (hw _ (List.mem_of_getElem? (i := 6) rfl)) (by decide) (by decide)) q5a q5c (g := (mkF m 53 #[.val (.int p1), .val (.int ((p1 &&& (2147483647 : Int32)) - ((p1 &&& (2147483647 : Int32)) / (13 : Int32)) * (13 : Int32))), .val (.ref w), .val (.ref wR), .val (.ref wR), .unset] [(.ref wR)])) rfl (by rw [hml]; rfl) (Steps.refl _) (argsL := []) (rest := []) (lenOf pd_0_1 rfl) rfl (by show 2 * 0 + _ ≤ _; exact Nat.le_of_eq rfl) (hb hby at_53) (fun _ _ => ⟨rfl, e4, (by decide : 0 + 0 ≤ _), (by decide : 0 + 0 ≤ _)⟩)
  dsimp only [Pt.U, Pt.locs, Pt.cells, Pt.slots] at X5 l5 y5 z5 st5 hQ5
  subst l5 y5 z5
  obtain ⟨rfl, N5q, e5⟩ := hQ5
  have N5 := Fr.app N3 N5q
  obtain ⟨fs, hr, hrun, hended, hW, hsame⟩ := X5.leave (v := some (.int (1 : Int32))) (fun h => by rw [Bd.returns] at h; cases h)
  refine ⟨_, _, pre0 _ ?_, hrun, hended, _, _, rfl, ?_, ⟨_, rfl⟩, hW, hsame.mono (by decide) (by decide)⟩
  · show Steps p.tables e below (s₁.setTop (mkF m 0 #[.val (.int p1), .unset, .unset, .unset, .unset, .unset] [])) _
    refine XS.iloadN X0.here hx rfl (hb hby at_0) rfl ?_
    show Steps p.tables e below (s₁.setTop (mkF m 1 #[.val (.int p1), .unset, .unset, .unset, .unset, .unset] [(.int p1)])) _
    refine X0.ldcInt hx hown (mvT hZ (hw _ (List.mem_of_getElem? (i := 0) rfl))) (g := (mkF m 1 #[.val (.int p1), .unset, .unset, .unset, .unset, .unset] [(.int p1)])) rfl (hb hby at_1) _ ?_
    show Steps p.tables e below (s₁.setTop (mkF m 3 #[.val (.int p1), .unset, .unset, .unset, .unset, .unset] [(.int (2147483647 : Int32)), (.int p1)])) _
    refine XS.iand X0.here hx rfl (hb hby at_3) rfl ?_
    show Steps p.tables e below (s₁.setTop (mkF m 4 #[.val (.int p1), .unset, .unset, .unset, .unset, .unset] [(.int (p1 &&& (2147483647 : Int32)))])) _
    refine XS.bipush X0.here hx rfl (hb hby at_4) ?_
    show Steps p.tables e below (s₁.setTop (mkF m 6 #[.val (.int p1), .unset, .unset, .unset, .unset, .unset] [(.int (13 : Int32)), (.int (p1 &&& (2147483647 : Int32)))])) _
    refine XS.irem X0.here hx rfl (hb hby at_6) rfl (by decide) ?_
    show Steps p.tables e below (s₁.setTop (mkF m 7 #[.val (.int p1), .unset, .unset, .unset, .unset, .unset] [(.int ((p1 &&& (2147483647 : Int32)) - ((p1 &&& (2147483647 : Int32)) / (13 : Int32)) * (13 : Int32)))])) _
    refine XS.istoreN X0.here hx rfl (hb hby at_7) rfl (l' := #[.val (.int p1), .val (.int ((p1 &&& (2147483647 : Int32)) - ((p1 &&& (2147483647 : Int32)) / (13 : Int32)) * (13 : Int32))), .unset, .unset, .unset, .unset]) rfl ?_
    show Steps p.tables e below (s₁.setTop (mkF m 8 #[.val (.int p1), .val (.int ((p1 &&& (2147483647 : Int32)) - ((p1 &&& (2147483647 : Int32)) / (13 : Int32)) * (13 : Int32))), .unset, .unset, .unset, .unset] [])) _
    refine XS.iloadN X0.here hx rfl (hb hby at_8) rfl ?_
    show Steps p.tables e below (s₁.setTop (mkF m 9 #[.val (.int p1), .val (.int ((p1 &&& (2147483647 : Int32)) - ((p1 &&& (2147483647 : Int32)) / (13 : Int32)) * (13 : Int32))), .unset, .unset, .unset, .unset] [(.int ((p1 &&& (2147483647 : Int32)) - ((p1 &&& (2147483647 : Int32)) / (13 : Int32)) * (13 : Int32)))])) _
    refine st2 _ ?_
    show Steps p.tables e below (T2.setTop (mkF m 12 #[.val (.int p1), .val (.int ((p1 &&& (2147483647 : Int32)) - ((p1 &&& (2147483647 : Int32)) / (13 : Int32)) * (13 : Int32))), .unset, .unset, .unset, .unset] [(.ref w)])) _
    refine XS.astoreN X2.here hx rfl (hb hby at_12) rfl rfl (l' := #[.val (.int p1), .val (.int ((p1 &&& (2147483647 : Int32)) - ((p1 &&& (2147483647 : Int32)) / (13 : Int32)) * (13 : Int32))), .val (.ref w), .unset, .unset, .unset]) rfl ?_
    show Steps p.tables e below (T2.setTop (mkF m 13 #[.val (.int p1), .val (.int ((p1 &&& (2147483647 : Int32)) - ((p1 &&& (2147483647 : Int32)) / (13 : Int32)) * (13 : Int32))), .val (.ref w), .unset, .unset, .unset] [])) _
    refine XS.aloadN X2.here hx rfl (hb hby at_13) rfl rfl ?_
    show Steps p.tables e below (T2.setTop (mkF m 14 #[.val (.int p1), .val (.int ((p1 &&& (2147483647 : Int32)) - ((p1 &&& (2147483647 : Int32)) / (13 : Int32)) * (13 : Int32))), .val (.ref w), .unset, .unset, .unset] [(.ref w)])) _
    refine st3.trans ?_
    show Steps p.tables e below (T3.setTop (mkF m 17 #[.val (.int p1), .val (.int ((p1 &&& (2147483647 : Int32)) - ((p1 &&& (2147483647 : Int32)) / (13 : Int32)) * (13 : Int32))), .val (.ref w), .unset, .unset, .unset] [(.ref wR)])) _
    refine XS.astoreN X3.here hx rfl (hb hby at_17) rfl rfl (l' := #[.val (.int p1), .val (.int ((p1 &&& (2147483647 : Int32)) - ((p1 &&& (2147483647 : Int32)) / (13 : Int32)) * (13 : Int32))), .val (.ref w), .val (.ref wR), .unset, .unset]) rfl ?_
    show Steps p.tables e below (T3.setTop (mkF m 18 #[.val (.int p1), .val (.int ((p1 &&& (2147483647 : Int32)) - ((p1 &&& (2147483647 : Int32)) / (13 : Int32)) * (13 : Int32))), .val (.ref w), .val (.ref wR), .unset, .unset] [])) _
    refine XS.iloadN X3.here hx rfl (hb hby at_18) rfl ?_
    show Steps p.tables e below (T3.setTop (mkF m 19 #[.val (.int p1), .val (.int ((p1 &&& (2147483647 : Int32)) - ((p1 &&& (2147483647 : Int32)) / (13 : Int32)) * (13 : Int32))), .val (.ref w), .val (.ref wR), .unset, .unset] [(.int ((p1 &&& (2147483647 : Int32)) - ((p1 &&& (2147483647 : Int32)) / (13 : Int32)) * (13 : Int32)))])) _
    refine XS.iconst X3.here hx rfl (hb hby at_19) ?_
    show Steps p.tables e below (T3.setTop (mkF m 20 #[.val (.int p1), .val (.int ((p1 &&& (2147483647 : Int32)) - ((p1 &&& (2147483647 : Int32)) / (13 : Int32)) * (13 : Int32))), .val (.ref w), .val (.ref wR), .unset, .unset] [(.int (3 : Int32)), (.int ((p1 &&& (2147483647 : Int32)) - ((p1 &&& (2147483647 : Int32)) / (13 : Int32)) * (13 : Int32)))])) _
    refine XS.icmpNo X3.here hx rfl (hb hby at_20) rfl (flt hc20).2.2.1 ?_
    show Steps p.tables e below (T3.setTop (mkF m 23 #[.val (.int p1), .val (.int ((p1 &&& (2147483647 : Int32)) - ((p1 &&& (2147483647 : Int32)) / (13 : Int32)) * (13 : Int32))), .val (.ref w), .val (.ref wR), .unset, .unset] [])) _
    refine st4 _ ?_
    show Steps p.tables e below (T4.setTop (mkF m 26 #[.val (.int p1), .val (.int ((p1 &&& (2147483647 : Int32)) - ((p1 &&& (2147483647 : Int32)) / (13 : Int32)) * (13 : Int32))), .val (.ref w), .val (.ref wR), .unset, .unset] [(.ref wR)])) _
    refine XS.astore X4.here hx rfl (hb hby at_26) rfl rfl (l' := #[.val (.int p1), .val (.int ((p1 &&& (2147483647 : Int32)) - ((p1 &&& (2147483647 : Int32)) / (13 : Int32)) * (13 : Int32))), .val (.ref w), .val (.ref wR), .val (.ref wR), .unset]) rfl ?_
    show Steps p.tables e below (T4.setTop (mkF m 28 #[.val (.int p1), .val (.int ((p1 &&& (2147483647 : Int32)) - ((p1 &&& (2147483647 : Int32)) / (13 : Int32)) * (13 : Int32))), .val (.ref w), .val (.ref wR), .val (.ref wR), .unset] [])) _
    refine XS.goto X4.here hx rfl (pc0 := 28) (pc' := 48) rfl (hb hby at_28) (by decide) (by decide) ?_
    show Steps p.tables e below (T4.setTop (mkF m 48 #[.val (.int p1), .val (.int ((p1 &&& (2147483647 : Int32)) - ((p1 &&& (2147483647 : Int32)) / (13 : Int32)) * (13 : Int32))), .val (.ref w), .val (.ref wR), .val (.ref wR), .unset] [])) _
    refine XS.aloadN X4.here hx rfl (hb hby at_48) rfl rfl ?_
    show Steps p.tables e below (T4.setTop (mkF m 49 #[.val (.int p1), .val (.int ((p1 &&& (2147483647 : Int32)) - ((p1 &&& (2147483647 : Int32)) / (13 : Int32)) * (13 : Int32))), .val (.ref w), .val (.ref wR), .val (.ref wR), .unset] [(.ref wR)])) _
    refine XS.ifnullNo X4.here hx rfl (hb hby at_49) rfl ?_
    show Steps p.tables e below (T4.setTop (mkF m 52 #[.val (.int p1), .val (.int ((p1 &&& (2147483647 : Int32)) - ((p1 &&& (2147483647 : Int32)) / (13 : Int32)) * (13 : Int32))), .val (.ref w), .val (.ref wR), .val (.ref wR), .unset] [])) _
    refine XS.aloadN X4.here hx rfl (hb hby at_52) rfl rfl ?_
    show Steps p.tables e below (T4.setTop (mkF m 53 #[.val (.int p1), .val (.int ((p1 &&& (2147483647 : Int32)) - ((p1 &&& (2147483647 : Int32)) / (13 : Int32)) * (13 : Int32))), .val (.ref w), .val (.ref wR), .val (.ref wR), .unset] [(.ref wR)])) _
    refine st5.trans ?_
    show Steps p.tables e below (T5.setTop (mkF m 56 #[.val (.int p1), .val (.int ((p1 &&& (2147483647 : Int32)) - ((p1 &&& (2147483647 : Int32)) / (13 : Int32)) * (13 : Int32))), .val (.ref w), .val (.ref wR), .val (.ref wR), .unset] [(.ref wR)])) _
    refine XS.aloadN X5.here hx rfl (hb hby at_56) rfl rfl ?_
    show Steps p.tables e below (T5.setTop (mkF m 57 #[.val (.int p1), .val (.int ((p1 &&& (2147483647 : Int32)) - ((p1 &&& (2147483647 : Int32)) / (13 : Int32)) * (13 : Int32))), .val (.ref w), .val (.ref wR), .val (.ref wR), .unset] [(.ref wR), (.ref wR)])) _
    refine Jvm.RoadKit.acmp (g := (mkF m 57 #[.val (.int p1), .val (.int ((p1 &&& (2147483647 : Int32)) - ((p1 &&& (2147483647 : Int32)) / (13 : Int32)) * (13 : Int32))), .val (.ref w), .val (.ref wR), .val (.ref wR), .unset] [(.ref wR), (.ref wR)])) X5 hx rfl rfl rfl (pc0 := 57) (pc' := 60) (same := true) rfl (hb hby at_57) rfl (decide_eq_true rfl) (by decide) (by decide) ?_
    show Steps p.tables e below (T5.setTop (mkF m 60 #[.val (.int p1), .val (.int ((p1 &&& (2147483647 : Int32)) - ((p1 &&& (2147483647 : Int32)) / (13 : Int32)) * (13 : Int32))), .val (.ref w), .val (.ref wR), .val (.ref wR), .unset] [])) _
    refine XS.iconst X5.here hx rfl (hb hby at_60) ?_
    show Steps p.tables e below (T5.setTop (mkF m 61 #[.val (.int p1), .val (.int ((p1 &&& (2147483647 : Int32)) - ((p1 &&& (2147483647 : Int32)) / (13 : Int32)) * (13 : Int32))), .val (.ref w), .val (.ref wR), .val (.ref wR), .unset] [(.int (1 : Int32))])) _
    refine XS.goto X5.here hx rfl (pc0 := 61) (pc' := 65) rfl (hb hby at_61) (by decide) (by decide) ?_
    show Steps p.tables e below (T5.setTop (mkF m 65 #[.val (.int p1), .val (.int ((p1 &&& (2147483647 : Int32)) - ((p1 &&& (2147483647 : Int32)) / (13 : Int32)) * (13 : Int32))), .val (.ref w), .val (.ref wR), .val (.ref wR), .unset] [(.int (1 : Int32))])) _
    refine XS.istore X5.here hx rfl (hb hby at_65) rfl (l' := #[.val (.int p1), .val (.int ((p1 &&& (2147483647 : Int32)) - ((p1 &&& (2147483647 : Int32)) / (13 : Int32)) * (13 : Int32))), .val (.ref w), .val (.ref wR), .val (.ref wR), .val (.int (1 : Int32))]) rfl ?_
    show Steps p.tables e below (T5.setTop (mkF m 67 #[.val (.int p1), .val (.int ((p1 &&& (2147483647 : Int32)) - ((p1 &&& (2147483647 : Int32)) / (13 : Int32)) * (13 : Int32))), .val (.ref w), .val (.ref wR), .val (.ref wR), .val (.int (1 : Int32))] [])) _
    refine XS.aloadN X5.here hx rfl (hb hby at_67) rfl rfl ?_
    show Steps p.tables e below (T5.setTop (mkF m 68 #[.val (.int p1), .val (.int ((p1 &&& (2147483647 : Int32)) - ((p1 &&& (2147483647 : Int32)) / (13 : Int32)) * (13 : Int32))), .val (.ref w), .val (.ref wR), .val (.ref wR), .val (.int (1 : Int32))] [(.ref wR)])) _
    refine XS.aload X5.here hx rfl (hb hby at_68) rfl rfl ?_
    show Steps p.tables e below (T5.setTop (mkF m 70 #[.val (.int p1), .val (.int ((p1 &&& (2147483647 : Int32)) - ((p1 &&& (2147483647 : Int32)) / (13 : Int32)) * (13 : Int32))), .val (.ref w), .val (.ref wR), .val (.ref wR), .val (.int (1 : Int32))] [(.ref wR), (.ref wR)])) _
    refine Jvm.RoadKit.acmp (g := (mkF m 70 #[.val (.int p1), .val (.int ((p1 &&& (2147483647 : Int32)) - ((p1 &&& (2147483647 : Int32)) / (13 : Int32)) * (13 : Int32))), .val (.ref w), .val (.ref wR), .val (.ref wR), .val (.int (1 : Int32))] [(.ref wR), (.ref wR)])) X5 hx rfl rfl rfl (pc0 := 70) (pc' := 73) (same := true) rfl (hb hby at_70) rfl (decide_eq_true rfl) (by decide) (by decide) ?_
    show Steps p.tables e below (T5.setTop (mkF m 73 #[.val (.int p1), .val (.int ((p1 &&& (2147483647 : Int32)) - ((p1 &&& (2147483647 : Int32)) / (13 : Int32)) * (13 : Int32))), .val (.ref w), .val (.ref wR), .val (.ref wR), .val (.int (1 : Int32))] [])) _
    refine XS.iload X5.here hx rfl (hb hby at_73) rfl ?_
    show Steps p.tables e below (T5.setTop (mkF m 75 #[.val (.int p1), .val (.int ((p1 &&& (2147483647 : Int32)) - ((p1 &&& (2147483647 : Int32)) / (13 : Int32)) * (13 : Int32))), .val (.ref w), .val (.ref wR), .val (.ref wR), .val (.int (1 : Int32))] [(.int (1 : Int32))])) _
    refine XS.ifNo X5.here hx rfl (hb hby at_75) rfl ((if0 _ _).trans (feq hc75).1) ?_
    show Steps p.tables e below (T5.setTop (mkF m 78 #[.val (.int p1), .val (.int ((p1 &&& (2147483647 : Int32)) - ((p1 &&& (2147483647 : Int32)) / (13 : Int32)) * (13 : Int32))), .val (.ref w), .val (.ref wR), .val (.ref wR), .val (.int (1 : Int32))] [])) _
    refine XS.iconst X5.here hx rfl (hb hby at_78) ?_
    show Steps p.tables e below (T5.setTop (mkF m 79 #[.val (.int p1), .val (.int ((p1 &&& (2147483647 : Int32)) - ((p1 &&& (2147483647 : Int32)) / (13 : Int32)) * (13 : Int32))), .val (.ref w), .val (.ref wR), .val (.ref wR), .val (.int (1 : Int32))] [(.int (1 : Int32))])) _
    refine XS.goto X5.here hx rfl (pc0 := 79) (pc' := 83) rfl (hb hby at_79) (by decide) (by decide) ?_
    show Steps p.tables e below (T5.setTop (mkF m 83 #[.val (.int p1), .val (.int ((p1 &&& (2147483647 : Int32)) - ((p1 &&& (2147483647 : Int32)) / (13 : Int32)) * (13 : Int32))), .val (.ref w), .val (.ref wR), .val (.ref wR), .val (.int (1 : Int32))] [(.int (1 : Int32))])) _
    exact retN X5 hx (t := .boolean) Bd.returns (by simp) (hb hby at_83) hr
  · show Q0_A Z p1 w wR h0 n0 _ T5.heap _
    rw [e5]
    exact ⟨rfl, N5, rfl⟩
def Q0_B (Z : State) (p1 : Int32) (w : Addr) (wI : Addr) (h0 : Heap) (n0 : Nat) (v : Option Value) (h : Heap) (L : List Loc) : Prop := v = some (.int (1 : Int32)) ∧ Fr n0 L ∧ h = h0
set_option maxRecDepth 65536 in
set_option maxHeartbeats 40000000 in
theorem rm0_B (l : Launch) (Z : State) (a0 : Array Value) (hw : ∀ d ∈ tables_1, d.before a0 Z = true) (ws : List Jvm.Cond) (p1 : Int32) (w : Addr) (wI : Addr) (h0 : Heap) (n0 : Nat) (Z0 : n0 ≤ h0.size) (HP : own_Pick l Z h0 n0 ((p1 &&& (2147483647 : Int32)) - ((p1 &&& (2147483647 : Int32)) / (13 : Int32)) * (13 : Int32)) w) (E_w : Exa Z h0 w "com/example/violet_dye/violetdye/runtime/LibraryCalls$Summary") (HT : own_Thrown l Z h0 n0 w (.ref wI)) (S_LibraryCalls_Summary_INTO : Sta Z h0 "com/example/violet_dye/violetdye/runtime/LibraryCalls$Summary" "INTO" "Lcom/example/violet_dye/violetdye/runtime/LibraryCalls$Summary;" (.ref wI)) (E_wI : Exa Z h0 wI "com/example/violet_dye/violetdye/runtime/LibraryCalls$Summary") (HT2 : own_Thrown l Z h0 n0 wI (.ref wI)) (hc20 : (3 : Int32) < ((p1 &&& (2147483647 : Int32)) - ((p1 &&& (2147483647 : Int32)) / (13 : Int32)) * (13 : Int32))) (hc34 : ((p1 &&& (2147483647 : Int32)) - ((p1 &&& (2147483647 : Int32)) / (13 : Int32)) * (13 : Int32)) = (8 : Int32)) (hc75 : ¬ ((1 : Int32) = (0 : Int32))) :
    MetFree l x (head1 (Jvm.Cond.code x code maxLocals ret :: ws) room_1) (fun a U => a = #[(.int p1)] ∧ Z.Warmed39 U.vm ∧ U.heap = h0) (fun _ _ _ _ _ => True) (fun _ U o U' => ∃ v L, o = .returned v ∧ Q0_B Z p1 w wI h0 n0 v U'.heap L ∧ FrameEnd U o U' L room_1.cells room_1.slots) := by
  refine MetFree.of_bodySF (plainFor_of_name pn_0) hisR ?_
  intro p e s m args below meth c s₁ Bd hml0 hP hK
  obtain ⟨rfl, hZ, hh⟩ := hP
  have hx := Bd.exec
  have hby := Bd.bytes
  have hml : c.maxLocals = 6 := hml0
  have hown : s.vm.findClass "com/example/violet_dye/violetdye/runtime/SummaryThrownPinLaw" = some m.cls := findClass_of_methodNamed Bd.named
  have hnm := (name_of_methodNamed Bd.named Bd.method).1
  have X0 : Stand p l e room_1 s m #[(.int p1)] below meth c s₁ [] 0 0 := Stand.of_body Bd
  have e0 : s₁.heap = h0 := by rw [← hh, Bd.state]; rfl
  have N0 := Fr.nil n0
  have pre0 : ∀ t, Steps p.tables e below (s₁.setTop (mkF m 0 #[.val (.int p1), .unset, .unset, .unset, .unset, .unset] [])) t → Steps p.tables e below (s₁.setTop (entryFrame m #[(.int p1)] maxLocals)) t := fun t k => castTop (ef_0 m p1) k
  obtain ⟨_, _, ⟨T2, L2, k2, n2⟩, -, X2, ⟨Lc2, hQ2, l2, y2, z2⟩, st2⟩ := Jvm.LawKit.callS X0 hx (y := (⟨"com/example/violet_dye/violetdye/runtime/SummaryThrownPinLaw", "pick", "(I)Lcom/example/violet_dye/violetdye/runtime/LibraryCalls$Summary;"⟩ : MethodName)) hown (mvT hZ (hw _ (List.mem_of_getElem? (i := 1) rfl))) (mvT hZ (hw _ (List.mem_of_getElem? (i := 2) rfl))) (mvT hZ (hw _ (List.mem_of_getElem? (i := 3) rfl))) (mvT hZ (hw _ (List.mem_of_getElem? (i := 4) rfl))) (by decide) (backOf (W := 0) (HP) hZ (hw _ (List.mem_of_getElem? (i := 4) rfl)) (hw _ (List.mem_of_getElem? (i := 3) rfl)) (by decide) (by decide)) (g := (mkF m 9 #[.val (.int p1), .val (.int ((p1 &&& (2147483647 : Int32)) - ((p1 &&& (2147483647 : Int32)) / (13 : Int32)) * (13 : Int32))), .unset, .unset, .unset, .unset] [(.int ((p1 &&& (2147483647 : Int32)) - ((p1 &&& (2147483647 : Int32)) / (13 : Int32)) * (13 : Int32)))])) rfl (by rw [hml]; rfl) (argsL := [(.int ((p1 &&& (2147483647 : Int32)) - ((p1 &&& (2147483647 : Int32)) / (13 : Int32)) * (13 : Int32)))]) (rest := []) (lenOf pd_0_0 rfl) rfl (by show 2 * 0 + _ ≤ _; exact Nat.le_of_eq rfl) (hb hby at_9) (fun _ _ => ⟨rfl, e0, (by decide : 0 + 0 ≤ _), (by decide : 0 + 0 ≤ _)⟩)
  dsimp only [Pt.U, Pt.locs, Pt.cells, Pt.slots] at X2 l2 y2 z2 st2 hQ2
  subst l2 y2 z2
  obtain ⟨rfl, N2q, e2⟩ := hQ2
  have N2 := Fr.app N0 N2q
  obtain ⟨cq3, kq3, q3a, q3b, q3c⟩ := isOf hZ e2 E_w
  obtain ⟨_, _, ⟨T3, L3, k3, n3⟩, -, X3, ⟨Lc3, hQ3, l3, y3, z3⟩, st3⟩ := X2.virtualBack hx (y := (⟨"com/example/violet_dye/violetdye/runtime/LibraryCalls$Summary", "thrown", "()Lcom/example/violet_dye/violetdye/runtime/LibraryCalls$Summary;"⟩ : MethodName)) (z := (⟨"com/example/violet_dye/violetdye/runtime/LibraryCalls$Summary", "thrown", "()Lcom/example/violet_dye/violetdye/runtime/LibraryCalls$Summary;"⟩ : MethodName)) hown (mvT hZ (hw _ (List.mem_of_getElem? (i := 8) rfl))) (mvT hZ (hw _ (List.mem_of_getElem? (i := 9) rfl))) (notFace_of_selects (args := #[]) (mvT hZ (hw _ (List.mem_of_getElem? (i := 11) rfl)))) (mvT hZ (hw _ (List.mem_of_getElem? (i := 11) rfl))) (mvT hZ (hw _ (List.mem_of_getElem? (i := 10) rfl))) (by decide) (backOf (W := 0) (HT) hZ (hw _ (List.mem_of_getElem? (i := 12) rfl)) (hw _ (List.mem_of_getElem? (i := 6) rfl)) (by decide) (by decide)) q3a q3c (g := (mkF m 14 #[.val (.int p1), .val (.int ((p1 &&& (2147483647 : Int32)) - ((p1 &&& (2147483647 : Int32)) / (13 : Int32)) * (13 : Int32))), .val (.ref w), .unset, .unset, .unset] [(.ref w)])) rfl (by rw [hml]; rfl) (Steps.refl _) (argsL := []) (rest := []) (lenOf pd_0_1 rfl) rfl (by show 2 * 0 + _ ≤ _; exact Nat.le_of_eq rfl) (hb hby at_14) (fun _ _ => ⟨rfl, e2, (by decide : 0 + 0 ≤ _), (by decide : 0 + 0 ≤ _)⟩)
  dsimp only [Pt.U, Pt.locs, Pt.cells, Pt.slots] at X3 l3 y3 z3 st3 hQ3
  subst l3 y3 z3
  obtain ⟨rfl, N3q, e3⟩ := hQ3
  have N3 := Fr.app N2 N3q
  obtain ⟨T4, X4, e4, st4⟩ := getS2 X3 hx hZ hown (host := "") (Or.inl (hw _ (List.mem_of_getElem? (i := 35) rfl))) Via.refl e3 S_LibraryCalls_Summary_INTO (g := (mkF m 37 #[.val (.int p1), .val (.int ((p1 &&& (2147483647 : Int32)) - ((p1 &&& (2147483647 : Int32)) / (13 : Int32)) * (13 : Int32))), .val (.ref w), .val (.ref wI), .unset, .unset] [])) rfl (hb hby at_37)
  obtain ⟨cq5, kq5, q5a, q5b, q5c⟩ := isOf hZ e4 E_wI
  obtain ⟨_, _, ⟨T5, L5, k5, n5⟩, -, X5, ⟨Lc5, hQ5, l5, y5, z5⟩, st5⟩ := X4.virtualBack hx (y := (⟨"com/example/violet_dye/violetdye/runtime/LibraryCalls$Summary", "thrown", "()Lcom/example/violet_dye/violetdye/runtime/LibraryCalls$Summary;"⟩ : MethodName)) (z := (⟨"com/example/violet_dye/violetdye/runtime/LibraryCalls$Summary", "thrown", "()Lcom/example/violet_dye/violetdye/runtime/LibraryCalls$Summary;"⟩ : MethodName)) hown (mvT hZ (hw _ (List.mem_of_getElem? (i := 8) rfl))) (mvT hZ (hw _ (List.mem_of_getElem? (i := 9) rfl))) (notFace_of_selects (args := #[]) (mvT hZ (hw _ (List.mem_of_getElem? (i := 11) rfl)))) (mvT hZ (hw _ (List.mem_of_getElem? (i := 11) rfl))) (mvT hZ (hw _ (List.mem_of_getElem? (i := 10) rfl))) (by decide) (backOf (W := 0) (HT2) hZ (hw _ (List.mem_of_getElem? (i := 12) rfl)) (hw _ (List.mem_of_getElem? (i := 6) rfl)) (by decide) (by decide)) q5a q5c (g := (mkF m 53 #[.val (.int p1), .val (.int ((p1 &&& (2147483647 : Int32)) - ((p1 &&& (2147483647 : Int32)) / (13 : Int32)) * (13 : Int32))), .val (.ref w), .val (.ref wI), .val (.ref wI), .unset] [(.ref wI)])) rfl (by rw [hml]; rfl) (Steps.refl _) (argsL := []) (rest := []) (lenOf pd_0_1 rfl) rfl (by show 2 * 0 + _ ≤ _; exact Nat.le_of_eq rfl) (hb hby at_53) (fun _ _ => ⟨rfl, e4, (by decide : 0 + 0 ≤ _), (by decide : 0 + 0 ≤ _)⟩)
  dsimp only [Pt.U, Pt.locs, Pt.cells, Pt.slots] at X5 l5 y5 z5 st5 hQ5
  subst l5 y5 z5
  obtain ⟨rfl, N5q, e5⟩ := hQ5
  have N5 := Fr.app N3 N5q
  obtain ⟨fs, hr, hrun, hended, hW, hsame⟩ := X5.leave (v := some (.int (1 : Int32))) (fun h => by rw [Bd.returns] at h; cases h)
  refine ⟨_, _, pre0 _ ?_, hrun, hended, _, _, rfl, ?_, ⟨_, rfl⟩, hW, hsame.mono (by decide) (by decide)⟩
  · show Steps p.tables e below (s₁.setTop (mkF m 0 #[.val (.int p1), .unset, .unset, .unset, .unset, .unset] [])) _
    refine XS.iloadN X0.here hx rfl (hb hby at_0) rfl ?_
    show Steps p.tables e below (s₁.setTop (mkF m 1 #[.val (.int p1), .unset, .unset, .unset, .unset, .unset] [(.int p1)])) _
    refine X0.ldcInt hx hown (mvT hZ (hw _ (List.mem_of_getElem? (i := 0) rfl))) (g := (mkF m 1 #[.val (.int p1), .unset, .unset, .unset, .unset, .unset] [(.int p1)])) rfl (hb hby at_1) _ ?_
    show Steps p.tables e below (s₁.setTop (mkF m 3 #[.val (.int p1), .unset, .unset, .unset, .unset, .unset] [(.int (2147483647 : Int32)), (.int p1)])) _
    refine XS.iand X0.here hx rfl (hb hby at_3) rfl ?_
    show Steps p.tables e below (s₁.setTop (mkF m 4 #[.val (.int p1), .unset, .unset, .unset, .unset, .unset] [(.int (p1 &&& (2147483647 : Int32)))])) _
    refine XS.bipush X0.here hx rfl (hb hby at_4) ?_
    show Steps p.tables e below (s₁.setTop (mkF m 6 #[.val (.int p1), .unset, .unset, .unset, .unset, .unset] [(.int (13 : Int32)), (.int (p1 &&& (2147483647 : Int32)))])) _
    refine XS.irem X0.here hx rfl (hb hby at_6) rfl (by decide) ?_
    show Steps p.tables e below (s₁.setTop (mkF m 7 #[.val (.int p1), .unset, .unset, .unset, .unset, .unset] [(.int ((p1 &&& (2147483647 : Int32)) - ((p1 &&& (2147483647 : Int32)) / (13 : Int32)) * (13 : Int32)))])) _
    refine XS.istoreN X0.here hx rfl (hb hby at_7) rfl (l' := #[.val (.int p1), .val (.int ((p1 &&& (2147483647 : Int32)) - ((p1 &&& (2147483647 : Int32)) / (13 : Int32)) * (13 : Int32))), .unset, .unset, .unset, .unset]) rfl ?_
    show Steps p.tables e below (s₁.setTop (mkF m 8 #[.val (.int p1), .val (.int ((p1 &&& (2147483647 : Int32)) - ((p1 &&& (2147483647 : Int32)) / (13 : Int32)) * (13 : Int32))), .unset, .unset, .unset, .unset] [])) _
    refine XS.iloadN X0.here hx rfl (hb hby at_8) rfl ?_
    show Steps p.tables e below (s₁.setTop (mkF m 9 #[.val (.int p1), .val (.int ((p1 &&& (2147483647 : Int32)) - ((p1 &&& (2147483647 : Int32)) / (13 : Int32)) * (13 : Int32))), .unset, .unset, .unset, .unset] [(.int ((p1 &&& (2147483647 : Int32)) - ((p1 &&& (2147483647 : Int32)) / (13 : Int32)) * (13 : Int32)))])) _
    refine st2 _ ?_
    show Steps p.tables e below (T2.setTop (mkF m 12 #[.val (.int p1), .val (.int ((p1 &&& (2147483647 : Int32)) - ((p1 &&& (2147483647 : Int32)) / (13 : Int32)) * (13 : Int32))), .unset, .unset, .unset, .unset] [(.ref w)])) _
    refine XS.astoreN X2.here hx rfl (hb hby at_12) rfl rfl (l' := #[.val (.int p1), .val (.int ((p1 &&& (2147483647 : Int32)) - ((p1 &&& (2147483647 : Int32)) / (13 : Int32)) * (13 : Int32))), .val (.ref w), .unset, .unset, .unset]) rfl ?_
    show Steps p.tables e below (T2.setTop (mkF m 13 #[.val (.int p1), .val (.int ((p1 &&& (2147483647 : Int32)) - ((p1 &&& (2147483647 : Int32)) / (13 : Int32)) * (13 : Int32))), .val (.ref w), .unset, .unset, .unset] [])) _
    refine XS.aloadN X2.here hx rfl (hb hby at_13) rfl rfl ?_
    show Steps p.tables e below (T2.setTop (mkF m 14 #[.val (.int p1), .val (.int ((p1 &&& (2147483647 : Int32)) - ((p1 &&& (2147483647 : Int32)) / (13 : Int32)) * (13 : Int32))), .val (.ref w), .unset, .unset, .unset] [(.ref w)])) _
    refine st3.trans ?_
    show Steps p.tables e below (T3.setTop (mkF m 17 #[.val (.int p1), .val (.int ((p1 &&& (2147483647 : Int32)) - ((p1 &&& (2147483647 : Int32)) / (13 : Int32)) * (13 : Int32))), .val (.ref w), .unset, .unset, .unset] [(.ref wI)])) _
    refine XS.astoreN X3.here hx rfl (hb hby at_17) rfl rfl (l' := #[.val (.int p1), .val (.int ((p1 &&& (2147483647 : Int32)) - ((p1 &&& (2147483647 : Int32)) / (13 : Int32)) * (13 : Int32))), .val (.ref w), .val (.ref wI), .unset, .unset]) rfl ?_
    show Steps p.tables e below (T3.setTop (mkF m 18 #[.val (.int p1), .val (.int ((p1 &&& (2147483647 : Int32)) - ((p1 &&& (2147483647 : Int32)) / (13 : Int32)) * (13 : Int32))), .val (.ref w), .val (.ref wI), .unset, .unset] [])) _
    refine XS.iloadN X3.here hx rfl (hb hby at_18) rfl ?_
    show Steps p.tables e below (T3.setTop (mkF m 19 #[.val (.int p1), .val (.int ((p1 &&& (2147483647 : Int32)) - ((p1 &&& (2147483647 : Int32)) / (13 : Int32)) * (13 : Int32))), .val (.ref w), .val (.ref wI), .unset, .unset] [(.int ((p1 &&& (2147483647 : Int32)) - ((p1 &&& (2147483647 : Int32)) / (13 : Int32)) * (13 : Int32)))])) _
    refine XS.iconst X3.here hx rfl (hb hby at_19) ?_
    show Steps p.tables e below (T3.setTop (mkF m 20 #[.val (.int p1), .val (.int ((p1 &&& (2147483647 : Int32)) - ((p1 &&& (2147483647 : Int32)) / (13 : Int32)) * (13 : Int32))), .val (.ref w), .val (.ref wI), .unset, .unset] [(.int (3 : Int32)), (.int ((p1 &&& (2147483647 : Int32)) - ((p1 &&& (2147483647 : Int32)) / (13 : Int32)) * (13 : Int32)))])) _
    refine XS.icmpYes X3.here hx rfl (pc0 := 20) (pc' := 31) rfl (hb hby at_20) rfl (tlt hc20).2.2.1 (by decide) (by decide) ?_
    show Steps p.tables e below (T3.setTop (mkF m 31 #[.val (.int p1), .val (.int ((p1 &&& (2147483647 : Int32)) - ((p1 &&& (2147483647 : Int32)) / (13 : Int32)) * (13 : Int32))), .val (.ref w), .val (.ref wI), .unset, .unset] [])) _
    refine XS.iloadN X3.here hx rfl (hb hby at_31) rfl ?_
    show Steps p.tables e below (T3.setTop (mkF m 32 #[.val (.int p1), .val (.int ((p1 &&& (2147483647 : Int32)) - ((p1 &&& (2147483647 : Int32)) / (13 : Int32)) * (13 : Int32))), .val (.ref w), .val (.ref wI), .unset, .unset] [(.int ((p1 &&& (2147483647 : Int32)) - ((p1 &&& (2147483647 : Int32)) / (13 : Int32)) * (13 : Int32)))])) _
    refine XS.bipush X3.here hx rfl (hb hby at_32) ?_
    show Steps p.tables e below (T3.setTop (mkF m 34 #[.val (.int p1), .val (.int ((p1 &&& (2147483647 : Int32)) - ((p1 &&& (2147483647 : Int32)) / (13 : Int32)) * (13 : Int32))), .val (.ref w), .val (.ref wI), .unset, .unset] [(.int (8 : Int32)), (.int ((p1 &&& (2147483647 : Int32)) - ((p1 &&& (2147483647 : Int32)) / (13 : Int32)) * (13 : Int32)))])) _
    refine XS.icmpNo X3.here hx rfl (hb hby at_34) rfl (teq hc34).2 ?_
    show Steps p.tables e below (T3.setTop (mkF m 37 #[.val (.int p1), .val (.int ((p1 &&& (2147483647 : Int32)) - ((p1 &&& (2147483647 : Int32)) / (13 : Int32)) * (13 : Int32))), .val (.ref w), .val (.ref wI), .unset, .unset] [])) _
    refine st4 _ ?_
    show Steps p.tables e below (T4.setTop (mkF m 40 #[.val (.int p1), .val (.int ((p1 &&& (2147483647 : Int32)) - ((p1 &&& (2147483647 : Int32)) / (13 : Int32)) * (13 : Int32))), .val (.ref w), .val (.ref wI), .unset, .unset] [(.ref wI)])) _
    refine XS.astore X4.here hx rfl (hb hby at_40) rfl rfl (l' := #[.val (.int p1), .val (.int ((p1 &&& (2147483647 : Int32)) - ((p1 &&& (2147483647 : Int32)) / (13 : Int32)) * (13 : Int32))), .val (.ref w), .val (.ref wI), .val (.ref wI), .unset]) rfl ?_
    show Steps p.tables e below (T4.setTop (mkF m 42 #[.val (.int p1), .val (.int ((p1 &&& (2147483647 : Int32)) - ((p1 &&& (2147483647 : Int32)) / (13 : Int32)) * (13 : Int32))), .val (.ref w), .val (.ref wI), .val (.ref wI), .unset] [])) _
    refine XS.goto X4.here hx rfl (pc0 := 42) (pc' := 48) rfl (hb hby at_42) (by decide) (by decide) ?_
    show Steps p.tables e below (T4.setTop (mkF m 48 #[.val (.int p1), .val (.int ((p1 &&& (2147483647 : Int32)) - ((p1 &&& (2147483647 : Int32)) / (13 : Int32)) * (13 : Int32))), .val (.ref w), .val (.ref wI), .val (.ref wI), .unset] [])) _
    refine XS.aloadN X4.here hx rfl (hb hby at_48) rfl rfl ?_
    show Steps p.tables e below (T4.setTop (mkF m 49 #[.val (.int p1), .val (.int ((p1 &&& (2147483647 : Int32)) - ((p1 &&& (2147483647 : Int32)) / (13 : Int32)) * (13 : Int32))), .val (.ref w), .val (.ref wI), .val (.ref wI), .unset] [(.ref wI)])) _
    refine XS.ifnullNo X4.here hx rfl (hb hby at_49) rfl ?_
    show Steps p.tables e below (T4.setTop (mkF m 52 #[.val (.int p1), .val (.int ((p1 &&& (2147483647 : Int32)) - ((p1 &&& (2147483647 : Int32)) / (13 : Int32)) * (13 : Int32))), .val (.ref w), .val (.ref wI), .val (.ref wI), .unset] [])) _
    refine XS.aloadN X4.here hx rfl (hb hby at_52) rfl rfl ?_
    show Steps p.tables e below (T4.setTop (mkF m 53 #[.val (.int p1), .val (.int ((p1 &&& (2147483647 : Int32)) - ((p1 &&& (2147483647 : Int32)) / (13 : Int32)) * (13 : Int32))), .val (.ref w), .val (.ref wI), .val (.ref wI), .unset] [(.ref wI)])) _
    refine st5.trans ?_
    show Steps p.tables e below (T5.setTop (mkF m 56 #[.val (.int p1), .val (.int ((p1 &&& (2147483647 : Int32)) - ((p1 &&& (2147483647 : Int32)) / (13 : Int32)) * (13 : Int32))), .val (.ref w), .val (.ref wI), .val (.ref wI), .unset] [(.ref wI)])) _
    refine XS.aloadN X5.here hx rfl (hb hby at_56) rfl rfl ?_
    show Steps p.tables e below (T5.setTop (mkF m 57 #[.val (.int p1), .val (.int ((p1 &&& (2147483647 : Int32)) - ((p1 &&& (2147483647 : Int32)) / (13 : Int32)) * (13 : Int32))), .val (.ref w), .val (.ref wI), .val (.ref wI), .unset] [(.ref wI), (.ref wI)])) _
    refine Jvm.RoadKit.acmp (g := (mkF m 57 #[.val (.int p1), .val (.int ((p1 &&& (2147483647 : Int32)) - ((p1 &&& (2147483647 : Int32)) / (13 : Int32)) * (13 : Int32))), .val (.ref w), .val (.ref wI), .val (.ref wI), .unset] [(.ref wI), (.ref wI)])) X5 hx rfl rfl rfl (pc0 := 57) (pc' := 60) (same := true) rfl (hb hby at_57) rfl (decide_eq_true rfl) (by decide) (by decide) ?_
    show Steps p.tables e below (T5.setTop (mkF m 60 #[.val (.int p1), .val (.int ((p1 &&& (2147483647 : Int32)) - ((p1 &&& (2147483647 : Int32)) / (13 : Int32)) * (13 : Int32))), .val (.ref w), .val (.ref wI), .val (.ref wI), .unset] [])) _
    refine XS.iconst X5.here hx rfl (hb hby at_60) ?_
    show Steps p.tables e below (T5.setTop (mkF m 61 #[.val (.int p1), .val (.int ((p1 &&& (2147483647 : Int32)) - ((p1 &&& (2147483647 : Int32)) / (13 : Int32)) * (13 : Int32))), .val (.ref w), .val (.ref wI), .val (.ref wI), .unset] [(.int (1 : Int32))])) _
    refine XS.goto X5.here hx rfl (pc0 := 61) (pc' := 65) rfl (hb hby at_61) (by decide) (by decide) ?_
    show Steps p.tables e below (T5.setTop (mkF m 65 #[.val (.int p1), .val (.int ((p1 &&& (2147483647 : Int32)) - ((p1 &&& (2147483647 : Int32)) / (13 : Int32)) * (13 : Int32))), .val (.ref w), .val (.ref wI), .val (.ref wI), .unset] [(.int (1 : Int32))])) _
    refine XS.istore X5.here hx rfl (hb hby at_65) rfl (l' := #[.val (.int p1), .val (.int ((p1 &&& (2147483647 : Int32)) - ((p1 &&& (2147483647 : Int32)) / (13 : Int32)) * (13 : Int32))), .val (.ref w), .val (.ref wI), .val (.ref wI), .val (.int (1 : Int32))]) rfl ?_
    show Steps p.tables e below (T5.setTop (mkF m 67 #[.val (.int p1), .val (.int ((p1 &&& (2147483647 : Int32)) - ((p1 &&& (2147483647 : Int32)) / (13 : Int32)) * (13 : Int32))), .val (.ref w), .val (.ref wI), .val (.ref wI), .val (.int (1 : Int32))] [])) _
    refine XS.aloadN X5.here hx rfl (hb hby at_67) rfl rfl ?_
    show Steps p.tables e below (T5.setTop (mkF m 68 #[.val (.int p1), .val (.int ((p1 &&& (2147483647 : Int32)) - ((p1 &&& (2147483647 : Int32)) / (13 : Int32)) * (13 : Int32))), .val (.ref w), .val (.ref wI), .val (.ref wI), .val (.int (1 : Int32))] [(.ref wI)])) _
    refine XS.aload X5.here hx rfl (hb hby at_68) rfl rfl ?_
    show Steps p.tables e below (T5.setTop (mkF m 70 #[.val (.int p1), .val (.int ((p1 &&& (2147483647 : Int32)) - ((p1 &&& (2147483647 : Int32)) / (13 : Int32)) * (13 : Int32))), .val (.ref w), .val (.ref wI), .val (.ref wI), .val (.int (1 : Int32))] [(.ref wI), (.ref wI)])) _
    refine Jvm.RoadKit.acmp (g := (mkF m 70 #[.val (.int p1), .val (.int ((p1 &&& (2147483647 : Int32)) - ((p1 &&& (2147483647 : Int32)) / (13 : Int32)) * (13 : Int32))), .val (.ref w), .val (.ref wI), .val (.ref wI), .val (.int (1 : Int32))] [(.ref wI), (.ref wI)])) X5 hx rfl rfl rfl (pc0 := 70) (pc' := 73) (same := true) rfl (hb hby at_70) rfl (decide_eq_true rfl) (by decide) (by decide) ?_
    show Steps p.tables e below (T5.setTop (mkF m 73 #[.val (.int p1), .val (.int ((p1 &&& (2147483647 : Int32)) - ((p1 &&& (2147483647 : Int32)) / (13 : Int32)) * (13 : Int32))), .val (.ref w), .val (.ref wI), .val (.ref wI), .val (.int (1 : Int32))] [])) _
    refine XS.iload X5.here hx rfl (hb hby at_73) rfl ?_
    show Steps p.tables e below (T5.setTop (mkF m 75 #[.val (.int p1), .val (.int ((p1 &&& (2147483647 : Int32)) - ((p1 &&& (2147483647 : Int32)) / (13 : Int32)) * (13 : Int32))), .val (.ref w), .val (.ref wI), .val (.ref wI), .val (.int (1 : Int32))] [(.int (1 : Int32))])) _
    refine XS.ifNo X5.here hx rfl (hb hby at_75) rfl ((if0 _ _).trans (feq hc75).1) ?_
    show Steps p.tables e below (T5.setTop (mkF m 78 #[.val (.int p1), .val (.int ((p1 &&& (2147483647 : Int32)) - ((p1 &&& (2147483647 : Int32)) / (13 : Int32)) * (13 : Int32))), .val (.ref w), .val (.ref wI), .val (.ref wI), .val (.int (1 : Int32))] [])) _
    refine XS.iconst X5.here hx rfl (hb hby at_78) ?_
    show Steps p.tables e below (T5.setTop (mkF m 79 #[.val (.int p1), .val (.int ((p1 &&& (2147483647 : Int32)) - ((p1 &&& (2147483647 : Int32)) / (13 : Int32)) * (13 : Int32))), .val (.ref w), .val (.ref wI), .val (.ref wI), .val (.int (1 : Int32))] [(.int (1 : Int32))])) _
    refine XS.goto X5.here hx rfl (pc0 := 79) (pc' := 83) rfl (hb hby at_79) (by decide) (by decide) ?_
    show Steps p.tables e below (T5.setTop (mkF m 83 #[.val (.int p1), .val (.int ((p1 &&& (2147483647 : Int32)) - ((p1 &&& (2147483647 : Int32)) / (13 : Int32)) * (13 : Int32))), .val (.ref w), .val (.ref wI), .val (.ref wI), .val (.int (1 : Int32))] [(.int (1 : Int32))])) _
    exact retN X5 hx (t := .boolean) Bd.returns (by simp) (hb hby at_83) hr
  · show Q0_B Z p1 w wI h0 n0 _ T5.heap _
    rw [e5]
    exact ⟨rfl, N5, rfl⟩
def Q0_C (Z : State) (p1 : Int32) (w : Addr) (h0 : Heap) (n0 : Nat) (v : Option Value) (h : Heap) (L : List Loc) : Prop := v = some (.int (1 : Int32)) ∧ Fr n0 L ∧ h = h0
set_option maxRecDepth 65536 in
set_option maxHeartbeats 40000000 in
theorem rm0_C (l : Launch) (Z : State) (a0 : Array Value) (hw : ∀ d ∈ tables_1, d.before a0 Z = true) (ws : List Jvm.Cond) (p1 : Int32) (w : Addr) (h0 : Heap) (n0 : Nat) (Z0 : n0 ≤ h0.size) (HP : own_Pick l Z h0 n0 ((p1 &&& (2147483647 : Int32)) - ((p1 &&& (2147483647 : Int32)) / (13 : Int32)) * (13 : Int32)) w) (E_w : Exa Z h0 w "com/example/violet_dye/violetdye/runtime/LibraryCalls$Summary") (HT : own_Thrown l Z h0 n0 w .null) (hc20 : (3 : Int32) < ((p1 &&& (2147483647 : Int32)) - ((p1 &&& (2147483647 : Int32)) / (13 : Int32)) * (13 : Int32))) (hc34 : ¬ (((p1 &&& (2147483647 : Int32)) - ((p1 &&& (2147483647 : Int32)) / (13 : Int32)) * (13 : Int32)) = (8 : Int32))) (hc75 : ¬ ((1 : Int32) = (0 : Int32))) :
    MetFree l x (head1 (Jvm.Cond.code x code maxLocals ret :: ws) room_1) (fun a U => a = #[(.int p1)] ∧ Z.Warmed39 U.vm ∧ U.heap = h0) (fun _ _ _ _ _ => True) (fun _ U o U' => ∃ v L, o = .returned v ∧ Q0_C Z p1 w h0 n0 v U'.heap L ∧ FrameEnd U o U' L room_1.cells room_1.slots) := by
  refine MetFree.of_bodySF (plainFor_of_name pn_0) hisR ?_
  intro p e s m args below meth c s₁ Bd hml0 hP hK
  obtain ⟨rfl, hZ, hh⟩ := hP
  have hx := Bd.exec
  have hby := Bd.bytes
  have hml : c.maxLocals = 6 := hml0
  have hown : s.vm.findClass "com/example/violet_dye/violetdye/runtime/SummaryThrownPinLaw" = some m.cls := findClass_of_methodNamed Bd.named
  have hnm := (name_of_methodNamed Bd.named Bd.method).1
  have X0 : Stand p l e room_1 s m #[(.int p1)] below meth c s₁ [] 0 0 := Stand.of_body Bd
  have e0 : s₁.heap = h0 := by rw [← hh, Bd.state]; rfl
  have N0 := Fr.nil n0
  have pre0 : ∀ t, Steps p.tables e below (s₁.setTop (mkF m 0 #[.val (.int p1), .unset, .unset, .unset, .unset, .unset] [])) t → Steps p.tables e below (s₁.setTop (entryFrame m #[(.int p1)] maxLocals)) t := fun t k => castTop (ef_0 m p1) k
  obtain ⟨_, _, ⟨T2, L2, k2, n2⟩, -, X2, ⟨Lc2, hQ2, l2, y2, z2⟩, st2⟩ := Jvm.LawKit.callS X0 hx (y := (⟨"com/example/violet_dye/violetdye/runtime/SummaryThrownPinLaw", "pick", "(I)Lcom/example/violet_dye/violetdye/runtime/LibraryCalls$Summary;"⟩ : MethodName)) hown (mvT hZ (hw _ (List.mem_of_getElem? (i := 1) rfl))) (mvT hZ (hw _ (List.mem_of_getElem? (i := 2) rfl))) (mvT hZ (hw _ (List.mem_of_getElem? (i := 3) rfl))) (mvT hZ (hw _ (List.mem_of_getElem? (i := 4) rfl))) (by decide) (backOf (W := 0) (HP) hZ (hw _ (List.mem_of_getElem? (i := 4) rfl)) (hw _ (List.mem_of_getElem? (i := 3) rfl)) (by decide) (by decide)) (g := (mkF m 9 #[.val (.int p1), .val (.int ((p1 &&& (2147483647 : Int32)) - ((p1 &&& (2147483647 : Int32)) / (13 : Int32)) * (13 : Int32))), .unset, .unset, .unset, .unset] [(.int ((p1 &&& (2147483647 : Int32)) - ((p1 &&& (2147483647 : Int32)) / (13 : Int32)) * (13 : Int32)))])) rfl (by rw [hml]; rfl) (argsL := [(.int ((p1 &&& (2147483647 : Int32)) - ((p1 &&& (2147483647 : Int32)) / (13 : Int32)) * (13 : Int32)))]) (rest := []) (lenOf pd_0_0 rfl) rfl (by show 2 * 0 + _ ≤ _; exact Nat.le_of_eq rfl) (hb hby at_9) (fun _ _ => ⟨rfl, e0, (by decide : 0 + 0 ≤ _), (by decide : 0 + 0 ≤ _)⟩)
  dsimp only [Pt.U, Pt.locs, Pt.cells, Pt.slots] at X2 l2 y2 z2 st2 hQ2
  subst l2 y2 z2
  obtain ⟨rfl, N2q, e2⟩ := hQ2
  have N2 := Fr.app N0 N2q
  obtain ⟨cq3, kq3, q3a, q3b, q3c⟩ := isOf hZ e2 E_w
  obtain ⟨_, _, ⟨T3, L3, k3, n3⟩, -, X3, ⟨Lc3, hQ3, l3, y3, z3⟩, st3⟩ := X2.virtualBack hx (y := (⟨"com/example/violet_dye/violetdye/runtime/LibraryCalls$Summary", "thrown", "()Lcom/example/violet_dye/violetdye/runtime/LibraryCalls$Summary;"⟩ : MethodName)) (z := (⟨"com/example/violet_dye/violetdye/runtime/LibraryCalls$Summary", "thrown", "()Lcom/example/violet_dye/violetdye/runtime/LibraryCalls$Summary;"⟩ : MethodName)) hown (mvT hZ (hw _ (List.mem_of_getElem? (i := 8) rfl))) (mvT hZ (hw _ (List.mem_of_getElem? (i := 9) rfl))) (notFace_of_selects (args := #[]) (mvT hZ (hw _ (List.mem_of_getElem? (i := 11) rfl)))) (mvT hZ (hw _ (List.mem_of_getElem? (i := 11) rfl))) (mvT hZ (hw _ (List.mem_of_getElem? (i := 10) rfl))) (by decide) (backOf (W := 0) (HT) hZ (hw _ (List.mem_of_getElem? (i := 12) rfl)) (hw _ (List.mem_of_getElem? (i := 6) rfl)) (by decide) (by decide)) q3a q3c (g := (mkF m 14 #[.val (.int p1), .val (.int ((p1 &&& (2147483647 : Int32)) - ((p1 &&& (2147483647 : Int32)) / (13 : Int32)) * (13 : Int32))), .val (.ref w), .unset, .unset, .unset] [(.ref w)])) rfl (by rw [hml]; rfl) (Steps.refl _) (argsL := []) (rest := []) (lenOf pd_0_1 rfl) rfl (by show 2 * 0 + _ ≤ _; exact Nat.le_of_eq rfl) (hb hby at_14) (fun _ _ => ⟨rfl, e2, (by decide : 0 + 0 ≤ _), (by decide : 0 + 0 ≤ _)⟩)
  dsimp only [Pt.U, Pt.locs, Pt.cells, Pt.slots] at X3 l3 y3 z3 st3 hQ3
  subst l3 y3 z3
  obtain ⟨rfl, N3q, e3⟩ := hQ3
  have N3 := Fr.app N2 N3q
  obtain ⟨fs, hr, hrun, hended, hW, hsame⟩ := X3.leave (v := some (.int (1 : Int32))) (fun h => by rw [Bd.returns] at h; cases h)
  refine ⟨_, _, pre0 _ ?_, hrun, hended, _, _, rfl, ?_, ⟨_, rfl⟩, hW, hsame.mono (by decide) (by decide)⟩
  · show Steps p.tables e below (s₁.setTop (mkF m 0 #[.val (.int p1), .unset, .unset, .unset, .unset, .unset] [])) _
    refine XS.iloadN X0.here hx rfl (hb hby at_0) rfl ?_
    show Steps p.tables e below (s₁.setTop (mkF m 1 #[.val (.int p1), .unset, .unset, .unset, .unset, .unset] [(.int p1)])) _
    refine X0.ldcInt hx hown (mvT hZ (hw _ (List.mem_of_getElem? (i := 0) rfl))) (g := (mkF m 1 #[.val (.int p1), .unset, .unset, .unset, .unset, .unset] [(.int p1)])) rfl (hb hby at_1) _ ?_
    show Steps p.tables e below (s₁.setTop (mkF m 3 #[.val (.int p1), .unset, .unset, .unset, .unset, .unset] [(.int (2147483647 : Int32)), (.int p1)])) _
    refine XS.iand X0.here hx rfl (hb hby at_3) rfl ?_
    show Steps p.tables e below (s₁.setTop (mkF m 4 #[.val (.int p1), .unset, .unset, .unset, .unset, .unset] [(.int (p1 &&& (2147483647 : Int32)))])) _
    refine XS.bipush X0.here hx rfl (hb hby at_4) ?_
    show Steps p.tables e below (s₁.setTop (mkF m 6 #[.val (.int p1), .unset, .unset, .unset, .unset, .unset] [(.int (13 : Int32)), (.int (p1 &&& (2147483647 : Int32)))])) _
    refine XS.irem X0.here hx rfl (hb hby at_6) rfl (by decide) ?_
    show Steps p.tables e below (s₁.setTop (mkF m 7 #[.val (.int p1), .unset, .unset, .unset, .unset, .unset] [(.int ((p1 &&& (2147483647 : Int32)) - ((p1 &&& (2147483647 : Int32)) / (13 : Int32)) * (13 : Int32)))])) _
    refine XS.istoreN X0.here hx rfl (hb hby at_7) rfl (l' := #[.val (.int p1), .val (.int ((p1 &&& (2147483647 : Int32)) - ((p1 &&& (2147483647 : Int32)) / (13 : Int32)) * (13 : Int32))), .unset, .unset, .unset, .unset]) rfl ?_
    show Steps p.tables e below (s₁.setTop (mkF m 8 #[.val (.int p1), .val (.int ((p1 &&& (2147483647 : Int32)) - ((p1 &&& (2147483647 : Int32)) / (13 : Int32)) * (13 : Int32))), .unset, .unset, .unset, .unset] [])) _
    refine XS.iloadN X0.here hx rfl (hb hby at_8) rfl ?_
    show Steps p.tables e below (s₁.setTop (mkF m 9 #[.val (.int p1), .val (.int ((p1 &&& (2147483647 : Int32)) - ((p1 &&& (2147483647 : Int32)) / (13 : Int32)) * (13 : Int32))), .unset, .unset, .unset, .unset] [(.int ((p1 &&& (2147483647 : Int32)) - ((p1 &&& (2147483647 : Int32)) / (13 : Int32)) * (13 : Int32)))])) _
    refine st2 _ ?_
    show Steps p.tables e below (T2.setTop (mkF m 12 #[.val (.int p1), .val (.int ((p1 &&& (2147483647 : Int32)) - ((p1 &&& (2147483647 : Int32)) / (13 : Int32)) * (13 : Int32))), .unset, .unset, .unset, .unset] [(.ref w)])) _
    refine XS.astoreN X2.here hx rfl (hb hby at_12) rfl rfl (l' := #[.val (.int p1), .val (.int ((p1 &&& (2147483647 : Int32)) - ((p1 &&& (2147483647 : Int32)) / (13 : Int32)) * (13 : Int32))), .val (.ref w), .unset, .unset, .unset]) rfl ?_
    show Steps p.tables e below (T2.setTop (mkF m 13 #[.val (.int p1), .val (.int ((p1 &&& (2147483647 : Int32)) - ((p1 &&& (2147483647 : Int32)) / (13 : Int32)) * (13 : Int32))), .val (.ref w), .unset, .unset, .unset] [])) _
    refine XS.aloadN X2.here hx rfl (hb hby at_13) rfl rfl ?_
    show Steps p.tables e below (T2.setTop (mkF m 14 #[.val (.int p1), .val (.int ((p1 &&& (2147483647 : Int32)) - ((p1 &&& (2147483647 : Int32)) / (13 : Int32)) * (13 : Int32))), .val (.ref w), .unset, .unset, .unset] [(.ref w)])) _
    refine st3.trans ?_
    show Steps p.tables e below (T3.setTop (mkF m 17 #[.val (.int p1), .val (.int ((p1 &&& (2147483647 : Int32)) - ((p1 &&& (2147483647 : Int32)) / (13 : Int32)) * (13 : Int32))), .val (.ref w), .unset, .unset, .unset] [.null])) _
    refine XS.astoreN X3.here hx rfl (hb hby at_17) rfl rfl (l' := #[.val (.int p1), .val (.int ((p1 &&& (2147483647 : Int32)) - ((p1 &&& (2147483647 : Int32)) / (13 : Int32)) * (13 : Int32))), .val (.ref w), .val .null, .unset, .unset]) rfl ?_
    show Steps p.tables e below (T3.setTop (mkF m 18 #[.val (.int p1), .val (.int ((p1 &&& (2147483647 : Int32)) - ((p1 &&& (2147483647 : Int32)) / (13 : Int32)) * (13 : Int32))), .val (.ref w), .val .null, .unset, .unset] [])) _
    refine XS.iloadN X3.here hx rfl (hb hby at_18) rfl ?_
    show Steps p.tables e below (T3.setTop (mkF m 19 #[.val (.int p1), .val (.int ((p1 &&& (2147483647 : Int32)) - ((p1 &&& (2147483647 : Int32)) / (13 : Int32)) * (13 : Int32))), .val (.ref w), .val .null, .unset, .unset] [(.int ((p1 &&& (2147483647 : Int32)) - ((p1 &&& (2147483647 : Int32)) / (13 : Int32)) * (13 : Int32)))])) _
    refine XS.iconst X3.here hx rfl (hb hby at_19) ?_
    show Steps p.tables e below (T3.setTop (mkF m 20 #[.val (.int p1), .val (.int ((p1 &&& (2147483647 : Int32)) - ((p1 &&& (2147483647 : Int32)) / (13 : Int32)) * (13 : Int32))), .val (.ref w), .val .null, .unset, .unset] [(.int (3 : Int32)), (.int ((p1 &&& (2147483647 : Int32)) - ((p1 &&& (2147483647 : Int32)) / (13 : Int32)) * (13 : Int32)))])) _
    refine XS.icmpYes X3.here hx rfl (pc0 := 20) (pc' := 31) rfl (hb hby at_20) rfl (tlt hc20).2.2.1 (by decide) (by decide) ?_
    show Steps p.tables e below (T3.setTop (mkF m 31 #[.val (.int p1), .val (.int ((p1 &&& (2147483647 : Int32)) - ((p1 &&& (2147483647 : Int32)) / (13 : Int32)) * (13 : Int32))), .val (.ref w), .val .null, .unset, .unset] [])) _
    refine XS.iloadN X3.here hx rfl (hb hby at_31) rfl ?_
    show Steps p.tables e below (T3.setTop (mkF m 32 #[.val (.int p1), .val (.int ((p1 &&& (2147483647 : Int32)) - ((p1 &&& (2147483647 : Int32)) / (13 : Int32)) * (13 : Int32))), .val (.ref w), .val .null, .unset, .unset] [(.int ((p1 &&& (2147483647 : Int32)) - ((p1 &&& (2147483647 : Int32)) / (13 : Int32)) * (13 : Int32)))])) _
    refine XS.bipush X3.here hx rfl (hb hby at_32) ?_
    show Steps p.tables e below (T3.setTop (mkF m 34 #[.val (.int p1), .val (.int ((p1 &&& (2147483647 : Int32)) - ((p1 &&& (2147483647 : Int32)) / (13 : Int32)) * (13 : Int32))), .val (.ref w), .val .null, .unset, .unset] [(.int (8 : Int32)), (.int ((p1 &&& (2147483647 : Int32)) - ((p1 &&& (2147483647 : Int32)) / (13 : Int32)) * (13 : Int32)))])) _
    refine XS.icmpYes X3.here hx rfl (pc0 := 34) (pc' := 45) rfl (hb hby at_34) rfl (feq hc34).2 (by decide) (by decide) ?_
    show Steps p.tables e below (T3.setTop (mkF m 45 #[.val (.int p1), .val (.int ((p1 &&& (2147483647 : Int32)) - ((p1 &&& (2147483647 : Int32)) / (13 : Int32)) * (13 : Int32))), .val (.ref w), .val .null, .unset, .unset] [])) _
    refine XS.aconstNull X3.here hx rfl (hb hby at_45) ?_
    show Steps p.tables e below (T3.setTop (mkF m 46 #[.val (.int p1), .val (.int ((p1 &&& (2147483647 : Int32)) - ((p1 &&& (2147483647 : Int32)) / (13 : Int32)) * (13 : Int32))), .val (.ref w), .val .null, .unset, .unset] [.null])) _
    refine XS.astore X3.here hx rfl (hb hby at_46) rfl rfl (l' := #[.val (.int p1), .val (.int ((p1 &&& (2147483647 : Int32)) - ((p1 &&& (2147483647 : Int32)) / (13 : Int32)) * (13 : Int32))), .val (.ref w), .val .null, .val .null, .unset]) rfl ?_
    show Steps p.tables e below (T3.setTop (mkF m 48 #[.val (.int p1), .val (.int ((p1 &&& (2147483647 : Int32)) - ((p1 &&& (2147483647 : Int32)) / (13 : Int32)) * (13 : Int32))), .val (.ref w), .val .null, .val .null, .unset] [])) _
    refine XS.aloadN X3.here hx rfl (hb hby at_48) rfl rfl ?_
    show Steps p.tables e below (T3.setTop (mkF m 49 #[.val (.int p1), .val (.int ((p1 &&& (2147483647 : Int32)) - ((p1 &&& (2147483647 : Int32)) / (13 : Int32)) * (13 : Int32))), .val (.ref w), .val .null, .val .null, .unset] [.null])) _
    refine XS.ifnullYes X3.here hx rfl (pc0 := 49) (pc' := 60) rfl (hb hby at_49) rfl (by decide) (by decide) ?_
    show Steps p.tables e below (T3.setTop (mkF m 60 #[.val (.int p1), .val (.int ((p1 &&& (2147483647 : Int32)) - ((p1 &&& (2147483647 : Int32)) / (13 : Int32)) * (13 : Int32))), .val (.ref w), .val .null, .val .null, .unset] [])) _
    refine XS.iconst X3.here hx rfl (hb hby at_60) ?_
    show Steps p.tables e below (T3.setTop (mkF m 61 #[.val (.int p1), .val (.int ((p1 &&& (2147483647 : Int32)) - ((p1 &&& (2147483647 : Int32)) / (13 : Int32)) * (13 : Int32))), .val (.ref w), .val .null, .val .null, .unset] [(.int (1 : Int32))])) _
    refine XS.goto X3.here hx rfl (pc0 := 61) (pc' := 65) rfl (hb hby at_61) (by decide) (by decide) ?_
    show Steps p.tables e below (T3.setTop (mkF m 65 #[.val (.int p1), .val (.int ((p1 &&& (2147483647 : Int32)) - ((p1 &&& (2147483647 : Int32)) / (13 : Int32)) * (13 : Int32))), .val (.ref w), .val .null, .val .null, .unset] [(.int (1 : Int32))])) _
    refine XS.istore X3.here hx rfl (hb hby at_65) rfl (l' := #[.val (.int p1), .val (.int ((p1 &&& (2147483647 : Int32)) - ((p1 &&& (2147483647 : Int32)) / (13 : Int32)) * (13 : Int32))), .val (.ref w), .val .null, .val .null, .val (.int (1 : Int32))]) rfl ?_
    show Steps p.tables e below (T3.setTop (mkF m 67 #[.val (.int p1), .val (.int ((p1 &&& (2147483647 : Int32)) - ((p1 &&& (2147483647 : Int32)) / (13 : Int32)) * (13 : Int32))), .val (.ref w), .val .null, .val .null, .val (.int (1 : Int32))] [])) _
    refine XS.aloadN X3.here hx rfl (hb hby at_67) rfl rfl ?_
    show Steps p.tables e below (T3.setTop (mkF m 68 #[.val (.int p1), .val (.int ((p1 &&& (2147483647 : Int32)) - ((p1 &&& (2147483647 : Int32)) / (13 : Int32)) * (13 : Int32))), .val (.ref w), .val .null, .val .null, .val (.int (1 : Int32))] [.null])) _
    refine XS.aload X3.here hx rfl (hb hby at_68) rfl rfl ?_
    show Steps p.tables e below (T3.setTop (mkF m 70 #[.val (.int p1), .val (.int ((p1 &&& (2147483647 : Int32)) - ((p1 &&& (2147483647 : Int32)) / (13 : Int32)) * (13 : Int32))), .val (.ref w), .val .null, .val .null, .val (.int (1 : Int32))] [.null, .null])) _
    refine Jvm.RoadKit.acmp (g := (mkF m 70 #[.val (.int p1), .val (.int ((p1 &&& (2147483647 : Int32)) - ((p1 &&& (2147483647 : Int32)) / (13 : Int32)) * (13 : Int32))), .val (.ref w), .val .null, .val .null, .val (.int (1 : Int32))] [.null, .null])) X3 hx rfl rfl rfl (pc0 := 70) (pc' := 73) (same := true) rfl (hb hby at_70) rfl (decide_eq_true rfl) (by decide) (by decide) ?_
    show Steps p.tables e below (T3.setTop (mkF m 73 #[.val (.int p1), .val (.int ((p1 &&& (2147483647 : Int32)) - ((p1 &&& (2147483647 : Int32)) / (13 : Int32)) * (13 : Int32))), .val (.ref w), .val .null, .val .null, .val (.int (1 : Int32))] [])) _
    refine XS.iload X3.here hx rfl (hb hby at_73) rfl ?_
    show Steps p.tables e below (T3.setTop (mkF m 75 #[.val (.int p1), .val (.int ((p1 &&& (2147483647 : Int32)) - ((p1 &&& (2147483647 : Int32)) / (13 : Int32)) * (13 : Int32))), .val (.ref w), .val .null, .val .null, .val (.int (1 : Int32))] [(.int (1 : Int32))])) _
    refine XS.ifNo X3.here hx rfl (hb hby at_75) rfl ((if0 _ _).trans (feq hc75).1) ?_
    show Steps p.tables e below (T3.setTop (mkF m 78 #[.val (.int p1), .val (.int ((p1 &&& (2147483647 : Int32)) - ((p1 &&& (2147483647 : Int32)) / (13 : Int32)) * (13 : Int32))), .val (.ref w), .val .null, .val .null, .val (.int (1 : Int32))] [])) _
    refine XS.iconst X3.here hx rfl (hb hby at_78) ?_
    show Steps p.tables e below (T3.setTop (mkF m 79 #[.val (.int p1), .val (.int ((p1 &&& (2147483647 : Int32)) - ((p1 &&& (2147483647 : Int32)) / (13 : Int32)) * (13 : Int32))), .val (.ref w), .val .null, .val .null, .val (.int (1 : Int32))] [(.int (1 : Int32))])) _
    refine XS.goto X3.here hx rfl (pc0 := 79) (pc' := 83) rfl (hb hby at_79) (by decide) (by decide) ?_
    show Steps p.tables e below (T3.setTop (mkF m 83 #[.val (.int p1), .val (.int ((p1 &&& (2147483647 : Int32)) - ((p1 &&& (2147483647 : Int32)) / (13 : Int32)) * (13 : Int32))), .val (.ref w), .val .null, .val .null, .val (.int (1 : Int32))] [(.int (1 : Int32))])) _
    exact retN X3 hx (t := .boolean) Bd.returns (by simp) (hb hby at_83) hr
  · show Q0_C Z p1 w h0 n0 _ T3.heap _
    rw [e3]
    exact ⟨rfl, N3, rfl⟩
set_option maxRecDepth 65536 in
set_option maxHeartbeats 40000000 in
theorem comes_1 {Post : Tables → Env → Array Value → State → Outcome → State → Prop} (hpost : ∀ tb e args s v u, (limb_1_1.after args s (.returned v) u = true ∧ limb_1_2.after args s (.returned v) u = true ∧ True) → FrameEnd s (.returned v) u (Jvm.fieldLocs frame_1_writes args s ++ Jvm.arrayLocs frame_1_arrays args s ++ Jvm.staticLocs frame_1_statics s) 0 0 → Post tb e args s (.returned v) u) :
    ArmFor flags0 classFile x code maxLocals ret World_1 tables_1 room_1 Calls_1 rest_1 Pre_1 Post := by
  intro l hfl _ _ p e ha hc hk s m args below hf hA hF happ hP
  obtain ⟨hcalls, hrest, hpre⟩ := hP
  obtain ⟨-, -, -, hnamed, -, -, -, hat⟩ := (Spec.applies_iff hf).mp happ
  obtain ⟨hg, hn⟩ := and_e (Cond.before_iff.mp (show (Jvm.Cond.and given_1 narrow_1).before args s = true from hpre))
  obtain ⟨g4, g5⟩ := and_e hg
  obtain ⟨w0, rfl⟩ : ∃ w0 : Value, args = #[w0] := by
    have hs : args.size = 1 := by simpa [Cond.value, given_1] using g4
    obtain ⟨L⟩ := args
    match L, hs with
    | [w0], _ => exact ⟨w0, rfl⟩
  have hw := fun d (hd : d ∈ tables_1) => atoms_spec (ws := Jvm.Cond.code x code maxLocals ret :: tables_1) hat d (List.mem_cons_of_mem _ hd)
  have hfit : Fit s := fun {y c} hc i hi => by
    obtain ⟨ha, rfl⟩ := Array.getElem?_eq_some_iff.mp hc
    have q := List.all_eq_true.mp ((Array.all_eq_true_iff_forall_mem.mp hF) _ (Array.getElem_mem ha)) i (List.mem_range.mpr hi)
    simpa [Array.getElem?_eq_getElem hi] using q
  obtain ⟨i0, ei0⟩ := is_v g5
  obtain rfl : w0 = (.int i0) := Option.some.inj ei0
  obtain ⟨exREAD, hn_1⟩ := and_e hn
  obtain ⟨exARRAY, hn_2⟩ := and_e hn_1
  obtain ⟨orARRAY, hn_3⟩ := and_e hn_2
  obtain ⟨orREAD, hn_4⟩ := and_e hn_3
  obtain ⟨exELEMENT, hn_5⟩ := and_e hn_4
  obtain ⟨orELEMENT, hn_6⟩ := and_e hn_5
  obtain ⟨exVIEW, hn_7⟩ := and_e hn_6
  obtain ⟨orVIEW, hn_8⟩ := and_e hn_7
  obtain ⟨exPUT, hn_9⟩ := and_e hn_8
  obtain ⟨orPUT, hn_10⟩ := and_e hn_9
  obtain ⟨exINTO, hn_11⟩ := and_e hn_10
  obtain ⟨orINTO, hn_12⟩ := and_e hn_11
  obtain ⟨exSET, hn_13⟩ := and_e hn_12
  obtain ⟨orSET, hn_14⟩ := and_e hn_13
  obtain ⟨exADD_ALL, hn_15⟩ := and_e hn_14
  obtain ⟨orADD_ALL, hn_16⟩ := and_e hn_15
  obtain ⟨exOF, hn_17⟩ := and_e hn_16
  obtain ⟨orOF, hn_18⟩ := and_e hn_17
  obtain ⟨exCOPY_OF, hn_19⟩ := and_e hn_18
  obtain ⟨orCOPY_OF, hn_20⟩ := and_e hn_19
  obtain ⟨exAS_LIST, hn_21⟩ := and_e hn_20
  obtain ⟨orAS_LIST, hn_22⟩ := and_e hn_21
  obtain ⟨exVIEW_OF, hn_23⟩ := and_e hn_22
  obtain ⟨orVIEW_OF, hn_24⟩ := and_e hn_23
  obtain ⟨exADD, orADD⟩ := and_e hn_24
  obtain ⟨aREAD, eREAD, SREAD, EREAD⟩ := own_sta exREAD (hw _ (List.mem_of_getElem? (i := 6) rfl)) (hw _ (List.mem_of_getElem? (i := 7) rfl))
  obtain ⟨aELEMENT, eELEMENT, SELEMENT, EELEMENT⟩ := own_sta exELEMENT (hw _ (List.mem_of_getElem? (i := 6) rfl)) (hw _ (List.mem_of_getElem? (i := 17) rfl))
  obtain ⟨aVIEW, eVIEW, SVIEW, EVIEW⟩ := own_sta exVIEW (hw _ (List.mem_of_getElem? (i := 6) rfl)) (hw _ (List.mem_of_getElem? (i := 19) rfl))
  obtain ⟨aARRAY, eARRAY, SARRAY, EARRAY⟩ := own_sta exARRAY (hw _ (List.mem_of_getElem? (i := 6) rfl)) (hw _ (List.mem_of_getElem? (i := 15) rfl))
  obtain ⟨aADD, eADD, SADD, EADD⟩ := own_sta exADD (hw _ (List.mem_of_getElem? (i := 6) rfl)) (hw _ (List.mem_of_getElem? (i := 41) rfl))
  obtain ⟨aSET, eSET, SSET, ESET⟩ := own_sta exSET (hw _ (List.mem_of_getElem? (i := 6) rfl)) (hw _ (List.mem_of_getElem? (i := 26) rfl))
  obtain ⟨aPUT, ePUT, SPUT, EPUT⟩ := own_sta exPUT (hw _ (List.mem_of_getElem? (i := 6) rfl)) (hw _ (List.mem_of_getElem? (i := 22) rfl))
  obtain ⟨aADD_ALL, eADD_ALL, SADD_ALL, EADD_ALL⟩ := own_sta exADD_ALL (hw _ (List.mem_of_getElem? (i := 6) rfl)) (hw _ (List.mem_of_getElem? (i := 28) rfl))
  obtain ⟨aINTO, eINTO, SINTO, EINTO⟩ := own_sta exINTO (hw _ (List.mem_of_getElem? (i := 6) rfl)) (hw _ (List.mem_of_getElem? (i := 24) rfl))
  obtain ⟨aOF, eOF, SOF, EOF⟩ := own_sta exOF (hw _ (List.mem_of_getElem? (i := 6) rfl)) (hw _ (List.mem_of_getElem? (i := 30) rfl))
  obtain ⟨aAS_LIST, eAS_LIST, SAS_LIST, EAS_LIST⟩ := own_sta exAS_LIST (hw _ (List.mem_of_getElem? (i := 6) rfl)) (hw _ (List.mem_of_getElem? (i := 37) rfl))
  obtain ⟨aCOPY_OF, eCOPY_OF, SCOPY_OF, ECOPY_OF⟩ := own_sta exCOPY_OF (hw _ (List.mem_of_getElem? (i := 6) rfl)) (hw _ (List.mem_of_getElem? (i := 33) rfl))
  obtain ⟨aVIEW_OF, eVIEW_OF, SVIEW_OF, EVIEW_OF⟩ := own_sta exVIEW_OF (hw _ (List.mem_of_getElem? (i := 6) rfl)) (hw _ (List.mem_of_getElem? (i := 39) rfl))
  have i0n : 0 ≤ (((i0 &&& (2147483647 : Int32)) - ((i0 &&& (2147483647 : Int32)) / (13 : Int32)) * (13 : Int32))).toInt := by rw [own_rem (own_and31 i0) (by decide)]; exact Int.emod_nonneg _ (by decide)
  generalize hI : ((i0 &&& (2147483647 : Int32)) - ((i0 &&& (2147483647 : Int32)) / (13 : Int32)) * (13 : Int32)) = I at i0n
  have HTR := rm2_R l s _ hw [] aREAD aREAD s.heap s.heap.size (Nat.le_refl _) SREAD rfl
  have HTI := rm2_I l s _ hw [] aINTO aREAD aELEMENT aVIEW aARRAY aINTO s.heap s.heap.size (Nat.le_refl _) SREAD SELEMENT SVIEW SARRAY SINTO (own_ne eINTO eREAD orINTO orREAD (by decide)) (own_ne eINTO eELEMENT orINTO orELEMENT (by decide)) (own_ne eINTO eVIEW orINTO orVIEW (by decide)) (own_ne eINTO eARRAY orINTO orARRAY (by decide)) rfl
  by_cases c0 : I = (0 : Int32)
  · have HP : own_Pick l s s.heap s.heap.size I aREAD := rm1_k0 l s _ hw [] I aREAD s.heap s.heap.size (Nat.le_refl _) SREAD c0
    have HT := rm2_R l s _ hw [] aREAD aREAD s.heap s.heap.size (Nat.le_refl _) SREAD rfl
    obtain ⟨n, o, h1, h2, h3, _, L, rfl, ⟨rfl, N, -⟩, hq⟩ := rm0_A l s _ hw tables_1 i0 aREAD aREAD s.heap s.heap.size (Nat.le_refl _) (by rw [hI]; exact HP) EREAD HT SREAD EREAD HTR (by rw [hI, c0]; decide) (by decide) p e ha hc hk s m _ below hf ((Spec.applies_iff_loose hf).mp happ).1 ⟨rfl, State.Warmed39.refl s, rfl⟩ trivial
    refine ⟨n, _, h1, h2, h3, hpost _ _ _ _ _ _ ⟨Cond.after_iff.mpr rfl, Cond.after_iff.mpr (eq_i res_at (Term.int_eval (1)) rfl), trivial⟩ ⟨hq.1, hq.2.1, (hq.2.2.sift fun y hy => Or.inr (N y hy)).mono (by decide) (by decide)⟩⟩
  by_cases c1 : I = (1 : Int32)
  · have HP : own_Pick l s s.heap s.heap.size I aELEMENT := rm1_k1 l s _ hw [] I aELEMENT s.heap s.heap.size (Nat.le_refl _) SELEMENT c0 c1
    have HT := rm2_E l s _ hw [] aELEMENT aREAD aELEMENT s.heap s.heap.size (Nat.le_refl _) SREAD SELEMENT (own_ne eELEMENT eREAD orELEMENT orREAD (by decide)) rfl
    obtain ⟨n, o, h1, h2, h3, _, L, rfl, ⟨rfl, N, -⟩, hq⟩ := rm0_A l s _ hw tables_1 i0 aELEMENT aREAD s.heap s.heap.size (Nat.le_refl _) (by rw [hI]; exact HP) EELEMENT HT SREAD EREAD HTR (by rw [hI, c1]; decide) (by decide) p e ha hc hk s m _ below hf ((Spec.applies_iff_loose hf).mp happ).1 ⟨rfl, State.Warmed39.refl s, rfl⟩ trivial
    refine ⟨n, _, h1, h2, h3, hpost _ _ _ _ _ _ ⟨Cond.after_iff.mpr rfl, Cond.after_iff.mpr (eq_i res_at (Term.int_eval (1)) rfl), trivial⟩ ⟨hq.1, hq.2.1, (hq.2.2.sift fun y hy => Or.inr (N y hy)).mono (by decide) (by decide)⟩⟩
  by_cases c2 : I = (2 : Int32)
  · have HP : own_Pick l s s.heap s.heap.size I aVIEW := rm1_k2 l s _ hw [] I aVIEW s.heap s.heap.size (Nat.le_refl _) SVIEW c0 c1 c2
    have HT := rm2_V l s _ hw [] aVIEW aREAD aELEMENT aVIEW s.heap s.heap.size (Nat.le_refl _) SREAD SELEMENT SVIEW (own_ne eVIEW eREAD orVIEW orREAD (by decide)) (own_ne eVIEW eELEMENT orVIEW orELEMENT (by decide)) rfl
    obtain ⟨n, o, h1, h2, h3, _, L, rfl, ⟨rfl, N, -⟩, hq⟩ := rm0_A l s _ hw tables_1 i0 aVIEW aREAD s.heap s.heap.size (Nat.le_refl _) (by rw [hI]; exact HP) EVIEW HT SREAD EREAD HTR (by rw [hI, c2]; decide) (by decide) p e ha hc hk s m _ below hf ((Spec.applies_iff_loose hf).mp happ).1 ⟨rfl, State.Warmed39.refl s, rfl⟩ trivial
    refine ⟨n, _, h1, h2, h3, hpost _ _ _ _ _ _ ⟨Cond.after_iff.mpr rfl, Cond.after_iff.mpr (eq_i res_at (Term.int_eval (1)) rfl), trivial⟩ ⟨hq.1, hq.2.1, (hq.2.2.sift fun y hy => Or.inr (N y hy)).mono (by decide) (by decide)⟩⟩
  by_cases c3 : I = (3 : Int32)
  · have HP : own_Pick l s s.heap s.heap.size I aARRAY := rm1_k3 l s _ hw [] I aARRAY s.heap s.heap.size (Nat.le_refl _) SARRAY c0 c1 c2 c3
    have HT := rm2_A l s _ hw [] aARRAY aREAD aELEMENT aVIEW aARRAY s.heap s.heap.size (Nat.le_refl _) SREAD SELEMENT SVIEW SARRAY (own_ne eARRAY eREAD orARRAY orREAD (by decide)) (own_ne eARRAY eELEMENT orARRAY orELEMENT (by decide)) (own_ne eARRAY eVIEW orARRAY orVIEW (by decide)) rfl
    obtain ⟨n, o, h1, h2, h3, _, L, rfl, ⟨rfl, N, -⟩, hq⟩ := rm0_A l s _ hw tables_1 i0 aARRAY aREAD s.heap s.heap.size (Nat.le_refl _) (by rw [hI]; exact HP) EARRAY HT SREAD EREAD HTR (by rw [hI, c3]; decide) (by decide) p e ha hc hk s m _ below hf ((Spec.applies_iff_loose hf).mp happ).1 ⟨rfl, State.Warmed39.refl s, rfl⟩ trivial
    refine ⟨n, _, h1, h2, h3, hpost _ _ _ _ _ _ ⟨Cond.after_iff.mpr rfl, Cond.after_iff.mpr (eq_i res_at (Term.int_eval (1)) rfl), trivial⟩ ⟨hq.1, hq.2.1, (hq.2.2.sift fun y hy => Or.inr (N y hy)).mono (by decide) (by decide)⟩⟩
  by_cases c4 : I = (4 : Int32)
  · have HP : own_Pick l s s.heap s.heap.size I aADD := rm1_k4 l s _ hw [] I aADD s.heap s.heap.size (Nat.le_refl _) SADD c0 c1 c2 c3 c4
    have HT := rm2_N l s _ hw [] aADD aREAD aELEMENT aVIEW aARRAY aINTO s.heap s.heap.size (Nat.le_refl _) SREAD SELEMENT SVIEW SARRAY SINTO (own_ne eADD eREAD orADD orREAD (by decide)) (own_ne eADD eELEMENT orADD orELEMENT (by decide)) (own_ne eADD eVIEW orADD orVIEW (by decide)) (own_ne eADD eARRAY orADD orARRAY (by decide)) (own_ne eADD eINTO orADD orINTO (by decide))
    obtain ⟨n, o, h1, h2, h3, _, L, rfl, ⟨rfl, N, -⟩, hq⟩ := rm0_C l s _ hw tables_1 i0 aADD s.heap s.heap.size (Nat.le_refl _) (by rw [hI]; exact HP) EADD HT (by rw [hI, c4]; decide) (by rw [hI, c4]; decide) (by decide) p e ha hc hk s m _ below hf ((Spec.applies_iff_loose hf).mp happ).1 ⟨rfl, State.Warmed39.refl s, rfl⟩ trivial
    refine ⟨n, _, h1, h2, h3, hpost _ _ _ _ _ _ ⟨Cond.after_iff.mpr rfl, Cond.after_iff.mpr (eq_i res_at (Term.int_eval (1)) rfl), trivial⟩ ⟨hq.1, hq.2.1, (hq.2.2.sift fun y hy => Or.inr (N y hy)).mono (by decide) (by decide)⟩⟩
  by_cases c5 : I = (5 : Int32)
  · have HP : own_Pick l s s.heap s.heap.size I aSET := rm1_k5 l s _ hw [] I aSET s.heap s.heap.size (Nat.le_refl _) SSET c0 c1 c2 c3 c4 c5
    have HT := rm2_N l s _ hw [] aSET aREAD aELEMENT aVIEW aARRAY aINTO s.heap s.heap.size (Nat.le_refl _) SREAD SELEMENT SVIEW SARRAY SINTO (own_ne eSET eREAD orSET orREAD (by decide)) (own_ne eSET eELEMENT orSET orELEMENT (by decide)) (own_ne eSET eVIEW orSET orVIEW (by decide)) (own_ne eSET eARRAY orSET orARRAY (by decide)) (own_ne eSET eINTO orSET orINTO (by decide))
    obtain ⟨n, o, h1, h2, h3, _, L, rfl, ⟨rfl, N, -⟩, hq⟩ := rm0_C l s _ hw tables_1 i0 aSET s.heap s.heap.size (Nat.le_refl _) (by rw [hI]; exact HP) ESET HT (by rw [hI, c5]; decide) (by rw [hI, c5]; decide) (by decide) p e ha hc hk s m _ below hf ((Spec.applies_iff_loose hf).mp happ).1 ⟨rfl, State.Warmed39.refl s, rfl⟩ trivial
    refine ⟨n, _, h1, h2, h3, hpost _ _ _ _ _ _ ⟨Cond.after_iff.mpr rfl, Cond.after_iff.mpr (eq_i res_at (Term.int_eval (1)) rfl), trivial⟩ ⟨hq.1, hq.2.1, (hq.2.2.sift fun y hy => Or.inr (N y hy)).mono (by decide) (by decide)⟩⟩
  by_cases c6 : I = (6 : Int32)
  · have HP : own_Pick l s s.heap s.heap.size I aPUT := rm1_k6 l s _ hw [] I aPUT s.heap s.heap.size (Nat.le_refl _) SPUT c0 c1 c2 c3 c4 c5 c6
    have HT := rm2_N l s _ hw [] aPUT aREAD aELEMENT aVIEW aARRAY aINTO s.heap s.heap.size (Nat.le_refl _) SREAD SELEMENT SVIEW SARRAY SINTO (own_ne ePUT eREAD orPUT orREAD (by decide)) (own_ne ePUT eELEMENT orPUT orELEMENT (by decide)) (own_ne ePUT eVIEW orPUT orVIEW (by decide)) (own_ne ePUT eARRAY orPUT orARRAY (by decide)) (own_ne ePUT eINTO orPUT orINTO (by decide))
    obtain ⟨n, o, h1, h2, h3, _, L, rfl, ⟨rfl, N, -⟩, hq⟩ := rm0_C l s _ hw tables_1 i0 aPUT s.heap s.heap.size (Nat.le_refl _) (by rw [hI]; exact HP) EPUT HT (by rw [hI, c6]; decide) (by rw [hI, c6]; decide) (by decide) p e ha hc hk s m _ below hf ((Spec.applies_iff_loose hf).mp happ).1 ⟨rfl, State.Warmed39.refl s, rfl⟩ trivial
    refine ⟨n, _, h1, h2, h3, hpost _ _ _ _ _ _ ⟨Cond.after_iff.mpr rfl, Cond.after_iff.mpr (eq_i res_at (Term.int_eval (1)) rfl), trivial⟩ ⟨hq.1, hq.2.1, (hq.2.2.sift fun y hy => Or.inr (N y hy)).mono (by decide) (by decide)⟩⟩
  by_cases c7 : I = (7 : Int32)
  · have HP : own_Pick l s s.heap s.heap.size I aADD_ALL := rm1_k7 l s _ hw [] I aADD_ALL s.heap s.heap.size (Nat.le_refl _) SADD_ALL c0 c1 c2 c3 c4 c5 c6 c7
    have HT := rm2_N l s _ hw [] aADD_ALL aREAD aELEMENT aVIEW aARRAY aINTO s.heap s.heap.size (Nat.le_refl _) SREAD SELEMENT SVIEW SARRAY SINTO (own_ne eADD_ALL eREAD orADD_ALL orREAD (by decide)) (own_ne eADD_ALL eELEMENT orADD_ALL orELEMENT (by decide)) (own_ne eADD_ALL eVIEW orADD_ALL orVIEW (by decide)) (own_ne eADD_ALL eARRAY orADD_ALL orARRAY (by decide)) (own_ne eADD_ALL eINTO orADD_ALL orINTO (by decide))
    obtain ⟨n, o, h1, h2, h3, _, L, rfl, ⟨rfl, N, -⟩, hq⟩ := rm0_C l s _ hw tables_1 i0 aADD_ALL s.heap s.heap.size (Nat.le_refl _) (by rw [hI]; exact HP) EADD_ALL HT (by rw [hI, c7]; decide) (by rw [hI, c7]; decide) (by decide) p e ha hc hk s m _ below hf ((Spec.applies_iff_loose hf).mp happ).1 ⟨rfl, State.Warmed39.refl s, rfl⟩ trivial
    refine ⟨n, _, h1, h2, h3, hpost _ _ _ _ _ _ ⟨Cond.after_iff.mpr rfl, Cond.after_iff.mpr (eq_i res_at (Term.int_eval (1)) rfl), trivial⟩ ⟨hq.1, hq.2.1, (hq.2.2.sift fun y hy => Or.inr (N y hy)).mono (by decide) (by decide)⟩⟩
  by_cases c8 : I = (8 : Int32)
  · have HP : own_Pick l s s.heap s.heap.size I aINTO := rm1_k8 l s _ hw [] I aINTO s.heap s.heap.size (Nat.le_refl _) SINTO c0 c1 c2 c3 c4 c5 c6 c7 c8
    have HT := rm2_I l s _ hw [] aINTO aREAD aELEMENT aVIEW aARRAY aINTO s.heap s.heap.size (Nat.le_refl _) SREAD SELEMENT SVIEW SARRAY SINTO (own_ne eINTO eREAD orINTO orREAD (by decide)) (own_ne eINTO eELEMENT orINTO orELEMENT (by decide)) (own_ne eINTO eVIEW orINTO orVIEW (by decide)) (own_ne eINTO eARRAY orINTO orARRAY (by decide)) rfl
    obtain ⟨n, o, h1, h2, h3, _, L, rfl, ⟨rfl, N, -⟩, hq⟩ := rm0_B l s _ hw tables_1 i0 aINTO aINTO s.heap s.heap.size (Nat.le_refl _) (by rw [hI]; exact HP) EINTO HT SINTO EINTO HTI (by rw [hI, c8]; decide) (by rw [hI]; exact c8) (by decide) p e ha hc hk s m _ below hf ((Spec.applies_iff_loose hf).mp happ).1 ⟨rfl, State.Warmed39.refl s, rfl⟩ trivial
    refine ⟨n, _, h1, h2, h3, hpost _ _ _ _ _ _ ⟨Cond.after_iff.mpr rfl, Cond.after_iff.mpr (eq_i res_at (Term.int_eval (1)) rfl), trivial⟩ ⟨hq.1, hq.2.1, (hq.2.2.sift fun y hy => Or.inr (N y hy)).mono (by decide) (by decide)⟩⟩
  by_cases c9 : I = (9 : Int32)
  · have HP : own_Pick l s s.heap s.heap.size I aOF := rm1_k9 l s _ hw [] I aOF s.heap s.heap.size (Nat.le_refl _) SOF c0 c1 c2 c3 c4 c5 c6 c7 c8 c9
    have HT := rm2_N l s _ hw [] aOF aREAD aELEMENT aVIEW aARRAY aINTO s.heap s.heap.size (Nat.le_refl _) SREAD SELEMENT SVIEW SARRAY SINTO (own_ne eOF eREAD orOF orREAD (by decide)) (own_ne eOF eELEMENT orOF orELEMENT (by decide)) (own_ne eOF eVIEW orOF orVIEW (by decide)) (own_ne eOF eARRAY orOF orARRAY (by decide)) (own_ne eOF eINTO orOF orINTO (by decide))
    obtain ⟨n, o, h1, h2, h3, _, L, rfl, ⟨rfl, N, -⟩, hq⟩ := rm0_C l s _ hw tables_1 i0 aOF s.heap s.heap.size (Nat.le_refl _) (by rw [hI]; exact HP) EOF HT (by rw [hI, c9]; decide) (by rw [hI, c9]; decide) (by decide) p e ha hc hk s m _ below hf ((Spec.applies_iff_loose hf).mp happ).1 ⟨rfl, State.Warmed39.refl s, rfl⟩ trivial
    refine ⟨n, _, h1, h2, h3, hpost _ _ _ _ _ _ ⟨Cond.after_iff.mpr rfl, Cond.after_iff.mpr (eq_i res_at (Term.int_eval (1)) rfl), trivial⟩ ⟨hq.1, hq.2.1, (hq.2.2.sift fun y hy => Or.inr (N y hy)).mono (by decide) (by decide)⟩⟩
  by_cases c10 : I = (10 : Int32)
  · have HP : own_Pick l s s.heap s.heap.size I aAS_LIST := rm1_k10 l s _ hw [] I aAS_LIST s.heap s.heap.size (Nat.le_refl _) SAS_LIST c0 c1 c2 c3 c4 c5 c6 c7 c8 c9 c10
    have HT := rm2_N l s _ hw [] aAS_LIST aREAD aELEMENT aVIEW aARRAY aINTO s.heap s.heap.size (Nat.le_refl _) SREAD SELEMENT SVIEW SARRAY SINTO (own_ne eAS_LIST eREAD orAS_LIST orREAD (by decide)) (own_ne eAS_LIST eELEMENT orAS_LIST orELEMENT (by decide)) (own_ne eAS_LIST eVIEW orAS_LIST orVIEW (by decide)) (own_ne eAS_LIST eARRAY orAS_LIST orARRAY (by decide)) (own_ne eAS_LIST eINTO orAS_LIST orINTO (by decide))
    obtain ⟨n, o, h1, h2, h3, _, L, rfl, ⟨rfl, N, -⟩, hq⟩ := rm0_C l s _ hw tables_1 i0 aAS_LIST s.heap s.heap.size (Nat.le_refl _) (by rw [hI]; exact HP) EAS_LIST HT (by rw [hI, c10]; decide) (by rw [hI, c10]; decide) (by decide) p e ha hc hk s m _ below hf ((Spec.applies_iff_loose hf).mp happ).1 ⟨rfl, State.Warmed39.refl s, rfl⟩ trivial
    refine ⟨n, _, h1, h2, h3, hpost _ _ _ _ _ _ ⟨Cond.after_iff.mpr rfl, Cond.after_iff.mpr (eq_i res_at (Term.int_eval (1)) rfl), trivial⟩ ⟨hq.1, hq.2.1, (hq.2.2.sift fun y hy => Or.inr (N y hy)).mono (by decide) (by decide)⟩⟩
  by_cases c11 : I = (11 : Int32)
  · have HP : own_Pick l s s.heap s.heap.size I aCOPY_OF := rm1_k11 l s _ hw [] I aCOPY_OF s.heap s.heap.size (Nat.le_refl _) SCOPY_OF c0 c1 c2 c3 c4 c5 c6 c7 c8 c9 c10 c11
    have HT := rm2_N l s _ hw [] aCOPY_OF aREAD aELEMENT aVIEW aARRAY aINTO s.heap s.heap.size (Nat.le_refl _) SREAD SELEMENT SVIEW SARRAY SINTO (own_ne eCOPY_OF eREAD orCOPY_OF orREAD (by decide)) (own_ne eCOPY_OF eELEMENT orCOPY_OF orELEMENT (by decide)) (own_ne eCOPY_OF eVIEW orCOPY_OF orVIEW (by decide)) (own_ne eCOPY_OF eARRAY orCOPY_OF orARRAY (by decide)) (own_ne eCOPY_OF eINTO orCOPY_OF orINTO (by decide))
    obtain ⟨n, o, h1, h2, h3, _, L, rfl, ⟨rfl, N, -⟩, hq⟩ := rm0_C l s _ hw tables_1 i0 aCOPY_OF s.heap s.heap.size (Nat.le_refl _) (by rw [hI]; exact HP) ECOPY_OF HT (by rw [hI, c11]; decide) (by rw [hI, c11]; decide) (by decide) p e ha hc hk s m _ below hf ((Spec.applies_iff_loose hf).mp happ).1 ⟨rfl, State.Warmed39.refl s, rfl⟩ trivial
    refine ⟨n, _, h1, h2, h3, hpost _ _ _ _ _ _ ⟨Cond.after_iff.mpr rfl, Cond.after_iff.mpr (eq_i res_at (Term.int_eval (1)) rfl), trivial⟩ ⟨hq.1, hq.2.1, (hq.2.2.sift fun y hy => Or.inr (N y hy)).mono (by decide) (by decide)⟩⟩
  have g3 : (3 : Int32) < I := by
    rw [Int32.lt_iff_toInt_lt]
    have t3 : (3 : Int32).toInt = 3 := rfl
    have n0 : I.toInt ≠ 0 := fun q => c0 (Int32.toInt_inj.mp q)
    have n1 : I.toInt ≠ 1 := fun q => c1 (Int32.toInt_inj.mp q)
    have n2 : I.toInt ≠ 2 := fun q => c2 (Int32.toInt_inj.mp q)
    have n3 : I.toInt ≠ 3 := fun q => c3 (Int32.toInt_inj.mp q)
    omega
  have HP : own_Pick l s s.heap s.heap.size I aVIEW_OF := rm1_k12 l s _ hw [] I aVIEW_OF s.heap s.heap.size (Nat.le_refl _) SVIEW_OF c0 c1 c2 c3 c4 c5 c6 c7 c8 c9 c10 c11
  have HT := rm2_N l s _ hw [] aVIEW_OF aREAD aELEMENT aVIEW aARRAY aINTO s.heap s.heap.size (Nat.le_refl _) SREAD SELEMENT SVIEW SARRAY SINTO (own_ne eVIEW_OF eREAD orVIEW_OF orREAD (by decide)) (own_ne eVIEW_OF eELEMENT orVIEW_OF orELEMENT (by decide)) (own_ne eVIEW_OF eVIEW orVIEW_OF orVIEW (by decide)) (own_ne eVIEW_OF eARRAY orVIEW_OF orARRAY (by decide)) (own_ne eVIEW_OF eINTO orVIEW_OF orINTO (by decide))
  obtain ⟨n, o, h1, h2, h3, _, L, rfl, ⟨rfl, N, -⟩, hq⟩ := rm0_C l s _ hw tables_1 i0 aVIEW_OF s.heap s.heap.size (Nat.le_refl _) (by rw [hI]; exact HP) EVIEW_OF HT (by rw [hI]; exact g3) (by rw [hI]; exact c8) (by decide) p e ha hc hk s m _ below hf ((Spec.applies_iff_loose hf).mp happ).1 ⟨rfl, State.Warmed39.refl s, rfl⟩ trivial
  refine ⟨n, _, h1, h2, h3, hpost _ _ _ _ _ _ ⟨Cond.after_iff.mpr rfl, Cond.after_iff.mpr (eq_i res_at (Term.int_eval (1)) rfl), trivial⟩ ⟨hq.1, hq.2.1, (hq.2.2.sift fun y hy => Or.inr (N y hy)).mono (by decide) (by decide)⟩⟩
theorem main_1_1 : Claimed_1_1 := comes_1 fun _ _ _ _ _ _ h hF => ⟨h.1, hF⟩
theorem main_1_2 : Claimed_1_2 := comes_1 fun _ _ _ _ _ _ h hF => ⟨h.2.1, hF⟩
end Jvm.Pilot.@@N@@
namespace Jvm.Pilot.@@N@@
open Jvm Jvm.ClassFile Sem Op Lib Jvm.Free Jvm.Stand Jvm.Pilot.@@N@@.Jvm.D
/-! MADE BY PROGRAM (witnessworld.py) out of the Statement's table words and the real class files: 12 classes; the members and pool entries that the words name. The judged class is class 1, her method 2. -/
namespace start1
open Jvm.ClassFile
def u (s : String) : CpInfo := .utf8 (stringToUtf16 s)
/-- a pool by its gaps: so many unusable entries, then the entry; so many at the end -/
def gap : Nat → List CpInfo → List CpInfo
  | 0, r => r
  | n + 1, r => .unusable :: gap n r
def poolList (es : List (Nat × CpInfo)) (last : Nat) : List CpInfo := es.foldr (fun e r => gap e.1 (e.2 :: r)) (gap last [])
def pool (es : List (Nat × CpInfo)) (last : Nat) : Array CpInfo := ⟨poolList es last⟩
def fileOf (pool : Array CpInfo) (this : Nat) (attrs : Array Attribute := #[]) (ms : Array MethodInfo := #[]) (fl : Nat := 33) (sup : Nat := 0) (ifs : Array Nat := #[]) (fds : Array FieldInfo := #[]) : ClassFile where
  minorVersion := 0
  majorVersion := 65
  constantPool := pool
  accessFlags := fl
  thisClass := this
  superClass := sup
  interfaces := ifs
  fields := fds
  methods := ms
  attributes := attrs
def plain (name : String) (sup : Option ClassId) : Class where
  name := name
  kind := .ordinary
  loader := none
  accessFlags := 33
  super := sup
  interfaces := #[]
  cf := none
  fields := #[]
  methods := #[]
  instanceTypes := #[]
  staticTypes := #[]
  resolved := #[]
  callSites := []
  init := .initialized
  statics := none
  mirror := none

def pool0 : Array CpInfo := pool [(5, u "<init>"), (0, u "()V"), (1, .class_ 10), (1, u "java/lang/Object")] 113

def k0m0 : Method := { name := "<init>", desc := "()V", sig := { parameters := [], returnType := none }, accessFlags := 1, code := none }
/-- java/lang/Object -/
def k0 : Class := { plain "java/lang/Object" none with
  accessFlags := 33
  interfaces := #[]
  cf := some (fileOf pool0 8 #[] #[{ accessFlags := 1, nameIndex := 5, descriptorIndex := 6, attributes := #[] }] 33 0 #[] #[])
  fields := #[]
  methods := #[k0m0]
  instanceTypes := #[]
  staticTypes := #[]
  resolved := Array.replicate 124 none
  statics := none }

def pool1 : Array CpInfo := pool [(2, .class_ 4), (1, u "java/lang/Object"), (0, u "<init>"), (0, u "()V"), (0, .fieldref 8 9), (0, .class_ 10), (0, .nameAndType 11 12), (0, u "com/example/violet_dye/violetdye/runtime/LibraryCalls$Summary"), (0, u "READ"), (0, u "Lcom/example/violet_dye/violetdye/runtime/LibraryCalls$Summary;"), (0, .fieldref 8 14), (0, .nameAndType 15 12), (0, u "ELEMENT"), (0, .fieldref 8 17), (0, .nameAndType 18 12), (0, u "VIEW"), (0, .fieldref 8 20), (0, .nameAndType 21 12), (0, u "ARRAY"), (0, .fieldref 8 23), (0, .nameAndType 24 12), (0, u "ADD"), (0, .fieldref 8 26), (0, .nameAndType 27 12), (0, u "SET"), (0, .fieldref 8 29), (0, .nameAndType 30 12), (0, u "PUT"), (0, .fieldref 8 32), (0, .nameAndType 33 12), (0, u "ADD_ALL"), (0, .fieldref 8 35), (0, .nameAndType 36 12), (0, u "INTO"), (0, .fieldref 8 38), (0, .nameAndType 39 12), (0, u "OF"), (0, .fieldref 8 41), (0, .nameAndType 42 12), (0, u "AS_LIST"), (0, .fieldref 8 44), (0, .nameAndType 45 12), (0, u "COPY_OF"), (0, .fieldref 8 47), (0, .nameAndType 48 12), (0, u "VIEW_OF"), (0, .integer 2147483647), (0, .methodref 51 52), (0, .class_ 53), (0, .nameAndType 54 55), (0, u "com/example/violet_dye/violetdye/runtime/SummaryThrownPinLaw"), (0, u "pick"), (0, u "(I)Lcom/example/violet_dye/violetdye/runtime/LibraryCalls$Summary;"), (0, .methodref 8 57), (0, .nameAndType 58 59), (0, u "thrown"), (0, u "()Lcom/example/violet_dye/violetdye/runtime/LibraryCalls$Summary;"), (3, u "law"), (0, u "(I)Z")] 6

def k1m0 : Method := { name := "<init>", desc := "()V", sig := { parameters := [], returnType := none }, accessFlags := 2, code := none }
def k1c1 : Code := { maxStack := 2, maxLocals := 1, code := method_2_code, exceptionTable := #[], attributes := #[] }
def k1m1 : Method := { name := "pick", desc := "(I)Lcom/example/violet_dye/violetdye/runtime/LibraryCalls$Summary;", sig := { parameters := [.int], returnType := some (.object "com/example/violet_dye/violetdye/runtime/LibraryCalls$Summary") }, accessFlags := 10, code := some k1c1 }
def k1c2 : Code := { maxStack := 2, maxLocals := 6, code := code, exceptionTable := #[], attributes := #[] }
def k1m2 : Method := { name := "law", desc := "(I)Z", sig := { parameters := [.int], returnType := some .boolean }, accessFlags := 9, code := some k1c2 }
/-- com/example/violet_dye/violetdye/runtime/SummaryThrownPinLaw -/
def k1 : Class := { plain "com/example/violet_dye/violetdye/runtime/SummaryThrownPinLaw" (some 0) with
  accessFlags := 49
  interfaces := #[]
  cf := some (fileOf pool1 51 #[] #[{ accessFlags := 2, nameIndex := 5, descriptorIndex := 6, attributes := #[] }, { accessFlags := 10, nameIndex := 54, descriptorIndex := 55, attributes := #[] }, { accessFlags := 9, nameIndex := 63, descriptorIndex := 64, attributes := #[] }] 49 2 #[] #[])
  fields := #[]
  methods := #[k1m0, k1m1, k1m2]
  instanceTypes := #[]
  staticTypes := #[]
  resolved := Array.replicate 71 none
  statics := none }

def pool2 : Array CpInfo := pool [(1, .class_ 2), (0, u "java/lang/constant/Constable"), (0, .class_ 4), (0, u "java/lang/Object")] 6

/-- java/lang/constant/Constable -/
def k2 : Class := { plain "java/lang/constant/Constable" (some 0) with
  accessFlags := 1537
  interfaces := #[]
  cf := some (fileOf pool2 1 #[] #[] 1537 3 #[] #[])
  fields := #[]
  methods := #[]
  instanceTypes := #[]
  staticTypes := #[]
  resolved := Array.replicate 11 none
  statics := none }

def pool3 : Array CpInfo := pool [(1, .class_ 2), (0, u "java/lang/Comparable"), (0, .class_ 4), (0, u "java/lang/Object")] 7

/-- java/lang/Comparable -/
def k3 : Class := { plain "java/lang/Comparable" (some 0) with
  accessFlags := 1537
  interfaces := #[]
  cf := some (fileOf pool3 1 #[] #[] 1537 3 #[] #[])
  fields := #[]
  methods := #[]
  instanceTypes := #[]
  staticTypes := #[]
  resolved := Array.replicate 12 none
  statics := none }

def pool4 : Array CpInfo := pool [(1, .class_ 2), (0, u "java/io/Serializable"), (0, .class_ 4), (0, u "java/lang/Object")] 2

/-- java/io/Serializable -/
def k4 : Class := { plain "java/io/Serializable" (some 0) with
  accessFlags := 1537
  interfaces := #[]
  cf := some (fileOf pool4 1 #[] #[] 1537 3 #[] #[])
  fields := #[]
  methods := #[]
  instanceTypes := #[]
  staticTypes := #[]
  resolved := Array.replicate 7 none
  statics := none }

def pool5 : Array CpInfo := pool [(2, .class_ 4), (1, u "java/lang/Enum"), (0, u "name"), (0, u "Ljava/lang/String;"), (2, u "ordinal"), (0, u "I"), (1, .class_ 14), (1, u "java/lang/Object"), (4, u "hash"), (86, .class_ 108), (1, u "java/lang/Enum$EnumDesc"), (2, .class_ 112), (0, u "java/lang/constant/Constable"), (0, .class_ 114), (0, u "java/lang/Comparable"), (0, .class_ 116), (0, u "java/io/Serializable")] 87

/-- java/lang/Enum -/
def k5 : Class := { plain "java/lang/Enum" (some 0) with
  accessFlags := 1057
  interfaces := #[2, 3, 4]
  cf := some (fileOf pool5 2 #[.nestMembers #[106]] #[] 1057 12 #[111, 113, 115] #[{ accessFlags := 18, nameIndex := 5, descriptorIndex := 6, attributes := #[] }, { accessFlags := 18, nameIndex := 9, descriptorIndex := 10, attributes := #[] }, { accessFlags := 2, nameIndex := 19, descriptorIndex := 10, attributes := #[] }])
  fields := #[{ name := "name", type := (.object "java/lang/String"), accessFlags := 18, slot := 0, constantValue := 0 }, { name := "ordinal", type := .int, accessFlags := 18, slot := 1, constantValue := 0 }, { name := "hash", type := .int, accessFlags := 2, slot := 2, constantValue := 0 }]
  methods := #[]
  instanceTypes := #[(.object "java/lang/String"), .int, .int]
  staticTypes := #[]
  resolved := Array.replicate 204 none
  statics := none }

def pool6 : Array CpInfo := pool [(1, .class_ 2), (0, u "com/example/violet_dye/violetdye/runtime/LibraryCalls$Summary"), (0, .fieldref 1 4), (0, .nameAndType 5 6), (0, u "READ"), (0, u "Lcom/example/violet_dye/violetdye/runtime/LibraryCalls$Summary;"), (0, .fieldref 1 8), (0, .nameAndType 9 6), (0, u "ELEMENT"), (0, .fieldref 1 11), (0, .nameAndType 12 6), (0, u "VIEW"), (0, .fieldref 1 14), (0, .nameAndType 15 6), (0, u "ARRAY"), (2, u "ADD"), (2, u "SET"), (2, u "PUT"), (2, u "ADD_ALL"), (0, .fieldref 1 29), (0, .nameAndType 30 6), (0, u "INTO"), (2, u "OF"), (2, u "AS_LIST"), (2, u "COPY_OF"), (2, u "VIEW_OF"), (2, u "$VALUES"), (0, u "[Lcom/example/violet_dye/violetdye/runtime/LibraryCalls$Summary;"), (6, .class_ 55), (1, u "java/lang/Enum"), (31, u "thrown"), (0, u "()Lcom/example/violet_dye/violetdye/runtime/LibraryCalls$Summary;"), (6, .class_ 96), (0, u "com/example/violet_dye/violetdye/runtime/LibraryCalls")] 2

def k6c0 : Code := { maxStack := 2, maxLocals := 2, code := prog_28_method_4_code, exceptionTable := #[], attributes := #[] }
def k6m0 : Method := { name := "thrown", desc := "()Lcom/example/violet_dye/violetdye/runtime/LibraryCalls$Summary;", sig := { parameters := [], returnType := some (.object "com/example/violet_dye/violetdye/runtime/LibraryCalls$Summary") }, accessFlags := 1, code := some k6c0 }
/-- com/example/violet_dye/violetdye/runtime/LibraryCalls$Summary -/
def k6 : Class := { plain "com/example/violet_dye/violetdye/runtime/LibraryCalls$Summary" (some 5) with
  accessFlags := 16433
  interfaces := #[]
  cf := some (fileOf pool6 1 #[.nestHost 95] #[{ accessFlags := 1, nameIndex := 87, descriptorIndex := 88, attributes := #[] }] 16433 53 #[] #[{ accessFlags := 16409, nameIndex := 5, descriptorIndex := 6, attributes := #[] }, { accessFlags := 16409, nameIndex := 9, descriptorIndex := 6, attributes := #[] }, { accessFlags := 16409, nameIndex := 12, descriptorIndex := 6, attributes := #[] }, { accessFlags := 16409, nameIndex := 15, descriptorIndex := 6, attributes := #[] }, { accessFlags := 16409, nameIndex := 18, descriptorIndex := 6, attributes := #[] }, { accessFlags := 16409, nameIndex := 21, descriptorIndex := 6, attributes := #[] }, { accessFlags := 16409, nameIndex := 24, descriptorIndex := 6, attributes := #[] }, { accessFlags := 16409, nameIndex := 27, descriptorIndex := 6, attributes := #[] }, { accessFlags := 16409, nameIndex := 30, descriptorIndex := 6, attributes := #[] }, { accessFlags := 16409, nameIndex := 33, descriptorIndex := 6, attributes := #[] }, { accessFlags := 16409, nameIndex := 36, descriptorIndex := 6, attributes := #[] }, { accessFlags := 16409, nameIndex := 39, descriptorIndex := 6, attributes := #[] }, { accessFlags := 16409, nameIndex := 42, descriptorIndex := 6, attributes := #[] }, { accessFlags := 4122, nameIndex := 45, descriptorIndex := 46, attributes := #[] }])
  fields := #[{ name := "READ", type := (.object "com/example/violet_dye/violetdye/runtime/LibraryCalls$Summary"), accessFlags := 16409, slot := 0, constantValue := 0 }, { name := "ELEMENT", type := (.object "com/example/violet_dye/violetdye/runtime/LibraryCalls$Summary"), accessFlags := 16409, slot := 1, constantValue := 0 }, { name := "VIEW", type := (.object "com/example/violet_dye/violetdye/runtime/LibraryCalls$Summary"), accessFlags := 16409, slot := 2, constantValue := 0 }, { name := "ARRAY", type := (.object "com/example/violet_dye/violetdye/runtime/LibraryCalls$Summary"), accessFlags := 16409, slot := 3, constantValue := 0 }, { name := "ADD", type := (.object "com/example/violet_dye/violetdye/runtime/LibraryCalls$Summary"), accessFlags := 16409, slot := 4, constantValue := 0 }, { name := "SET", type := (.object "com/example/violet_dye/violetdye/runtime/LibraryCalls$Summary"), accessFlags := 16409, slot := 5, constantValue := 0 }, { name := "PUT", type := (.object "com/example/violet_dye/violetdye/runtime/LibraryCalls$Summary"), accessFlags := 16409, slot := 6, constantValue := 0 }, { name := "ADD_ALL", type := (.object "com/example/violet_dye/violetdye/runtime/LibraryCalls$Summary"), accessFlags := 16409, slot := 7, constantValue := 0 }, { name := "INTO", type := (.object "com/example/violet_dye/violetdye/runtime/LibraryCalls$Summary"), accessFlags := 16409, slot := 8, constantValue := 0 }, { name := "OF", type := (.object "com/example/violet_dye/violetdye/runtime/LibraryCalls$Summary"), accessFlags := 16409, slot := 9, constantValue := 0 }, { name := "AS_LIST", type := (.object "com/example/violet_dye/violetdye/runtime/LibraryCalls$Summary"), accessFlags := 16409, slot := 10, constantValue := 0 }, { name := "COPY_OF", type := (.object "com/example/violet_dye/violetdye/runtime/LibraryCalls$Summary"), accessFlags := 16409, slot := 11, constantValue := 0 }, { name := "VIEW_OF", type := (.object "com/example/violet_dye/violetdye/runtime/LibraryCalls$Summary"), accessFlags := 16409, slot := 12, constantValue := 0 }, { name := "$VALUES", type := (.array (.object "com/example/violet_dye/violetdye/runtime/LibraryCalls$Summary")), accessFlags := 4122, slot := 13, constantValue := 0 }]
  methods := #[k6m0]
  instanceTypes := #[(.object "java/lang/String"), .int, .int]
  staticTypes := #[(.object "com/example/violet_dye/violetdye/runtime/LibraryCalls$Summary"), (.object "com/example/violet_dye/violetdye/runtime/LibraryCalls$Summary"), (.object "com/example/violet_dye/violetdye/runtime/LibraryCalls$Summary"), (.object "com/example/violet_dye/violetdye/runtime/LibraryCalls$Summary"), (.object "com/example/violet_dye/violetdye/runtime/LibraryCalls$Summary"), (.object "com/example/violet_dye/violetdye/runtime/LibraryCalls$Summary"), (.object "com/example/violet_dye/violetdye/runtime/LibraryCalls$Summary"), (.object "com/example/violet_dye/violetdye/runtime/LibraryCalls$Summary"), (.object "com/example/violet_dye/violetdye/runtime/LibraryCalls$Summary"), (.object "com/example/violet_dye/violetdye/runtime/LibraryCalls$Summary"), (.object "com/example/violet_dye/violetdye/runtime/LibraryCalls$Summary"), (.object "com/example/violet_dye/violetdye/runtime/LibraryCalls$Summary"), (.object "com/example/violet_dye/violetdye/runtime/LibraryCalls$Summary"), (.array (.object "com/example/violet_dye/violetdye/runtime/LibraryCalls$Summary"))]
  resolved := Array.replicate 99 none
  statics := some 0 }

def pool7 : Array CpInfo := pool [(1, u "java/lang/Cloneable"), (0, .class_ 1), (0, u "java/lang/Object"), (0, .class_ 3)] 3

/-- java/lang/Cloneable -/
def k7 : Class := { plain "java/lang/Cloneable" (some 0) with
  accessFlags := 1537
  interfaces := #[]
  cf := some (fileOf pool7 2 #[] #[] 1537 4 #[] #[])
  fields := #[]
  methods := #[]
  instanceTypes := #[]
  staticTypes := #[]
  resolved := Array.replicate 8 none
  statics := none }

/-- the primitive byte -/
def k8 : Class := { plain "byte" none with kind := .primitive 'B', accessFlags := 0x411 }
/-- [B -/
def k9 : Class := { plain "[B" (some 0) with kind := .array 8 .byte, interfaces := #[7, 4], accessFlags := 1041 }

/-- the primitive int -/
def k10 : Class := { plain "int" none with kind := .primitive 'I', accessFlags := 0x411 }
/-- [I -/
def k11 : Class := { plain "[I" (some 0) with kind := .array 10 .int, interfaces := #[7, 4], accessFlags := 1041 }

def heap : Heap := #[{ cls := 6, slots := #[.ref 1, .ref 2, .ref 3, .ref 4, .ref 5, .ref 6, .ref 7, .ref 8, .ref 9, .ref 10, .ref 11, .ref 12, .ref 13, .null], vm := .statics 6 },
  { cls := 6, slots := #[.null, .int 0, .int 0], vm := .none },
  { cls := 6, slots := #[.null, .int 1, .int 0], vm := .none },
  { cls := 6, slots := #[.null, .int 2, .int 0], vm := .none },
  { cls := 6, slots := #[.null, .int 3, .int 0], vm := .none },
  { cls := 6, slots := #[.null, .int 4, .int 0], vm := .none },
  { cls := 6, slots := #[.null, .int 5, .int 0], vm := .none },
  { cls := 6, slots := #[.null, .int 6, .int 0], vm := .none },
  { cls := 6, slots := #[.null, .int 7, .int 0], vm := .none },
  { cls := 6, slots := #[.null, .int 8, .int 0], vm := .none },
  { cls := 6, slots := #[.null, .int 9, .int 0], vm := .none },
  { cls := 6, slots := #[.null, .int 10, .int 0], vm := .none },
  { cls := 6, slots := #[.null, .int 11, .int 0], vm := .none },
  { cls := 6, slots := #[.null, .int 12, .int 0], vm := .none }]
def classes : Array Class := #[k0, k1, k2, k3, k4, k5, k6, k7, k8, k9, k10, k11]
def interned : List (Array UInt16 × Addr) := []
def slotsUsed : Nat := 53
def theMethod : MethodId := ⟨1, 2⟩
def args0 : Array Value := #[.int 5]
def aboutOver (below : List Frame) : State where
  vm := { classes := classes, interned := interned.toArray }
  heap := heap
  slotsUsed := slotsUsed
  threads := #[{ frames := .invoking theMethod args0 :: below }]
def below0 : List Frame := [.native { method := ⟨0, 0⟩, args := #[] }]
def about1 : State := aboutOver below0
def p0 : Program := .bare "" "" ""
def e0 : Env := launch0.env 0 0 0
theorem w_frames : about1.frames = Frame.invoking theMethod args0 :: below0 := rfl
set_option maxRecDepth 65536 in
theorem w_args : argsFit about1.vm theMethod args0 = true := by decide +kernel
set_option maxRecDepth 65536 in
theorem w_heap : heapFits about1 = true := by decide +kernel
set_option maxRecDepth 65536 in
theorem w_runnable : about1.curStatus? = some .runnable := by decide +kernel
set_option maxRecDepth 65536 in
theorem w_alone : about1.alone = true := by decide +kernel
set_option maxRecDepth 65536 in
theorem w_named : about1.methodNamed? x = some theMethod := by decide +kernel
set_option maxRecDepth 65536 in
theorem w_hears : about1.hears theMethod below0 = true := by decide +kernel
set_option maxRecDepth 65536 in
theorem w_ripe : about1.ripe theMethod args0 below0 = true := by decide +kernel
theorem w_running : about1.status = .running := rfl
set_option maxRecDepth 65536 in
theorem w_room : about1.hasRoom e0.platform room_1 = true :=
  launch0.hasRoom_least _ room_1 (by decide +kernel) (by decide +kernel) (by decide +kernel) (by decide +kernel) (by decide +kernel) (by decide +kernel)
theorem allAtoms_all (ts : List Jvm.Cond) (a : Array Jvm.Value) (st : Jvm.State) : (allAtoms ts).before a st = ts.all (fun c => c.before a st) := by
  induction ts with
  | nil => rfl
  | cons c t ih =>
    show (Jvm.Cond.and c (allAtoms t)).before a st = _
    rw [Jvm.Cond.before_and, ih, List.all_cons]
def words1 : List Jvm.Cond := Jvm.Cond.code x code maxLocals ret :: tables_1
/-- a 'code' word, met by the world's own term for the bytes: nothing is compared byte by byte -/
theorem code_word {y : MethodName} {bytes : ByteArray} {mx : Nat} {rt : Option FieldType} {a : Array Value} {s : State} {m : MethodId} {meth : Method} {c : Code} (h1 : s.methodNamed? y = some m) (h2 : s.vm.method? m = some meth) (h3 : meth.code = some c) (h4 : c.code = bytes)
    (h5 : (c.maxLocals == mx && c.exceptionTable.isEmpty && decide (c.maxStack ≤ mostOperands) && decide (meth.sig.returnType = rt) && !meth.locks && decide (parseMethodDescriptor y.desc = some meth.sig)) = true) : (Jvm.Cond.code y bytes mx rt).before a s = true := by
  simp only [Bool.and_eq_true, beq_iff_eq, Bool.not_eq_true', decide_eq_true_eq] at h5
  obtain ⟨⟨⟨⟨⟨g1, g2⟩, g3⟩, g4⟩, g5⟩, g6⟩ := h5
  simp [Cond.before, Cond.holds, Cond.value, h1, h2, h3, h4, g1, g2, g3, g4, g5, g6]
def isCode : Jvm.Cond → Bool
  | .code _ _ _ _ => true
  | _ => false
theorem all_split {L : List Jvm.Cond} {P : Jvm.Cond → Bool} (h1 : L.all (fun c => isCode c || P c) = true) (h2 : ∀ c ∈ L.filter isCode, P c = true) : L.all P = true := by
  refine List.all_eq_true.mpr fun c hc => ?_
  have h := List.all_eq_true.mp h1 c hc
  rcases Bool.eq_false_or_eq_true (isCode c) with hi | hi
  · exact h2 c (List.mem_filter.mpr ⟨hc, hi⟩)
  · simpa [hi] using h
set_option maxRecDepth 65536 in
theorem w_c0 : (Jvm.Cond.code x code maxLocals ret).before args0 about1 = true := code_word (m := ⟨1, 2⟩) (meth := k1m2) (c := k1c2) (by decide +kernel) rfl rfl rfl (by decide +kernel)
set_option maxRecDepth 65536 in
theorem w_c1 : (Jvm.Cond.code ({ cls := "com/example/violet_dye/violetdye/runtime/SummaryThrownPinLaw", name := "pick", desc := "(I)Lcom/example/violet_dye/violetdye/runtime/LibraryCalls$Summary;" } : Jvm.MethodName) method_2_code (1 : Nat) (Option.some (Jvm.ClassFile.FieldType.object "com/example/violet_dye/violetdye/runtime/LibraryCalls$Summary"))).before args0 about1 = true := code_word (m := ⟨1, 1⟩) (meth := k1m1) (c := k1c1) (by decide +kernel) rfl rfl rfl (by decide +kernel)
set_option maxRecDepth 65536 in
theorem w_c2 : (Jvm.Cond.code ({ cls := "com/example/violet_dye/violetdye/runtime/LibraryCalls$Summary", name := "thrown", desc := "()Lcom/example/violet_dye/violetdye/runtime/LibraryCalls$Summary;" } : Jvm.MethodName) prog_28_method_4_code (2 : Nat) (Option.some (Jvm.ClassFile.FieldType.object "com/example/violet_dye/violetdye/runtime/LibraryCalls$Summary"))).before args0 about1 = true := code_word (m := ⟨6, 0⟩) (meth := k6m0) (c := k6c0) (by decide +kernel) rfl rfl rfl (by decide +kernel)
def codes1 : List Jvm.Cond := [Jvm.Cond.code x code maxLocals ret, Jvm.Cond.code ({ cls := "com/example/violet_dye/violetdye/runtime/SummaryThrownPinLaw", name := "pick", desc := "(I)Lcom/example/violet_dye/violetdye/runtime/LibraryCalls$Summary;" } : Jvm.MethodName) method_2_code (1 : Nat) (Option.some (Jvm.ClassFile.FieldType.object "com/example/violet_dye/violetdye/runtime/LibraryCalls$Summary")), Jvm.Cond.code ({ cls := "com/example/violet_dye/violetdye/runtime/LibraryCalls$Summary", name := "thrown", desc := "()Lcom/example/violet_dye/violetdye/runtime/LibraryCalls$Summary;" } : Jvm.MethodName) prog_28_method_4_code (2 : Nat) (Option.some (Jvm.ClassFile.FieldType.object "com/example/violet_dye/violetdye/runtime/LibraryCalls$Summary"))]
set_option maxRecDepth 65536 in
theorem codes_eq : words1.filter isCode = codes1 := rfl
theorem w_codes : ∀ c ∈ words1.filter isCode, c.before args0 about1 = true := by
  rw [codes_eq]
  intro c hc
  simp only [codes1, List.mem_cons, List.not_mem_nil, or_false] at hc
  rcases hc with rfl | rfl | rfl
  · exact w_c0
  · exact w_c1
  · exact w_c2
set_option maxRecDepth 65536 in
theorem w_t1 : (words1.take 24).all (fun c => isCode c || c.before args0 about1) = true := by decide +kernel
set_option maxRecDepth 65536 in
theorem w_t2 : (words1.drop 24).all (fun c => isCode c || c.before args0 about1) = true := by decide +kernel
theorem w_tables : (allAtoms (Jvm.Cond.code x code maxLocals ret :: tables_1)).before args0 about1 = true := by
  rw [allAtoms_all]
  show words1.all (fun c => c.before args0 about1) = true
  refine all_split ?_ w_codes
  rw [← List.take_append_drop 24 words1, List.all_append, w_t1, w_t2]
  rfl
set_option maxRecDepth 65536 in
theorem w_case : (Jvm.Cond.and given_1 narrow_1).before args0 about1 = true := by decide +kernel
theorem w_applies : (headSpec (Jvm.Cond.code x code maxLocals ret :: tables_1) room_1).applies x e0.platform about1 = true :=
  (Spec.applies_iff w_frames).mpr ⟨w_running, w_runnable, w_alone, w_named, w_hears, w_ripe, w_room, w_tables⟩
theorem atStart : AtStart classFile x code maxLocals ret World_1 tables_1 room_1 Calls_1 rest_1 Pre_1 launch0 p0 e0 about1 theMethod args0 below0 :=
  ⟨lists_1, trivial, launch0.admits_env _ _ _, launch0.least_env, fairChoices_fair.cas, fairChoices_fair.clock, w_frames, w_args, w_heap, w_applies, trivial, trivial, w_case⟩
end start1
theorem witness_1 : WitnessClaimed_1 := ⟨start1.p0, start1.e0, start1.about1, start1.theMethod, start1.args0, start1.below0, start1.atStart⟩
end Jvm.Pilot.@@N@@
