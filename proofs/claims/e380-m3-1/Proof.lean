import JvmDerived
import JvmDerived.Pilot.@@N@@Statement
import JvmDerived.Pilot.@@N@@Code
set_option linter.unusedVariables false
set_option linter.unusedSimpArgs false
namespace Jvm.RoadKit
open Sem ClassFile Op Lib Jvm.Stand Jvm.Free Jvm.LawKit
section New
variable {p : Program} {l : Launch} {e : Env} {R : Room} {s : State} {m : MethodId} {args : Array Value} {below : List Frame} {meth : Method} {c : Code} {T : State} {locs : List Loc} {cells slots : Nat}
theorem retI (X : Stand p l e R s m args below meth c T locs cells slots) (hx : p.tables.exec = Jvm.exec) {pc : Nat} {Ls : Array Slot} {z : Int32} {rest : List Value} (hret : meth.sig.returnType = some .int) (hd : decode c.code pc = .ok (.ireturn, 1)) {fs : List Frame}
    (hl : ∀ (f : JFrame) (acts : List Action), f.method = m → f.locked = none → f.entered = [] → (doReturn e (T.setTop f) acts (some (.int z))).1 = T.setFrames fs) : Steps p.tables e below (T.setTop (mkF m pc Ls (.int z :: rest))) (T.setFrames fs) := by
  have hm' : T.vm.method? m = some meth := X.method'
  have hn : narrow .int (.int z) = .int z := rfl
  show Steps p.tables e below (T.setTop { method := m, pc := pc, locals := Ls, stack := _ :: rest, locked := none }) _
  jvm_step X.here [X.here.top, hx, hd, hm', hret, hn]
  first | (intro acts; rw [hl _ acts rfl rfl rfl]) | rw [hl _ _ rfl rfl rfl]
  exact Steps.refl _
end New
end Jvm.RoadKit
namespace Jvm.Pilot.@@N@@
open Jvm Jvm.ClassFile Sem Op Lib Jvm.Free Jvm.Stand Jvm.LawKit Jvm.RoadKit Bundle Jvm.Pilot.@@N@@.Jvm.D
theorem own_pin {args : Array Value} {s : State} {C n d K : String} (hx : (Jvm.Cond.exactly (Jvm.Term.static C n d) K).value args s none s [] = some true) (hi : (Jvm.Cond.initialized C).before args s = true) (hl : (Jvm.Cond.laysStatic C n d).before args s = true) :
    ∃ w, (Jvm.Term.static C n d).eval args s none [] s = some (.ref w) ∧ Sta s s.heap C n d (.ref w) ∧ Exa s s.heap w K := by
  obtain ⟨w, ev⟩ := exa_v hx
  exact ⟨w, ev, Sta.start ev (Or.inr ⟨hi, hl⟩), Exa.start ev hx⟩
theorem own_fld {args : Array Value} {s : State} {t : Jvm.Term} {C n d : String} {k : Int32} {w : Addr} (ev : t.eval args s none [] s = some (.ref w)) (h : (Jvm.Cond.eq (Jvm.Term.field t C n d) (Jvm.Term.int k)).value args s none s [] = some true) : s.fieldOf? w C n d = some (.int k) := by
  obtain ⟨x, y, hx, hy, -, hk⟩ := cmp_v (Or.inl h)
  have hy' : (Jvm.Term.int k).eval args s none [] s = some (.int k) := Term.int_eval k
  cases hy.symm.trans hy'
  obtain ⟨z, rfl⟩ := hk
  have e : (Jvm.Cond.eq (Jvm.Term.field t C n d) (Jvm.Term.int k)).value args s none s [] = some (decide (z = k)) := by simp [Cond.value, hx, hy']
  have q := gotT e h
  rw [fld_at ev] at hx
  rw [hx, q]
theorem own_ne {s : State} {w w' : Addr} {C n d : String} {k k' : Int32} (h1 : s.fieldOf? w C n d = some (.int k)) (h2 : s.fieldOf? w' C n d = some (.int k')) (hk : k ≠ k') : w ≠ w' := fun e => by
  subst e
  exact hk (Value.int.inj (Option.some.inj (h1.symm.trans h2)))
theorem d1_0 : decode prog_50_method_5_code 0 = .ok (.aload_n 0, 1) := by decide +kernel
theorem d1_1 : decode prog_50_method_5_code 1 = .ok (.getstatic 25, 3) := by decide +kernel
theorem d1_4 : decode prog_50_method_5_code 4 = .ok (.if_acmp .eq 17, 3) := by decide +kernel
theorem d1_21 : decode prog_50_method_5_code 21 = .ok (.iconst 1, 1) := by decide +kernel
theorem d1_22 : decode prog_50_method_5_code 22 = .ok (.goto 4, 3) := by decide +kernel
theorem d1_26 : decode prog_50_method_5_code 26 = .ok (.ireturn, 1) := by decide +kernel
def Q_coT (Z : State) (a : Addr) (w7 : Addr) (w8 : Addr) (w9 : Addr) (h0 : Heap) (n0 : Nat) (v : Option Value) (h : Heap) (L : List Loc) : Prop := v = some (.int (1 : Int32)) ∧ Fr n0 L ∧ h = h0
theorem pn_1 : plainName "com/example/castwise/castwise/core/DeclaredType$Name" = true := by first | (simp [plainName, overriddenIn]; done) | decide +kernel
theorem ef_coT (m : MethodId) (a : Addr) : entryFrame m #[(.ref a)] 1 = mkF m 0 #[.val (.ref a)] [] := by first | (simp [entryFrame, mkF, argsToLocals, Value.category]; done) | rfl
set_option maxRecDepth 65536 in
set_option maxHeartbeats 40000000 in
theorem rm_coT_0 (l : Launch) (Z : State) (a0 : Array Value) (hw : ∀ d ∈ tables_1, d.before a0 Z = true) (ws : List Jvm.Cond) (a : Addr) (w7 : Addr) (w8 : Addr) (w9 : Addr) (h0 : Heap) (n0 : Nat) (Z0 : n0 ≤ h0.size) (S_BIGINT : Sta Z h0 "com/example/castwise/castwise/core/DeclaredType$Name" "BIGINT" "Lcom/example/castwise/castwise/core/DeclaredType$Name;" (.ref w7)) (S_DOUBLE_PRECISION : Sta Z h0 "com/example/castwise/castwise/core/DeclaredType$Name" "DOUBLE_PRECISION" "Lcom/example/castwise/castwise/core/DeclaredType$Name;" (.ref w8)) (S_BOOLEAN : Sta Z h0 "com/example/castwise/castwise/core/DeclaredType$Name" "BOOLEAN" "Lcom/example/castwise/castwise/core/DeclaredType$Name;" (.ref w9)) (ha4 : a = w7) :
    MetFree l (⟨"com/example/castwise/castwise/core/DeclaredType$Name", "isCastOnly", "()Z"⟩ : MethodName) (head1 (Jvm.Cond.code (⟨"com/example/castwise/castwise/core/DeclaredType$Name", "isCastOnly", "()Z"⟩ : MethodName) prog_50_method_5_code 1 (some .boolean) :: ws) ({ frames := 0, cells := 0, slots := 0, locals := 0 } : Room)) (fun a_ U => a_ = #[(.ref a)] ∧ Z.Warmed39 U.vm ∧ U.heap = h0) (fun _ _ _ _ _ => True) (fun _ U o U' => ∃ v L, o = .returned v ∧ Q_coT Z a w7 w8 w9 h0 n0 v U'.heap L ∧ FrameEnd U o U' L ({ frames := 0, cells := 0, slots := 0, locals := 0 } : Room).cells ({ frames := 0, cells := 0, slots := 0, locals := 0 } : Room).slots) := by
  refine MetFree.of_bodySF (plainFor_of_name pn_1) hisR ?_
  intro p e s m args below meth c s₁ Bd hml0 hP hK
  obtain ⟨rfl, hZ, hh⟩ := hP
  have hx := Bd.exec
  have hby := Bd.bytes
  have hml : c.maxLocals = 1 := hml0
  have hown : s.vm.findClass "com/example/castwise/castwise/core/DeclaredType$Name" = some m.cls := findClass_of_methodNamed Bd.named
  have hnm := (name_of_methodNamed Bd.named Bd.method).1
  have X0 : Stand p l e ({ frames := 0, cells := 0, slots := 0, locals := 0 } : Room) s m #[(.ref a)] below meth c s₁ [] 0 0 := Stand.of_body Bd
  have e0 : s₁.heap = h0 := by rw [← hh, Bd.state]; rfl
  have N0 := Fr.nil n0
  have pre0 : ∀ t, Steps p.tables e below (s₁.setTop (mkF m 0 #[.val (.ref a)] [])) t → Steps p.tables e below (s₁.setTop (entryFrame m #[(.ref a)] 1)) t := fun t_ k_ => castTop (ef_coT m a) k_
  obtain ⟨T1, X1, e1, st1⟩ := getS2 X0 hx hZ hown (host := "") (Or.inl (hw _ (List.mem_of_getElem? (i := 30) rfl))) Via.refl e0 S_BIGINT (g := (mkF m 1 #[.val (.ref a)] [(.ref a)])) rfl (hb hby d1_1)
  obtain ⟨fs, hr, hrun, hended, hW, hsame⟩ := X1.leave (v := some (.int (1 : Int32))) (fun h => by rw [Bd.returns] at h; cases h)
  refine ⟨_, _, pre0 _ ?_, hrun, hended, _, _, rfl, ?_, ⟨_, rfl⟩, hW, hsame.mono (by decide) (by decide)⟩
  · show Steps p.tables e below (s₁.setTop (mkF m 0 #[.val (.ref a)] [])) _
    refine XS.aloadN X0.here hx rfl (hb hby d1_0) rfl rfl ?_
    show Steps p.tables e below (s₁.setTop (mkF m 1 #[.val (.ref a)] [(.ref a)])) _
    refine st1 _ ?_
    show Steps p.tables e below (T1.setTop (mkF m 4 #[.val (.ref a)] [(.ref w7), (.ref a)])) _
    refine Jvm.RoadKit.acmp (g := (mkF m 4 #[.val (.ref a)] [(.ref w7), (.ref a)])) X1 hx rfl rfl rfl (pc0 := 4) (pc' := 21) (same := true) rfl (hb hby d1_4) rfl (decide_eq_true (congrArg Value.ref ha4)) (by decide) (by decide) ?_
    show Steps p.tables e below (T1.setTop (mkF m 21 #[.val (.ref a)] [])) _
    refine XS.iconst X1.here hx rfl (hb hby d1_21) ?_
    show Steps p.tables e below (T1.setTop (mkF m 22 #[.val (.ref a)] [(.int (1 : Int32))])) _
    refine XS.goto X1.here hx rfl (pc0 := 22) (pc' := 26) rfl (hb hby d1_22) (by decide) (by decide) ?_
    show Steps p.tables e below (T1.setTop (mkF m 26 #[.val (.ref a)] [(.int (1 : Int32))])) _
    exact retN X1 hx (t := .boolean) Bd.returns (by simp) (hb hby d1_26) hr
  · show Q_coT Z a w7 w8 w9 h0 n0 _ T1.heap _
    rw [e1]
    exact ⟨rfl, N0, rfl⟩
theorem d1_7 : decode prog_50_method_5_code 7 = .ok (.aload_n 0, 1) := by decide +kernel
theorem d1_8 : decode prog_50_method_5_code 8 = .ok (.getstatic 28, 3) := by decide +kernel
theorem d1_11 : decode prog_50_method_5_code 11 = .ok (.if_acmp .eq 10, 3) := by decide +kernel
set_option maxRecDepth 65536 in
set_option maxHeartbeats 40000000 in
theorem rm_coT_1 (l : Launch) (Z : State) (a0 : Array Value) (hw : ∀ d ∈ tables_1, d.before a0 Z = true) (ws : List Jvm.Cond) (a : Addr) (w7 : Addr) (w8 : Addr) (w9 : Addr) (h0 : Heap) (n0 : Nat) (Z0 : n0 ≤ h0.size) (S_BIGINT : Sta Z h0 "com/example/castwise/castwise/core/DeclaredType$Name" "BIGINT" "Lcom/example/castwise/castwise/core/DeclaredType$Name;" (.ref w7)) (S_DOUBLE_PRECISION : Sta Z h0 "com/example/castwise/castwise/core/DeclaredType$Name" "DOUBLE_PRECISION" "Lcom/example/castwise/castwise/core/DeclaredType$Name;" (.ref w8)) (S_BOOLEAN : Sta Z h0 "com/example/castwise/castwise/core/DeclaredType$Name" "BOOLEAN" "Lcom/example/castwise/castwise/core/DeclaredType$Name;" (.ref w9)) (ha4 : ¬ (a = w7)) (ha11 : a = w8) :
    MetFree l (⟨"com/example/castwise/castwise/core/DeclaredType$Name", "isCastOnly", "()Z"⟩ : MethodName) (head1 (Jvm.Cond.code (⟨"com/example/castwise/castwise/core/DeclaredType$Name", "isCastOnly", "()Z"⟩ : MethodName) prog_50_method_5_code 1 (some .boolean) :: ws) ({ frames := 0, cells := 0, slots := 0, locals := 0 } : Room)) (fun a_ U => a_ = #[(.ref a)] ∧ Z.Warmed39 U.vm ∧ U.heap = h0) (fun _ _ _ _ _ => True) (fun _ U o U' => ∃ v L, o = .returned v ∧ Q_coT Z a w7 w8 w9 h0 n0 v U'.heap L ∧ FrameEnd U o U' L ({ frames := 0, cells := 0, slots := 0, locals := 0 } : Room).cells ({ frames := 0, cells := 0, slots := 0, locals := 0 } : Room).slots) := by
  refine MetFree.of_bodySF (plainFor_of_name pn_1) hisR ?_
  intro p e s m args below meth c s₁ Bd hml0 hP hK
  obtain ⟨rfl, hZ, hh⟩ := hP
  have hx := Bd.exec
  have hby := Bd.bytes
  have hml : c.maxLocals = 1 := hml0
  have hown : s.vm.findClass "com/example/castwise/castwise/core/DeclaredType$Name" = some m.cls := findClass_of_methodNamed Bd.named
  have hnm := (name_of_methodNamed Bd.named Bd.method).1
  have X0 : Stand p l e ({ frames := 0, cells := 0, slots := 0, locals := 0 } : Room) s m #[(.ref a)] below meth c s₁ [] 0 0 := Stand.of_body Bd
  have e0 : s₁.heap = h0 := by rw [← hh, Bd.state]; rfl
  have N0 := Fr.nil n0
  have pre0 : ∀ t, Steps p.tables e below (s₁.setTop (mkF m 0 #[.val (.ref a)] [])) t → Steps p.tables e below (s₁.setTop (entryFrame m #[(.ref a)] 1)) t := fun t_ k_ => castTop (ef_coT m a) k_
  obtain ⟨T1, X1, e1, st1⟩ := getS2 X0 hx hZ hown (host := "") (Or.inl (hw _ (List.mem_of_getElem? (i := 30) rfl))) Via.refl e0 S_BIGINT (g := (mkF m 1 #[.val (.ref a)] [(.ref a)])) rfl (hb hby d1_1)
  obtain ⟨T2, X2, e2, st2⟩ := getS2 X1 hx hZ hown (host := "") (Or.inl (hw _ (List.mem_of_getElem? (i := 31) rfl))) Via.refl e1 S_DOUBLE_PRECISION (g := (mkF m 8 #[.val (.ref a)] [(.ref a)])) rfl (hb hby d1_8)
  obtain ⟨fs, hr, hrun, hended, hW, hsame⟩ := X2.leave (v := some (.int (1 : Int32))) (fun h => by rw [Bd.returns] at h; cases h)
  refine ⟨_, _, pre0 _ ?_, hrun, hended, _, _, rfl, ?_, ⟨_, rfl⟩, hW, hsame.mono (by decide) (by decide)⟩
  · show Steps p.tables e below (s₁.setTop (mkF m 0 #[.val (.ref a)] [])) _
    refine XS.aloadN X0.here hx rfl (hb hby d1_0) rfl rfl ?_
    show Steps p.tables e below (s₁.setTop (mkF m 1 #[.val (.ref a)] [(.ref a)])) _
    refine st1 _ ?_
    show Steps p.tables e below (T1.setTop (mkF m 4 #[.val (.ref a)] [(.ref w7), (.ref a)])) _
    refine Jvm.RoadKit.acmp (g := (mkF m 4 #[.val (.ref a)] [(.ref w7), (.ref a)])) X1 hx rfl rfl rfl (pc0 := 4) (pc' := 7) (same := false) rfl (hb hby d1_4) rfl (decide_eq_false fun q => ha4 (Value.ref.inj q)) (by decide) (by decide) ?_
    show Steps p.tables e below (T1.setTop (mkF m 7 #[.val (.ref a)] [])) _
    refine XS.aloadN X1.here hx rfl (hb hby d1_7) rfl rfl ?_
    show Steps p.tables e below (T1.setTop (mkF m 8 #[.val (.ref a)] [(.ref a)])) _
    refine st2 _ ?_
    show Steps p.tables e below (T2.setTop (mkF m 11 #[.val (.ref a)] [(.ref w8), (.ref a)])) _
    refine Jvm.RoadKit.acmp (g := (mkF m 11 #[.val (.ref a)] [(.ref w8), (.ref a)])) X2 hx rfl rfl rfl (pc0 := 11) (pc' := 21) (same := true) rfl (hb hby d1_11) rfl (decide_eq_true (congrArg Value.ref ha11)) (by decide) (by decide) ?_
    show Steps p.tables e below (T2.setTop (mkF m 21 #[.val (.ref a)] [])) _
    refine XS.iconst X2.here hx rfl (hb hby d1_21) ?_
    show Steps p.tables e below (T2.setTop (mkF m 22 #[.val (.ref a)] [(.int (1 : Int32))])) _
    refine XS.goto X2.here hx rfl (pc0 := 22) (pc' := 26) rfl (hb hby d1_22) (by decide) (by decide) ?_
    show Steps p.tables e below (T2.setTop (mkF m 26 #[.val (.ref a)] [(.int (1 : Int32))])) _
    exact retN X2 hx (t := .boolean) Bd.returns (by simp) (hb hby d1_26) hr
  · show Q_coT Z a w7 w8 w9 h0 n0 _ T2.heap _
    rw [e2]
    exact ⟨rfl, N0, rfl⟩
theorem d1_14 : decode prog_50_method_5_code 14 = .ok (.aload_n 0, 1) := by decide +kernel
theorem d1_15 : decode prog_50_method_5_code 15 = .ok (.getstatic 31, 3) := by decide +kernel
theorem d1_18 : decode prog_50_method_5_code 18 = .ok (.if_acmp .ne 7, 3) := by decide +kernel
set_option maxRecDepth 65536 in
set_option maxHeartbeats 40000000 in
theorem rm_coT_2 (l : Launch) (Z : State) (a0 : Array Value) (hw : ∀ d ∈ tables_1, d.before a0 Z = true) (ws : List Jvm.Cond) (a : Addr) (w7 : Addr) (w8 : Addr) (w9 : Addr) (h0 : Heap) (n0 : Nat) (Z0 : n0 ≤ h0.size) (S_BIGINT : Sta Z h0 "com/example/castwise/castwise/core/DeclaredType$Name" "BIGINT" "Lcom/example/castwise/castwise/core/DeclaredType$Name;" (.ref w7)) (S_DOUBLE_PRECISION : Sta Z h0 "com/example/castwise/castwise/core/DeclaredType$Name" "DOUBLE_PRECISION" "Lcom/example/castwise/castwise/core/DeclaredType$Name;" (.ref w8)) (S_BOOLEAN : Sta Z h0 "com/example/castwise/castwise/core/DeclaredType$Name" "BOOLEAN" "Lcom/example/castwise/castwise/core/DeclaredType$Name;" (.ref w9)) (ha4 : ¬ (a = w7)) (ha11 : ¬ (a = w8)) (ha18 : a = w9) :
    MetFree l (⟨"com/example/castwise/castwise/core/DeclaredType$Name", "isCastOnly", "()Z"⟩ : MethodName) (head1 (Jvm.Cond.code (⟨"com/example/castwise/castwise/core/DeclaredType$Name", "isCastOnly", "()Z"⟩ : MethodName) prog_50_method_5_code 1 (some .boolean) :: ws) ({ frames := 0, cells := 0, slots := 0, locals := 0 } : Room)) (fun a_ U => a_ = #[(.ref a)] ∧ Z.Warmed39 U.vm ∧ U.heap = h0) (fun _ _ _ _ _ => True) (fun _ U o U' => ∃ v L, o = .returned v ∧ Q_coT Z a w7 w8 w9 h0 n0 v U'.heap L ∧ FrameEnd U o U' L ({ frames := 0, cells := 0, slots := 0, locals := 0 } : Room).cells ({ frames := 0, cells := 0, slots := 0, locals := 0 } : Room).slots) := by
  refine MetFree.of_bodySF (plainFor_of_name pn_1) hisR ?_
  intro p e s m args below meth c s₁ Bd hml0 hP hK
  obtain ⟨rfl, hZ, hh⟩ := hP
  have hx := Bd.exec
  have hby := Bd.bytes
  have hml : c.maxLocals = 1 := hml0
  have hown : s.vm.findClass "com/example/castwise/castwise/core/DeclaredType$Name" = some m.cls := findClass_of_methodNamed Bd.named
  have hnm := (name_of_methodNamed Bd.named Bd.method).1
  have X0 : Stand p l e ({ frames := 0, cells := 0, slots := 0, locals := 0 } : Room) s m #[(.ref a)] below meth c s₁ [] 0 0 := Stand.of_body Bd
  have e0 : s₁.heap = h0 := by rw [← hh, Bd.state]; rfl
  have N0 := Fr.nil n0
  have pre0 : ∀ t, Steps p.tables e below (s₁.setTop (mkF m 0 #[.val (.ref a)] [])) t → Steps p.tables e below (s₁.setTop (entryFrame m #[(.ref a)] 1)) t := fun t_ k_ => castTop (ef_coT m a) k_
  obtain ⟨T1, X1, e1, st1⟩ := getS2 X0 hx hZ hown (host := "") (Or.inl (hw _ (List.mem_of_getElem? (i := 30) rfl))) Via.refl e0 S_BIGINT (g := (mkF m 1 #[.val (.ref a)] [(.ref a)])) rfl (hb hby d1_1)
  obtain ⟨T2, X2, e2, st2⟩ := getS2 X1 hx hZ hown (host := "") (Or.inl (hw _ (List.mem_of_getElem? (i := 31) rfl))) Via.refl e1 S_DOUBLE_PRECISION (g := (mkF m 8 #[.val (.ref a)] [(.ref a)])) rfl (hb hby d1_8)
  obtain ⟨T3, X3, e3, st3⟩ := getS2 X2 hx hZ hown (host := "") (Or.inl (hw _ (List.mem_of_getElem? (i := 32) rfl))) Via.refl e2 S_BOOLEAN (g := (mkF m 15 #[.val (.ref a)] [(.ref a)])) rfl (hb hby d1_15)
  obtain ⟨fs, hr, hrun, hended, hW, hsame⟩ := X3.leave (v := some (.int (1 : Int32))) (fun h => by rw [Bd.returns] at h; cases h)
  refine ⟨_, _, pre0 _ ?_, hrun, hended, _, _, rfl, ?_, ⟨_, rfl⟩, hW, hsame.mono (by decide) (by decide)⟩
  · show Steps p.tables e below (s₁.setTop (mkF m 0 #[.val (.ref a)] [])) _
    refine XS.aloadN X0.here hx rfl (hb hby d1_0) rfl rfl ?_
    show Steps p.tables e below (s₁.setTop (mkF m 1 #[.val (.ref a)] [(.ref a)])) _
    refine st1 _ ?_
    show Steps p.tables e below (T1.setTop (mkF m 4 #[.val (.ref a)] [(.ref w7), (.ref a)])) _
    refine Jvm.RoadKit.acmp (g := (mkF m 4 #[.val (.ref a)] [(.ref w7), (.ref a)])) X1 hx rfl rfl rfl (pc0 := 4) (pc' := 7) (same := false) rfl (hb hby d1_4) rfl (decide_eq_false fun q => ha4 (Value.ref.inj q)) (by decide) (by decide) ?_
    show Steps p.tables e below (T1.setTop (mkF m 7 #[.val (.ref a)] [])) _
    refine XS.aloadN X1.here hx rfl (hb hby d1_7) rfl rfl ?_
    show Steps p.tables e below (T1.setTop (mkF m 8 #[.val (.ref a)] [(.ref a)])) _
    refine st2 _ ?_
    show Steps p.tables e below (T2.setTop (mkF m 11 #[.val (.ref a)] [(.ref w8), (.ref a)])) _
    refine Jvm.RoadKit.acmp (g := (mkF m 11 #[.val (.ref a)] [(.ref w8), (.ref a)])) X2 hx rfl rfl rfl (pc0 := 11) (pc' := 14) (same := false) rfl (hb hby d1_11) rfl (decide_eq_false fun q => ha11 (Value.ref.inj q)) (by decide) (by decide) ?_
    show Steps p.tables e below (T2.setTop (mkF m 14 #[.val (.ref a)] [])) _
    refine XS.aloadN X2.here hx rfl (hb hby d1_14) rfl rfl ?_
    show Steps p.tables e below (T2.setTop (mkF m 15 #[.val (.ref a)] [(.ref a)])) _
    refine st3 _ ?_
    show Steps p.tables e below (T3.setTop (mkF m 18 #[.val (.ref a)] [(.ref w9), (.ref a)])) _
    refine Jvm.RoadKit.acmp (g := (mkF m 18 #[.val (.ref a)] [(.ref w9), (.ref a)])) X3 hx rfl rfl rfl (pc0 := 18) (pc' := 21) (same := true) rfl (hb hby d1_18) rfl (decide_eq_true (congrArg Value.ref ha18)) (by decide) (by decide) ?_
    show Steps p.tables e below (T3.setTop (mkF m 21 #[.val (.ref a)] [])) _
    refine XS.iconst X3.here hx rfl (hb hby d1_21) ?_
    show Steps p.tables e below (T3.setTop (mkF m 22 #[.val (.ref a)] [(.int (1 : Int32))])) _
    refine XS.goto X3.here hx rfl (pc0 := 22) (pc' := 26) rfl (hb hby d1_22) (by decide) (by decide) ?_
    show Steps p.tables e below (T3.setTop (mkF m 26 #[.val (.ref a)] [(.int (1 : Int32))])) _
    exact retN X3 hx (t := .boolean) Bd.returns (by simp) (hb hby d1_26) hr
  · show Q_coT Z a w7 w8 w9 h0 n0 _ T3.heap _
    rw [e3]
    exact ⟨rfl, N0, rfl⟩
theorem d1_25 : decode prog_50_method_5_code 25 = .ok (.iconst 0, 1) := by decide +kernel
def Q_coF (Z : State) (a : Addr) (w7 : Addr) (w8 : Addr) (w9 : Addr) (h0 : Heap) (n0 : Nat) (v : Option Value) (h : Heap) (L : List Loc) : Prop := v = some (.int (0 : Int32)) ∧ Fr n0 L ∧ h = h0
theorem ef_coF (m : MethodId) (a : Addr) : entryFrame m #[(.ref a)] 1 = mkF m 0 #[.val (.ref a)] [] := by first | (simp [entryFrame, mkF, argsToLocals, Value.category]; done) | rfl
set_option maxRecDepth 65536 in
set_option maxHeartbeats 40000000 in
theorem rm_coF (l : Launch) (Z : State) (a0 : Array Value) (hw : ∀ d ∈ tables_1, d.before a0 Z = true) (ws : List Jvm.Cond) (a : Addr) (w7 : Addr) (w8 : Addr) (w9 : Addr) (h0 : Heap) (n0 : Nat) (Z0 : n0 ≤ h0.size) (S_BIGINT : Sta Z h0 "com/example/castwise/castwise/core/DeclaredType$Name" "BIGINT" "Lcom/example/castwise/castwise/core/DeclaredType$Name;" (.ref w7)) (S_DOUBLE_PRECISION : Sta Z h0 "com/example/castwise/castwise/core/DeclaredType$Name" "DOUBLE_PRECISION" "Lcom/example/castwise/castwise/core/DeclaredType$Name;" (.ref w8)) (S_BOOLEAN : Sta Z h0 "com/example/castwise/castwise/core/DeclaredType$Name" "BOOLEAN" "Lcom/example/castwise/castwise/core/DeclaredType$Name;" (.ref w9)) (ha4 : ¬ (a = w7)) (ha11 : ¬ (a = w8)) (ha18 : ¬ (a = w9)) :
    MetFree l (⟨"com/example/castwise/castwise/core/DeclaredType$Name", "isCastOnly", "()Z"⟩ : MethodName) (head1 (Jvm.Cond.code (⟨"com/example/castwise/castwise/core/DeclaredType$Name", "isCastOnly", "()Z"⟩ : MethodName) prog_50_method_5_code 1 (some .boolean) :: ws) ({ frames := 0, cells := 0, slots := 0, locals := 0 } : Room)) (fun a_ U => a_ = #[(.ref a)] ∧ Z.Warmed39 U.vm ∧ U.heap = h0) (fun _ _ _ _ _ => True) (fun _ U o U' => ∃ v L, o = .returned v ∧ Q_coF Z a w7 w8 w9 h0 n0 v U'.heap L ∧ FrameEnd U o U' L ({ frames := 0, cells := 0, slots := 0, locals := 0 } : Room).cells ({ frames := 0, cells := 0, slots := 0, locals := 0 } : Room).slots) := by
  refine MetFree.of_bodySF (plainFor_of_name pn_1) hisR ?_
  intro p e s m args below meth c s₁ Bd hml0 hP hK
  obtain ⟨rfl, hZ, hh⟩ := hP
  have hx := Bd.exec
  have hby := Bd.bytes
  have hml : c.maxLocals = 1 := hml0
  have hown : s.vm.findClass "com/example/castwise/castwise/core/DeclaredType$Name" = some m.cls := findClass_of_methodNamed Bd.named
  have hnm := (name_of_methodNamed Bd.named Bd.method).1
  have X0 : Stand p l e ({ frames := 0, cells := 0, slots := 0, locals := 0 } : Room) s m #[(.ref a)] below meth c s₁ [] 0 0 := Stand.of_body Bd
  have e0 : s₁.heap = h0 := by rw [← hh, Bd.state]; rfl
  have N0 := Fr.nil n0
  have pre0 : ∀ t, Steps p.tables e below (s₁.setTop (mkF m 0 #[.val (.ref a)] [])) t → Steps p.tables e below (s₁.setTop (entryFrame m #[(.ref a)] 1)) t := fun t_ k_ => castTop (ef_coF m a) k_
  obtain ⟨T1, X1, e1, st1⟩ := getS2 X0 hx hZ hown (host := "") (Or.inl (hw _ (List.mem_of_getElem? (i := 30) rfl))) Via.refl e0 S_BIGINT (g := (mkF m 1 #[.val (.ref a)] [(.ref a)])) rfl (hb hby d1_1)
  obtain ⟨T2, X2, e2, st2⟩ := getS2 X1 hx hZ hown (host := "") (Or.inl (hw _ (List.mem_of_getElem? (i := 31) rfl))) Via.refl e1 S_DOUBLE_PRECISION (g := (mkF m 8 #[.val (.ref a)] [(.ref a)])) rfl (hb hby d1_8)
  obtain ⟨T3, X3, e3, st3⟩ := getS2 X2 hx hZ hown (host := "") (Or.inl (hw _ (List.mem_of_getElem? (i := 32) rfl))) Via.refl e2 S_BOOLEAN (g := (mkF m 15 #[.val (.ref a)] [(.ref a)])) rfl (hb hby d1_15)
  obtain ⟨fs, hr, hrun, hended, hW, hsame⟩ := X3.leave (v := some (.int (0 : Int32))) (fun h => by rw [Bd.returns] at h; cases h)
  refine ⟨_, _, pre0 _ ?_, hrun, hended, _, _, rfl, ?_, ⟨_, rfl⟩, hW, hsame.mono (by decide) (by decide)⟩
  · show Steps p.tables e below (s₁.setTop (mkF m 0 #[.val (.ref a)] [])) _
    refine XS.aloadN X0.here hx rfl (hb hby d1_0) rfl rfl ?_
    show Steps p.tables e below (s₁.setTop (mkF m 1 #[.val (.ref a)] [(.ref a)])) _
    refine st1 _ ?_
    show Steps p.tables e below (T1.setTop (mkF m 4 #[.val (.ref a)] [(.ref w7), (.ref a)])) _
    refine Jvm.RoadKit.acmp (g := (mkF m 4 #[.val (.ref a)] [(.ref w7), (.ref a)])) X1 hx rfl rfl rfl (pc0 := 4) (pc' := 7) (same := false) rfl (hb hby d1_4) rfl (decide_eq_false fun q => ha4 (Value.ref.inj q)) (by decide) (by decide) ?_
    show Steps p.tables e below (T1.setTop (mkF m 7 #[.val (.ref a)] [])) _
    refine XS.aloadN X1.here hx rfl (hb hby d1_7) rfl rfl ?_
    show Steps p.tables e below (T1.setTop (mkF m 8 #[.val (.ref a)] [(.ref a)])) _
    refine st2 _ ?_
    show Steps p.tables e below (T2.setTop (mkF m 11 #[.val (.ref a)] [(.ref w8), (.ref a)])) _
    refine Jvm.RoadKit.acmp (g := (mkF m 11 #[.val (.ref a)] [(.ref w8), (.ref a)])) X2 hx rfl rfl rfl (pc0 := 11) (pc' := 14) (same := false) rfl (hb hby d1_11) rfl (decide_eq_false fun q => ha11 (Value.ref.inj q)) (by decide) (by decide) ?_
    show Steps p.tables e below (T2.setTop (mkF m 14 #[.val (.ref a)] [])) _
    refine XS.aloadN X2.here hx rfl (hb hby d1_14) rfl rfl ?_
    show Steps p.tables e below (T2.setTop (mkF m 15 #[.val (.ref a)] [(.ref a)])) _
    refine st3 _ ?_
    show Steps p.tables e below (T3.setTop (mkF m 18 #[.val (.ref a)] [(.ref w9), (.ref a)])) _
    refine Jvm.RoadKit.acmp (g := (mkF m 18 #[.val (.ref a)] [(.ref w9), (.ref a)])) X3 hx rfl rfl rfl (pc0 := 18) (pc' := 25) (same := false) rfl (hb hby d1_18) rfl (decide_eq_false fun q => ha18 (Value.ref.inj q)) (by decide) (by decide) ?_
    show Steps p.tables e below (T3.setTop (mkF m 25 #[.val (.ref a)] [])) _
    refine XS.iconst X3.here hx rfl (hb hby d1_25) ?_
    show Steps p.tables e below (T3.setTop (mkF m 26 #[.val (.ref a)] [(.int (0 : Int32))])) _
    exact retN X3 hx (t := .boolean) Bd.returns (by simp) (hb hby d1_26) hr
  · show Q_coF Z a w7 w8 w9 h0 n0 _ T3.heap _
    rw [e3]
    exact ⟨rfl, N0, rfl⟩
def Q_co (Z : State) (a : Addr) (w7 : Addr) (w8 : Addr) (w9 : Addr) (r : Int32) (h0 : Heap) (n0 : Nat) (v : Option Value) (h : Heap) (L : List Loc) : Prop := v = some (.int r) ∧ Fr n0 L ∧ h = h0
theorem rm_co (l : Launch) (Z : State) (a0 : Array Value) (hw : ∀ d ∈ tables_1, d.before a0 Z = true) (ws : List Jvm.Cond) (a : Addr) (w7 : Addr) (w8 : Addr) (w9 : Addr) (r : Int32) (h0 : Heap) (n0 : Nat) (Z0 : n0 ≤ h0.size) (S_BIGINT : Sta Z h0 "com/example/castwise/castwise/core/DeclaredType$Name" "BIGINT" "Lcom/example/castwise/castwise/core/DeclaredType$Name;" (.ref w7)) (S_DOUBLE_PRECISION : Sta Z h0 "com/example/castwise/castwise/core/DeclaredType$Name" "DOUBLE_PRECISION" "Lcom/example/castwise/castwise/core/DeclaredType$Name;" (.ref w8)) (S_BOOLEAN : Sta Z h0 "com/example/castwise/castwise/core/DeclaredType$Name" "BOOLEAN" "Lcom/example/castwise/castwise/core/DeclaredType$Name;" (.ref w9)) (hr : r = if a = w7 ∨ a = w8 ∨ a = w9 then 1 else 0) :
    MetFree l (⟨"com/example/castwise/castwise/core/DeclaredType$Name", "isCastOnly", "()Z"⟩ : MethodName) (head1 (Jvm.Cond.code (⟨"com/example/castwise/castwise/core/DeclaredType$Name", "isCastOnly", "()Z"⟩ : MethodName) prog_50_method_5_code 1 (some .boolean) :: ws) ({ frames := 0, cells := 0, slots := 0, locals := 0 } : Room)) (fun a_ U => a_ = #[(.ref a)] ∧ Z.Warmed39 U.vm ∧ U.heap = h0) (fun _ _ _ _ _ => True) (fun _ U o U' => ∃ v L, o = .returned v ∧ Q_co Z a w7 w8 w9 r h0 n0 v U'.heap L ∧ FrameEnd U o U' L ({ frames := 0, cells := 0, slots := 0, locals := 0 } : Room).cells ({ frames := 0, cells := 0, slots := 0, locals := 0 } : Room).slots) := by
  by_cases c0 : a = w7
  · obtain rfl : r = 1 := by rw [hr, if_pos (Or.inl c0)]
    exact rm_coT_0 l Z a0 hw ws a w7 w8 w9 h0 n0 Z0 S_BIGINT S_DOUBLE_PRECISION S_BOOLEAN c0
  by_cases c1 : a = w8
  · obtain rfl : r = 1 := by rw [hr, if_pos (Or.inr (Or.inl c1))]
    exact rm_coT_1 l Z a0 hw ws a w7 w8 w9 h0 n0 Z0 S_BIGINT S_DOUBLE_PRECISION S_BOOLEAN c0 c1
  by_cases c2 : a = w9
  · obtain rfl : r = 1 := by rw [hr, if_pos (Or.inr (Or.inr c2))]
    exact rm_coT_2 l Z a0 hw ws a w7 w8 w9 h0 n0 Z0 S_BIGINT S_DOUBLE_PRECISION S_BOOLEAN c0 c1 c2
  obtain rfl : r = 0 := by rw [hr, if_neg (fun q => q.elim c0 (fun q => q.elim c1 c2))]
  exact rm_coF l Z a0 hw ws a w7 w8 w9 h0 n0 Z0 S_BIGINT S_DOUBLE_PRECISION S_BOOLEAN c0 c1 c2
theorem pd__28_29Z : parseMethodDescriptor "()Z" = some ⟨[], some .boolean⟩ := by decide +kernel
def Q_law (Z : State) (p1 : Int32) (w0 : Addr) (w1 : Addr) (w2 : Addr) (w3 : Addr) (w4 : Addr) (w5 : Addr) (w6 : Addr) (w7 : Addr) (w8 : Addr) (w9 : Addr) (w : Addr) (h0 : Heap) (n0 : Nat) (v : Option Value) (h : Heap) (L : List Loc) : Prop := v = some (.int (1 : Int32)) ∧ Fr n0 L
theorem pn_0 : plainName "com/example/castwise/castwise/core/NameIsCastOnlyPinLaw" = true := by first | (simp [plainName, overriddenIn]; done) | decide +kernel
theorem ef_law (m : MethodId) (p1 : Int32) : entryFrame m #[(.int p1)] maxLocals = mkF m 0 #[.val (.int p1), .unset, .unset, .unset, .unset] [] := by first | (simp [entryFrame, mkF, argsToLocals, Value.category, maxLocals]; done) | rfl
set_option maxRecDepth 65536 in
set_option maxHeartbeats 40000000 in
theorem rm_law_7 (l : Launch) (Z : State) (a0 : Array Value) (hw : ∀ d ∈ tables_1, d.before a0 Z = true) (ws : List Jvm.Cond) (p1 : Int32) (w0 : Addr) (w1 : Addr) (w2 : Addr) (w3 : Addr) (w4 : Addr) (w5 : Addr) (w6 : Addr) (w7 : Addr) (w8 : Addr) (w9 : Addr) (w : Addr) (h0 : Heap) (n0 : Nat) (Z0 : n0 ≤ h0.size) (S_INT : Sta Z h0 "com/example/castwise/castwise/core/DeclaredType$Name" "INT" "Lcom/example/castwise/castwise/core/DeclaredType$Name;" (.ref w0)) (S_INTEGER : Sta Z h0 "com/example/castwise/castwise/core/DeclaredType$Name" "INTEGER" "Lcom/example/castwise/castwise/core/DeclaredType$Name;" (.ref w1)) (S_DECIMAL : Sta Z h0 "com/example/castwise/castwise/core/DeclaredType$Name" "DECIMAL" "Lcom/example/castwise/castwise/core/DeclaredType$Name;" (.ref w2)) (S_NUMERIC : Sta Z h0 "com/example/castwise/castwise/core/DeclaredType$Name" "NUMERIC" "Lcom/example/castwise/castwise/core/DeclaredType$Name;" (.ref w3)) (S_REAL : Sta Z h0 "com/example/castwise/castwise/core/DeclaredType$Name" "REAL" "Lcom/example/castwise/castwise/core/DeclaredType$Name;" (.ref w4)) (S_VARCHAR : Sta Z h0 "com/example/castwise/castwise/core/DeclaredType$Name" "VARCHAR" "Lcom/example/castwise/castwise/core/DeclaredType$Name;" (.ref w5)) (S_TEXT : Sta Z h0 "com/example/castwise/castwise/core/DeclaredType$Name" "TEXT" "Lcom/example/castwise/castwise/core/DeclaredType$Name;" (.ref w6)) (S_BIGINT : Sta Z h0 "com/example/castwise/castwise/core/DeclaredType$Name" "BIGINT" "Lcom/example/castwise/castwise/core/DeclaredType$Name;" (.ref w7)) (S_DOUBLE_PRECISION : Sta Z h0 "com/example/castwise/castwise/core/DeclaredType$Name" "DOUBLE_PRECISION" "Lcom/example/castwise/castwise/core/DeclaredType$Name;" (.ref w8)) (S_BOOLEAN : Sta Z h0 "com/example/castwise/castwise/core/DeclaredType$Name" "BOOLEAN" "Lcom/example/castwise/castwise/core/DeclaredType$Name;" (.ref w9)) (E_w0 : Exa Z h0 w0 "com/example/castwise/castwise/core/DeclaredType$Name") (E_w1 : Exa Z h0 w1 "com/example/castwise/castwise/core/DeclaredType$Name") (E_w2 : Exa Z h0 w2 "com/example/castwise/castwise/core/DeclaredType$Name") (E_w3 : Exa Z h0 w3 "com/example/castwise/castwise/core/DeclaredType$Name") (E_w4 : Exa Z h0 w4 "com/example/castwise/castwise/core/DeclaredType$Name") (E_w5 : Exa Z h0 w5 "com/example/castwise/castwise/core/DeclaredType$Name") (E_w6 : Exa Z h0 w6 "com/example/castwise/castwise/core/DeclaredType$Name") (E_w7 : Exa Z h0 w7 "com/example/castwise/castwise/core/DeclaredType$Name") (E_w8 : Exa Z h0 w8 "com/example/castwise/castwise/core/DeclaredType$Name") (E_w9 : Exa Z h0 w9 "com/example/castwise/castwise/core/DeclaredType$Name") (E_w : Exa Z h0 w "com/example/castwise/castwise/core/DeclaredType$Name") (hlo : ¬ ((p1 &&& (2147483647 : Int32)) % (10 : Int32)) < 0) (hhi : ((p1 &&& (2147483647 : Int32)) % (10 : Int32)) < 10) (hsel : List.getD [(Value.ref w0), (Value.ref w1), (Value.ref w2), (Value.ref w3), (Value.ref w4), (Value.ref w5), (Value.ref w6), (Value.ref w7), (Value.ref w8), (Value.ref w9)] (((p1 &&& (2147483647 : Int32)) % (10 : Int32))).toNatClampNeg .null = .ref w) (hret : (1 : Int32) = if w = w7 ∨ w = w8 ∨ w = w9 then 1 else 0) (hc85 : ((p1 &&& (2147483647 : Int32)) % (10 : Int32)) = (7 : Int32)) :
    MetFree l x (head1 (Jvm.Cond.code x code maxLocals ret :: ws) room_1) (fun a_ U => a_ = #[(.int p1)] ∧ Z.Warmed39 U.vm ∧ U.heap = h0) (fun _ _ _ _ _ => True) (fun _ U o U' => ∃ v L, o = .returned v ∧ Q_law Z p1 w0 w1 w2 w3 w4 w5 w6 w7 w8 w9 w h0 n0 v U'.heap L ∧ FrameEnd U o U' L room_1.cells room_1.slots) := by
  refine MetFree.of_bodySF (plainFor_of_name pn_0) hisR ?_
  intro p e s m args below meth c s₁ Bd hml0 hP hK
  obtain ⟨rfl, hZ, hh⟩ := hP
  have hx := Bd.exec
  have hby := Bd.bytes
  have hml : c.maxLocals = 5 := hml0
  have hown : s.vm.findClass "com/example/castwise/castwise/core/NameIsCastOnlyPinLaw" = some m.cls := findClass_of_methodNamed Bd.named
  have hnm := (name_of_methodNamed Bd.named Bd.method).1
  have X0 : Stand p l e room_1 s m #[(.int p1)] below meth c s₁ [] 0 0 := Stand.of_body Bd
  have e0 : s₁.heap = h0 := by rw [← hh, Bd.state]; rfl
  have N0 := Fr.nil n0
  have pre0 : ∀ t, Steps p.tables e below (s₁.setTop (mkF m 0 #[.val (.int p1), .unset, .unset, .unset, .unset] [])) t → Steps p.tables e below (s₁.setTop (entryFrame m #[(.int p1)] maxLocals)) t := fun t_ k_ => castTop (ef_law m p1) k_
  obtain ⟨T1, h1, k1, X1, e1, E1, A1, O1, st1⟩ := newR X0 hx hZ hown (hw _ (List.mem_of_getElem? (i := 1) rfl)) (hw _ (List.mem_of_getElem? (i := 2) rfl)) e0 (g := (mkF m 10 #[.val (.int p1), .val (.int ((p1 &&& (2147483647 : Int32)) % (10 : Int32))), .unset, .unset, .unset] [(.int (10 : Int32))])) rfl (hb hby at_10) rfl (by decide) (cap := 10) (by decide) (by decide) (by decide) (by decide)
  obtain ⟨b1, g1⟩ : ∃ z, z = h0.size := ⟨_, rfl⟩
  rw [← g1] at A1 st1
  have sz_b1 : h0.size ≤ b1 := Nat.le_trans (Keep.refl h0 []).1 (Nat.le_of_eq g1.symm)
  have g_b1 : n0 ≤ b1 := Nat.le_trans Z0 sz_b1
  have Kc1 : Keep h0 h1 [] := (Keep.refl h0 []).ext E1
  have V_b1 : Arv Z h1 b1 k1 (.object "com/example/castwise/castwise/core/DeclaredType$Name") (10 : Int32) [.null, .null, .null, .null, .null, .null, .null, .null, .null, .null] .null := (Arv.new A1 (by decide)).pad (pad_rep [] .null 10)
  have f2 : Sta Z h1 "com/example/castwise/castwise/core/DeclaredType$Name" "INT" "Lcom/example/castwise/castwise/core/DeclaredType$Name;" (.ref w0) := (Sta.ext E1 S_INT)
  obtain ⟨T3, X3, e3, st3⟩ := getS2 X1 hx hZ hown (host := "") (Or.inl (hw _ (List.mem_of_getElem? (i := 3) rfl))) Via.refl e1 f2 (g := (mkF m 15 #[.val (.int p1), .val (.int ((p1 &&& (2147483647 : Int32)) % (10 : Int32))), .unset, .unset, .unset] [(.int (0 : Int32)), (.ref b1), (.ref b1)])) rfl (hb hby at_15)
  obtain ⟨cl4, Ar4, qq4, Sz4, Nn4, Hs4, Gg4⟩ := id V_b1
  have hin4_18 : ¬ ((0 : Int32) < 0 ∨ cl4.slots.size ≤ ((0 : Int32)).toNatClampNeg) := inb_of Sz4 ⟨by decide, by decide⟩
  have f6 : Exa Z h1 w0 "com/example/castwise/castwise/core/DeclaredType$Name" := (Exa.ext E1 E_w0)
  obtain ⟨T5, h5, X5, e5, W5, st5⟩ := stR X3 hx hZ e3 Ar4 (j := (0 : Int32)) hin4_18 rfl (Sto.ofV Ar4 qq4 O1 (Ins.self f6)) (g := (mkF m 18 #[.val (.int p1), .val (.int ((p1 &&& (2147483647 : Int32)) % (10 : Int32))), .unset, .unset, .unset] [(.ref w0), (.int (0 : Int32)), (.ref b1), (.ref b1)])) rfl rfl (hb hby at_18)
  have N5 := Fr.snoc X5 N0 g_b1
  have Kc5 : Keep h0 h5 [] := Kc1.wr W5 (Or.inr sz_b1)
  have Vw5 : Arv Z h5 b1 k1 (.object "com/example/castwise/castwise/core/DeclaredType$Name") (10 : Int32) [(.ref w0), .null, .null, .null, .null, .null, .null, .null, .null, .null] .null := Arv.set Ar4 qq4 Sz4 Nn4 Hs4 Gg4 rfl W5 0 rfl (Nat.le_of_ble_eq_true rfl)
  have f7 : Sta Z h5 "com/example/castwise/castwise/core/DeclaredType$Name" "INTEGER" "Lcom/example/castwise/castwise/core/DeclaredType$Name;" (.ref w1) := (Sta.wr W5 (Sta.ext E1 S_INTEGER))
  obtain ⟨T8, X8, e8, st8⟩ := getS2 X5 hx hZ hown (host := "") (Or.inl (hw _ (List.mem_of_getElem? (i := 7) rfl))) Via.refl e5 f7 (g := (mkF m 21 #[.val (.int p1), .val (.int ((p1 &&& (2147483647 : Int32)) % (10 : Int32))), .unset, .unset, .unset] [(.int (1 : Int32)), (.ref b1), (.ref b1)])) rfl (hb hby at_21)
  obtain ⟨cl9, Ar9, qq9, Sz9, Nn9, Hs9, Gg9⟩ := id Vw5
  have hin9_24 : ¬ ((1 : Int32) < 0 ∨ cl9.slots.size ≤ ((1 : Int32)).toNatClampNeg) := inb_of Sz9 ⟨by decide, by decide⟩
  have f11 : Exa Z h5 w1 "com/example/castwise/castwise/core/DeclaredType$Name" := (Exa.wr W5 (Exa.ext E1 E_w1))
  obtain ⟨T10, h10, X10, e10, W10, st10⟩ := stR X8 hx hZ e8 Ar9 (j := (1 : Int32)) hin9_24 rfl (Sto.ofV Ar9 qq9 O1 (Ins.self f11)) (g := (mkF m 24 #[.val (.int p1), .val (.int ((p1 &&& (2147483647 : Int32)) % (10 : Int32))), .unset, .unset, .unset] [(.ref w1), (.int (1 : Int32)), (.ref b1), (.ref b1)])) rfl rfl (hb hby at_24)
  have N10 := Fr.snoc X10 N5 g_b1
  have Kc10 : Keep h0 h10 [] := Kc5.wr W10 (Or.inr sz_b1)
  have Vw10 : Arv Z h10 b1 k1 (.object "com/example/castwise/castwise/core/DeclaredType$Name") (10 : Int32) [(.ref w0), (.ref w1), .null, .null, .null, .null, .null, .null, .null, .null] .null := Arv.set Ar9 qq9 Sz9 Nn9 Hs9 Gg9 rfl W10 1 rfl (Nat.le_of_ble_eq_true rfl)
  have f12 : Sta Z h10 "com/example/castwise/castwise/core/DeclaredType$Name" "DECIMAL" "Lcom/example/castwise/castwise/core/DeclaredType$Name;" (.ref w2) := (Sta.wr W10 (Sta.wr W5 (Sta.ext E1 S_DECIMAL)))
  obtain ⟨T13, X13, e13, st13⟩ := getS2 X10 hx hZ hown (host := "") (Or.inl (hw _ (List.mem_of_getElem? (i := 9) rfl))) Via.refl e10 f12 (g := (mkF m 27 #[.val (.int p1), .val (.int ((p1 &&& (2147483647 : Int32)) % (10 : Int32))), .unset, .unset, .unset] [(.int (2 : Int32)), (.ref b1), (.ref b1)])) rfl (hb hby at_27)
  obtain ⟨cl14, Ar14, qq14, Sz14, Nn14, Hs14, Gg14⟩ := id Vw10
  have hin14_30 : ¬ ((2 : Int32) < 0 ∨ cl14.slots.size ≤ ((2 : Int32)).toNatClampNeg) := inb_of Sz14 ⟨by decide, by decide⟩
  have f16 : Exa Z h10 w2 "com/example/castwise/castwise/core/DeclaredType$Name" := (Exa.wr W10 (Exa.wr W5 (Exa.ext E1 E_w2)))
  obtain ⟨T15, h15, X15, e15, W15, st15⟩ := stR X13 hx hZ e13 Ar14 (j := (2 : Int32)) hin14_30 rfl (Sto.ofV Ar14 qq14 O1 (Ins.self f16)) (g := (mkF m 30 #[.val (.int p1), .val (.int ((p1 &&& (2147483647 : Int32)) % (10 : Int32))), .unset, .unset, .unset] [(.ref w2), (.int (2 : Int32)), (.ref b1), (.ref b1)])) rfl rfl (hb hby at_30)
  have N15 := Fr.snoc X15 N10 g_b1
  have Kc15 : Keep h0 h15 [] := Kc10.wr W15 (Or.inr sz_b1)
  have Vw15 : Arv Z h15 b1 k1 (.object "com/example/castwise/castwise/core/DeclaredType$Name") (10 : Int32) [(.ref w0), (.ref w1), (.ref w2), .null, .null, .null, .null, .null, .null, .null] .null := Arv.set Ar14 qq14 Sz14 Nn14 Hs14 Gg14 rfl W15 2 rfl (Nat.le_of_ble_eq_true rfl)
  have f17 : Sta Z h15 "com/example/castwise/castwise/core/DeclaredType$Name" "NUMERIC" "Lcom/example/castwise/castwise/core/DeclaredType$Name;" (.ref w3) := (Sta.wr W15 (Sta.wr W10 (Sta.wr W5 (Sta.ext E1 S_NUMERIC))))
  obtain ⟨T18, X18, e18, st18⟩ := getS2 X15 hx hZ hown (host := "") (Or.inl (hw _ (List.mem_of_getElem? (i := 11) rfl))) Via.refl e15 f17 (g := (mkF m 33 #[.val (.int p1), .val (.int ((p1 &&& (2147483647 : Int32)) % (10 : Int32))), .unset, .unset, .unset] [(.int (3 : Int32)), (.ref b1), (.ref b1)])) rfl (hb hby at_33)
  obtain ⟨cl19, Ar19, qq19, Sz19, Nn19, Hs19, Gg19⟩ := id Vw15
  have hin19_36 : ¬ ((3 : Int32) < 0 ∨ cl19.slots.size ≤ ((3 : Int32)).toNatClampNeg) := inb_of Sz19 ⟨by decide, by decide⟩
  have f21 : Exa Z h15 w3 "com/example/castwise/castwise/core/DeclaredType$Name" := (Exa.wr W15 (Exa.wr W10 (Exa.wr W5 (Exa.ext E1 E_w3))))
  obtain ⟨T20, h20, X20, e20, W20, st20⟩ := stR X18 hx hZ e18 Ar19 (j := (3 : Int32)) hin19_36 rfl (Sto.ofV Ar19 qq19 O1 (Ins.self f21)) (g := (mkF m 36 #[.val (.int p1), .val (.int ((p1 &&& (2147483647 : Int32)) % (10 : Int32))), .unset, .unset, .unset] [(.ref w3), (.int (3 : Int32)), (.ref b1), (.ref b1)])) rfl rfl (hb hby at_36)
  have N20 := Fr.snoc X20 N15 g_b1
  have Kc20 : Keep h0 h20 [] := Kc15.wr W20 (Or.inr sz_b1)
  have Vw20 : Arv Z h20 b1 k1 (.object "com/example/castwise/castwise/core/DeclaredType$Name") (10 : Int32) [(.ref w0), (.ref w1), (.ref w2), (.ref w3), .null, .null, .null, .null, .null, .null] .null := Arv.set Ar19 qq19 Sz19 Nn19 Hs19 Gg19 rfl W20 3 rfl (Nat.le_of_ble_eq_true rfl)
  have f22 : Sta Z h20 "com/example/castwise/castwise/core/DeclaredType$Name" "REAL" "Lcom/example/castwise/castwise/core/DeclaredType$Name;" (.ref w4) := (Sta.wr W20 (Sta.wr W15 (Sta.wr W10 (Sta.wr W5 (Sta.ext E1 S_REAL)))))
  obtain ⟨T23, X23, e23, st23⟩ := getS2 X20 hx hZ hown (host := "") (Or.inl (hw _ (List.mem_of_getElem? (i := 13) rfl))) Via.refl e20 f22 (g := (mkF m 39 #[.val (.int p1), .val (.int ((p1 &&& (2147483647 : Int32)) % (10 : Int32))), .unset, .unset, .unset] [(.int (4 : Int32)), (.ref b1), (.ref b1)])) rfl (hb hby at_39)
  obtain ⟨cl24, Ar24, qq24, Sz24, Nn24, Hs24, Gg24⟩ := id Vw20
  have hin24_42 : ¬ ((4 : Int32) < 0 ∨ cl24.slots.size ≤ ((4 : Int32)).toNatClampNeg) := inb_of Sz24 ⟨by decide, by decide⟩
  have f26 : Exa Z h20 w4 "com/example/castwise/castwise/core/DeclaredType$Name" := (Exa.wr W20 (Exa.wr W15 (Exa.wr W10 (Exa.wr W5 (Exa.ext E1 E_w4)))))
  obtain ⟨T25, h25, X25, e25, W25, st25⟩ := stR X23 hx hZ e23 Ar24 (j := (4 : Int32)) hin24_42 rfl (Sto.ofV Ar24 qq24 O1 (Ins.self f26)) (g := (mkF m 42 #[.val (.int p1), .val (.int ((p1 &&& (2147483647 : Int32)) % (10 : Int32))), .unset, .unset, .unset] [(.ref w4), (.int (4 : Int32)), (.ref b1), (.ref b1)])) rfl rfl (hb hby at_42)
  have N25 := Fr.snoc X25 N20 g_b1
  have Kc25 : Keep h0 h25 [] := Kc20.wr W25 (Or.inr sz_b1)
  have Vw25 : Arv Z h25 b1 k1 (.object "com/example/castwise/castwise/core/DeclaredType$Name") (10 : Int32) [(.ref w0), (.ref w1), (.ref w2), (.ref w3), (.ref w4), .null, .null, .null, .null, .null] .null := Arv.set Ar24 qq24 Sz24 Nn24 Hs24 Gg24 rfl W25 4 rfl (Nat.le_of_ble_eq_true rfl)
  have f27 : Sta Z h25 "com/example/castwise/castwise/core/DeclaredType$Name" "VARCHAR" "Lcom/example/castwise/castwise/core/DeclaredType$Name;" (.ref w5) := (Sta.wr W25 (Sta.wr W20 (Sta.wr W15 (Sta.wr W10 (Sta.wr W5 (Sta.ext E1 S_VARCHAR))))))
  obtain ⟨T28, X28, e28, st28⟩ := getS2 X25 hx hZ hown (host := "") (Or.inl (hw _ (List.mem_of_getElem? (i := 15) rfl))) Via.refl e25 f27 (g := (mkF m 45 #[.val (.int p1), .val (.int ((p1 &&& (2147483647 : Int32)) % (10 : Int32))), .unset, .unset, .unset] [(.int (5 : Int32)), (.ref b1), (.ref b1)])) rfl (hb hby at_45)
  obtain ⟨cl29, Ar29, qq29, Sz29, Nn29, Hs29, Gg29⟩ := id Vw25
  have hin29_48 : ¬ ((5 : Int32) < 0 ∨ cl29.slots.size ≤ ((5 : Int32)).toNatClampNeg) := inb_of Sz29 ⟨by decide, by decide⟩
  have f31 : Exa Z h25 w5 "com/example/castwise/castwise/core/DeclaredType$Name" := (Exa.wr W25 (Exa.wr W20 (Exa.wr W15 (Exa.wr W10 (Exa.wr W5 (Exa.ext E1 E_w5))))))
  obtain ⟨T30, h30, X30, e30, W30, st30⟩ := stR X28 hx hZ e28 Ar29 (j := (5 : Int32)) hin29_48 rfl (Sto.ofV Ar29 qq29 O1 (Ins.self f31)) (g := (mkF m 48 #[.val (.int p1), .val (.int ((p1 &&& (2147483647 : Int32)) % (10 : Int32))), .unset, .unset, .unset] [(.ref w5), (.int (5 : Int32)), (.ref b1), (.ref b1)])) rfl rfl (hb hby at_48)
  have N30 := Fr.snoc X30 N25 g_b1
  have Kc30 : Keep h0 h30 [] := Kc25.wr W30 (Or.inr sz_b1)
  have Vw30 : Arv Z h30 b1 k1 (.object "com/example/castwise/castwise/core/DeclaredType$Name") (10 : Int32) [(.ref w0), (.ref w1), (.ref w2), (.ref w3), (.ref w4), (.ref w5), .null, .null, .null, .null] .null := Arv.set Ar29 qq29 Sz29 Nn29 Hs29 Gg29 rfl W30 5 rfl (Nat.le_of_ble_eq_true rfl)
  have f32 : Sta Z h30 "com/example/castwise/castwise/core/DeclaredType$Name" "TEXT" "Lcom/example/castwise/castwise/core/DeclaredType$Name;" (.ref w6) := (Sta.wr W30 (Sta.wr W25 (Sta.wr W20 (Sta.wr W15 (Sta.wr W10 (Sta.wr W5 (Sta.ext E1 S_TEXT)))))))
  obtain ⟨T33, X33, e33, st33⟩ := getS2 X30 hx hZ hown (host := "") (Or.inl (hw _ (List.mem_of_getElem? (i := 17) rfl))) Via.refl e30 f32 (g := (mkF m 52 #[.val (.int p1), .val (.int ((p1 &&& (2147483647 : Int32)) % (10 : Int32))), .unset, .unset, .unset] [(.int (6 : Int32)), (.ref b1), (.ref b1)])) rfl (hb hby at_52)
  obtain ⟨cl34, Ar34, qq34, Sz34, Nn34, Hs34, Gg34⟩ := id Vw30
  have hin34_55 : ¬ ((6 : Int32) < 0 ∨ cl34.slots.size ≤ ((6 : Int32)).toNatClampNeg) := inb_of Sz34 ⟨by decide, by decide⟩
  have f36 : Exa Z h30 w6 "com/example/castwise/castwise/core/DeclaredType$Name" := (Exa.wr W30 (Exa.wr W25 (Exa.wr W20 (Exa.wr W15 (Exa.wr W10 (Exa.wr W5 (Exa.ext E1 E_w6)))))))
  obtain ⟨T35, h35, X35, e35, W35, st35⟩ := stR X33 hx hZ e33 Ar34 (j := (6 : Int32)) hin34_55 rfl (Sto.ofV Ar34 qq34 O1 (Ins.self f36)) (g := (mkF m 55 #[.val (.int p1), .val (.int ((p1 &&& (2147483647 : Int32)) % (10 : Int32))), .unset, .unset, .unset] [(.ref w6), (.int (6 : Int32)), (.ref b1), (.ref b1)])) rfl rfl (hb hby at_55)
  have N35 := Fr.snoc X35 N30 g_b1
  have Kc35 : Keep h0 h35 [] := Kc30.wr W35 (Or.inr sz_b1)
  have Vw35 : Arv Z h35 b1 k1 (.object "com/example/castwise/castwise/core/DeclaredType$Name") (10 : Int32) [(.ref w0), (.ref w1), (.ref w2), (.ref w3), (.ref w4), (.ref w5), (.ref w6), .null, .null, .null] .null := Arv.set Ar34 qq34 Sz34 Nn34 Hs34 Gg34 rfl W35 6 rfl (Nat.le_of_ble_eq_true rfl)
  have f37 : Sta Z h35 "com/example/castwise/castwise/core/DeclaredType$Name" "BIGINT" "Lcom/example/castwise/castwise/core/DeclaredType$Name;" (.ref w7) := (Sta.wr W35 (Sta.wr W30 (Sta.wr W25 (Sta.wr W20 (Sta.wr W15 (Sta.wr W10 (Sta.wr W5 (Sta.ext E1 S_BIGINT))))))))
  obtain ⟨T38, X38, e38, st38⟩ := getS2 X35 hx hZ hown (host := "") (Or.inl (hw _ (List.mem_of_getElem? (i := 19) rfl))) Via.refl e35 f37 (g := (mkF m 59 #[.val (.int p1), .val (.int ((p1 &&& (2147483647 : Int32)) % (10 : Int32))), .unset, .unset, .unset] [(.int (7 : Int32)), (.ref b1), (.ref b1)])) rfl (hb hby at_59)
  obtain ⟨cl39, Ar39, qq39, Sz39, Nn39, Hs39, Gg39⟩ := id Vw35
  have hin39_62 : ¬ ((7 : Int32) < 0 ∨ cl39.slots.size ≤ ((7 : Int32)).toNatClampNeg) := inb_of Sz39 ⟨by decide, by decide⟩
  have f41 : Exa Z h35 w7 "com/example/castwise/castwise/core/DeclaredType$Name" := (Exa.wr W35 (Exa.wr W30 (Exa.wr W25 (Exa.wr W20 (Exa.wr W15 (Exa.wr W10 (Exa.wr W5 (Exa.ext E1 E_w7))))))))
  obtain ⟨T40, h40, X40, e40, W40, st40⟩ := stR X38 hx hZ e38 Ar39 (j := (7 : Int32)) hin39_62 rfl (Sto.ofV Ar39 qq39 O1 (Ins.self f41)) (g := (mkF m 62 #[.val (.int p1), .val (.int ((p1 &&& (2147483647 : Int32)) % (10 : Int32))), .unset, .unset, .unset] [(.ref w7), (.int (7 : Int32)), (.ref b1), (.ref b1)])) rfl rfl (hb hby at_62)
  have N40 := Fr.snoc X40 N35 g_b1
  have Kc40 : Keep h0 h40 [] := Kc35.wr W40 (Or.inr sz_b1)
  have Vw40 : Arv Z h40 b1 k1 (.object "com/example/castwise/castwise/core/DeclaredType$Name") (10 : Int32) [(.ref w0), (.ref w1), (.ref w2), (.ref w3), (.ref w4), (.ref w5), (.ref w6), (.ref w7), .null, .null] .null := Arv.set Ar39 qq39 Sz39 Nn39 Hs39 Gg39 rfl W40 7 rfl (Nat.le_of_ble_eq_true rfl)
  have f42 : Sta Z h40 "com/example/castwise/castwise/core/DeclaredType$Name" "DOUBLE_PRECISION" "Lcom/example/castwise/castwise/core/DeclaredType$Name;" (.ref w8) := (Sta.wr W40 (Sta.wr W35 (Sta.wr W30 (Sta.wr W25 (Sta.wr W20 (Sta.wr W15 (Sta.wr W10 (Sta.wr W5 (Sta.ext E1 S_DOUBLE_PRECISION)))))))))
  obtain ⟨T43, X43, e43, st43⟩ := getS2 X40 hx hZ hown (host := "") (Or.inl (hw _ (List.mem_of_getElem? (i := 21) rfl))) Via.refl e40 f42 (g := (mkF m 66 #[.val (.int p1), .val (.int ((p1 &&& (2147483647 : Int32)) % (10 : Int32))), .unset, .unset, .unset] [(.int (8 : Int32)), (.ref b1), (.ref b1)])) rfl (hb hby at_66)
  obtain ⟨cl44, Ar44, qq44, Sz44, Nn44, Hs44, Gg44⟩ := id Vw40
  have hin44_69 : ¬ ((8 : Int32) < 0 ∨ cl44.slots.size ≤ ((8 : Int32)).toNatClampNeg) := inb_of Sz44 ⟨by decide, by decide⟩
  have f46 : Exa Z h40 w8 "com/example/castwise/castwise/core/DeclaredType$Name" := (Exa.wr W40 (Exa.wr W35 (Exa.wr W30 (Exa.wr W25 (Exa.wr W20 (Exa.wr W15 (Exa.wr W10 (Exa.wr W5 (Exa.ext E1 E_w8)))))))))
  obtain ⟨T45, h45, X45, e45, W45, st45⟩ := stR X43 hx hZ e43 Ar44 (j := (8 : Int32)) hin44_69 rfl (Sto.ofV Ar44 qq44 O1 (Ins.self f46)) (g := (mkF m 69 #[.val (.int p1), .val (.int ((p1 &&& (2147483647 : Int32)) % (10 : Int32))), .unset, .unset, .unset] [(.ref w8), (.int (8 : Int32)), (.ref b1), (.ref b1)])) rfl rfl (hb hby at_69)
  have N45 := Fr.snoc X45 N40 g_b1
  have Kc45 : Keep h0 h45 [] := Kc40.wr W45 (Or.inr sz_b1)
  have Vw45 : Arv Z h45 b1 k1 (.object "com/example/castwise/castwise/core/DeclaredType$Name") (10 : Int32) [(.ref w0), (.ref w1), (.ref w2), (.ref w3), (.ref w4), (.ref w5), (.ref w6), (.ref w7), (.ref w8), .null] .null := Arv.set Ar44 qq44 Sz44 Nn44 Hs44 Gg44 rfl W45 8 rfl (Nat.le_of_ble_eq_true rfl)
  have f47 : Sta Z h45 "com/example/castwise/castwise/core/DeclaredType$Name" "BOOLEAN" "Lcom/example/castwise/castwise/core/DeclaredType$Name;" (.ref w9) := (Sta.wr W45 (Sta.wr W40 (Sta.wr W35 (Sta.wr W30 (Sta.wr W25 (Sta.wr W20 (Sta.wr W15 (Sta.wr W10 (Sta.wr W5 (Sta.ext E1 S_BOOLEAN))))))))))
  obtain ⟨T48, X48, e48, st48⟩ := getS2 X45 hx hZ hown (host := "") (Or.inl (hw _ (List.mem_of_getElem? (i := 23) rfl))) Via.refl e45 f47 (g := (mkF m 73 #[.val (.int p1), .val (.int ((p1 &&& (2147483647 : Int32)) % (10 : Int32))), .unset, .unset, .unset] [(.int (9 : Int32)), (.ref b1), (.ref b1)])) rfl (hb hby at_73)
  obtain ⟨cl49, Ar49, qq49, Sz49, Nn49, Hs49, Gg49⟩ := id Vw45
  have hin49_76 : ¬ ((9 : Int32) < 0 ∨ cl49.slots.size ≤ ((9 : Int32)).toNatClampNeg) := inb_of Sz49 ⟨by decide, by decide⟩
  have f51 : Exa Z h45 w9 "com/example/castwise/castwise/core/DeclaredType$Name" := (Exa.wr W45 (Exa.wr W40 (Exa.wr W35 (Exa.wr W30 (Exa.wr W25 (Exa.wr W20 (Exa.wr W15 (Exa.wr W10 (Exa.wr W5 (Exa.ext E1 E_w9))))))))))
  obtain ⟨T50, h50, X50, e50, W50, st50⟩ := stR X48 hx hZ e48 Ar49 (j := (9 : Int32)) hin49_76 rfl (Sto.ofV Ar49 qq49 O1 (Ins.self f51)) (g := (mkF m 76 #[.val (.int p1), .val (.int ((p1 &&& (2147483647 : Int32)) % (10 : Int32))), .unset, .unset, .unset] [(.ref w9), (.int (9 : Int32)), (.ref b1), (.ref b1)])) rfl rfl (hb hby at_76)
  have N50 := Fr.snoc X50 N45 g_b1
  have Kc50 : Keep h0 h50 [] := Kc45.wr W50 (Or.inr sz_b1)
  have Vw50 : Arv Z h50 b1 k1 (.object "com/example/castwise/castwise/core/DeclaredType$Name") (10 : Int32) [(.ref w0), (.ref w1), (.ref w2), (.ref w3), (.ref w4), (.ref w5), (.ref w6), (.ref w7), (.ref w8), (.ref w9)] .null := Arv.set Ar49 qq49 Sz49 Nn49 Hs49 Gg49 rfl W50 9 rfl (Nat.le_of_ble_eq_true rfl)
  obtain ⟨cl52, Ar52, qq52, Sz52, Nn52, Hs52, Gg52⟩ := id Vw50
  have hin52_80 : ¬ (((p1 &&& (2147483647 : Int32)) % (10 : Int32)) < 0 ∨ cl52.slots.size ≤ (((p1 &&& (2147483647 : Int32)) % (10 : Int32))).toNatClampNeg) := inb_of Sz52 ⟨hlo, hhi⟩
  have hat52_80 : cl52.slots[(((p1 &&& (2147483647 : Int32)) % (10 : Int32))).toNatClampNeg]? = some (.ref w) := Has.at Hs52 hin52_80 hsel
  have f54 : Sta Z h50 "com/example/castwise/castwise/core/DeclaredType$Name" "BIGINT" "Lcom/example/castwise/castwise/core/DeclaredType$Name;" (.ref w7) := (Sta.wr W50 (Sta.wr W45 (Sta.wr W40 f37)))
  have f55 : Sta Z h50 "com/example/castwise/castwise/core/DeclaredType$Name" "DOUBLE_PRECISION" "Lcom/example/castwise/castwise/core/DeclaredType$Name;" (.ref w8) := (Sta.wr W50 (Sta.wr W45 f42))
  have f56 : Sta Z h50 "com/example/castwise/castwise/core/DeclaredType$Name" "BOOLEAN" "Lcom/example/castwise/castwise/core/DeclaredType$Name;" (.ref w9) := (Sta.wr W50 f47)
  have f57 : Exa Z h50 w "com/example/castwise/castwise/core/DeclaredType$Name" := (Exa.wr W50 (Exa.wr W45 (Exa.wr W40 (Exa.wr W35 (Exa.wr W30 (Exa.wr W25 (Exa.wr W20 (Exa.wr W15 (Exa.wr W10 (Exa.wr W5 (Exa.ext E1 E_w)))))))))))
  obtain ⟨cq53, kq53, q53a, q53b, q53c⟩ := isOf hZ e50 f57
  obtain ⟨_, _, ⟨T53, L53, k53, n53⟩, -, X53, ⟨Lc53, hQ53, l53, y53, z53⟩, st53⟩ := X50.virtualBack hx (y := (⟨"com/example/castwise/castwise/core/DeclaredType$Name", "isCastOnly", "()Z"⟩ : MethodName)) (z := (⟨"com/example/castwise/castwise/core/DeclaredType$Name", "isCastOnly", "()Z"⟩ : MethodName)) hown (mvT hZ (hw _ (List.mem_of_getElem? (i := 25) rfl))) (mvT hZ (hw _ (List.mem_of_getElem? (i := 26) rfl))) (notFace_of_selects (args := #[]) (mvT hZ (hw _ (List.mem_of_getElem? (i := 28) rfl)))) (mvT hZ (hw _ (List.mem_of_getElem? (i := 28) rfl))) (mvT hZ (hw _ (List.mem_of_getElem? (i := 27) rfl))) (by decide) (backOf (W := 0) (rm_co l Z a0 hw [] w w7 w8 w9 (1 : Int32) h50 n0 (Nat.le_trans Z0 Kc50.1) f54 f55 f56 hret) hZ (hw _ (List.mem_of_getElem? (i := 29) rfl)) (hw _ (List.mem_of_getElem? (i := 4) rfl)) (by decide) (by decide)) q53a q53c (g := (mkF m 122 #[.val (.int p1), .val (.int ((p1 &&& (2147483647 : Int32)) % (10 : Int32))), .val (.ref b1), .val (.ref w), .val (.int (1 : Int32))] [(.ref w)])) rfl (by rw [hml]; rfl) (Steps.refl _) (argsL := []) (rest := []) (lenOf pd__28_29Z rfl) rfl (by show 2 * 0 + _ ≤ _; exact Nat.le_of_eq rfl) (hb hby at_122) (fun _ _ => ⟨rfl, e50, (by decide : 1 + 0 ≤ _), (by decide : 10 + 0 ≤ _)⟩)
  dsimp only [Pt.U, Pt.locs, Pt.cells, Pt.slots] at X53 l53 y53 z53 st53 hQ53
  subst l53 y53 z53
  obtain ⟨rfl, N53q, e53⟩ := hQ53
  have N53 := Fr.app N50 N53q
  obtain ⟨fs, hr, hrun, hended, hW, hsame⟩ := X53.leave (v := some (.int (1 : Int32))) (fun h => by rw [Bd.returns] at h; cases h)
  refine ⟨_, _, pre0 _ ?_, hrun, hended, _, _, rfl, ?_, ⟨_, rfl⟩, hW, hsame.mono (by decide) (by decide)⟩
  · show Steps p.tables e below (s₁.setTop (mkF m 0 #[.val (.int p1), .unset, .unset, .unset, .unset] [])) _
    refine XS.iloadN X0.here hx rfl (hb hby at_0) rfl ?_
    show Steps p.tables e below (s₁.setTop (mkF m 1 #[.val (.int p1), .unset, .unset, .unset, .unset] [(.int p1)])) _
    refine X0.ldcInt hx hown (mvT hZ (hw _ (List.mem_of_getElem? (i := 0) rfl))) (g := (mkF m 1 #[.val (.int p1), .unset, .unset, .unset, .unset] [(.int p1)])) rfl (hb hby at_1) _ ?_
    show Steps p.tables e below (s₁.setTop (mkF m 3 #[.val (.int p1), .unset, .unset, .unset, .unset] [(.int (2147483647 : Int32)), (.int p1)])) _
    refine XS.iand X0.here hx rfl (hb hby at_3) rfl ?_
    show Steps p.tables e below (s₁.setTop (mkF m 4 #[.val (.int p1), .unset, .unset, .unset, .unset] [(.int (p1 &&& (2147483647 : Int32)))])) _
    refine XS.bipush X0.here hx rfl (hb hby at_4) ?_
    show Steps p.tables e below (s₁.setTop (mkF m 6 #[.val (.int p1), .unset, .unset, .unset, .unset] [(.int (10 : Int32)), (.int (p1 &&& (2147483647 : Int32)))])) _
    refine iremM (g := (mkF m 6 #[.val (.int p1), .unset, .unset, .unset, .unset] [(.int (10 : Int32)), (.int (p1 &&& (2147483647 : Int32)))])) X0 hx rfl (hb hby at_6) rfl (by decide) ?_
    show Steps p.tables e below (s₁.setTop (mkF m 7 #[.val (.int p1), .unset, .unset, .unset, .unset] [(.int ((p1 &&& (2147483647 : Int32)) % (10 : Int32)))])) _
    refine XS.istoreN X0.here hx rfl (hb hby at_7) rfl (l' := #[.val (.int p1), .val (.int ((p1 &&& (2147483647 : Int32)) % (10 : Int32))), .unset, .unset, .unset]) rfl ?_
    show Steps p.tables e below (s₁.setTop (mkF m 8 #[.val (.int p1), .val (.int ((p1 &&& (2147483647 : Int32)) % (10 : Int32))), .unset, .unset, .unset] [])) _
    refine XS.bipush X0.here hx rfl (hb hby at_8) ?_
    show Steps p.tables e below (s₁.setTop (mkF m 10 #[.val (.int p1), .val (.int ((p1 &&& (2147483647 : Int32)) % (10 : Int32))), .unset, .unset, .unset] [(.int (10 : Int32))])) _
    refine st1 _ ?_
    show Steps p.tables e below (T1.setTop (mkF m 13 #[.val (.int p1), .val (.int ((p1 &&& (2147483647 : Int32)) % (10 : Int32))), .unset, .unset, .unset] [(.ref b1)])) _
    refine XS.dup X1.here hx rfl (hb hby at_13) rfl rfl ?_
    show Steps p.tables e below (T1.setTop (mkF m 14 #[.val (.int p1), .val (.int ((p1 &&& (2147483647 : Int32)) % (10 : Int32))), .unset, .unset, .unset] [(.ref b1), (.ref b1)])) _
    refine XS.iconst X1.here hx rfl (hb hby at_14) ?_
    show Steps p.tables e below (T1.setTop (mkF m 15 #[.val (.int p1), .val (.int ((p1 &&& (2147483647 : Int32)) % (10 : Int32))), .unset, .unset, .unset] [(.int (0 : Int32)), (.ref b1), (.ref b1)])) _
    refine st3 _ ?_
    show Steps p.tables e below (T3.setTop (mkF m 18 #[.val (.int p1), .val (.int ((p1 &&& (2147483647 : Int32)) % (10 : Int32))), .unset, .unset, .unset] [(.ref w0), (.int (0 : Int32)), (.ref b1), (.ref b1)])) _
    refine st5 _ ?_
    show Steps p.tables e below (T5.setTop (mkF m 19 #[.val (.int p1), .val (.int ((p1 &&& (2147483647 : Int32)) % (10 : Int32))), .unset, .unset, .unset] [(.ref b1)])) _
    refine XS.dup X5.here hx rfl (hb hby at_19) rfl rfl ?_
    show Steps p.tables e below (T5.setTop (mkF m 20 #[.val (.int p1), .val (.int ((p1 &&& (2147483647 : Int32)) % (10 : Int32))), .unset, .unset, .unset] [(.ref b1), (.ref b1)])) _
    refine XS.iconst X5.here hx rfl (hb hby at_20) ?_
    show Steps p.tables e below (T5.setTop (mkF m 21 #[.val (.int p1), .val (.int ((p1 &&& (2147483647 : Int32)) % (10 : Int32))), .unset, .unset, .unset] [(.int (1 : Int32)), (.ref b1), (.ref b1)])) _
    refine st8 _ ?_
    show Steps p.tables e below (T8.setTop (mkF m 24 #[.val (.int p1), .val (.int ((p1 &&& (2147483647 : Int32)) % (10 : Int32))), .unset, .unset, .unset] [(.ref w1), (.int (1 : Int32)), (.ref b1), (.ref b1)])) _
    refine st10 _ ?_
    show Steps p.tables e below (T10.setTop (mkF m 25 #[.val (.int p1), .val (.int ((p1 &&& (2147483647 : Int32)) % (10 : Int32))), .unset, .unset, .unset] [(.ref b1)])) _
    refine XS.dup X10.here hx rfl (hb hby at_25) rfl rfl ?_
    show Steps p.tables e below (T10.setTop (mkF m 26 #[.val (.int p1), .val (.int ((p1 &&& (2147483647 : Int32)) % (10 : Int32))), .unset, .unset, .unset] [(.ref b1), (.ref b1)])) _
    refine XS.iconst X10.here hx rfl (hb hby at_26) ?_
    show Steps p.tables e below (T10.setTop (mkF m 27 #[.val (.int p1), .val (.int ((p1 &&& (2147483647 : Int32)) % (10 : Int32))), .unset, .unset, .unset] [(.int (2 : Int32)), (.ref b1), (.ref b1)])) _
    refine st13 _ ?_
    show Steps p.tables e below (T13.setTop (mkF m 30 #[.val (.int p1), .val (.int ((p1 &&& (2147483647 : Int32)) % (10 : Int32))), .unset, .unset, .unset] [(.ref w2), (.int (2 : Int32)), (.ref b1), (.ref b1)])) _
    refine st15 _ ?_
    show Steps p.tables e below (T15.setTop (mkF m 31 #[.val (.int p1), .val (.int ((p1 &&& (2147483647 : Int32)) % (10 : Int32))), .unset, .unset, .unset] [(.ref b1)])) _
    refine XS.dup X15.here hx rfl (hb hby at_31) rfl rfl ?_
    show Steps p.tables e below (T15.setTop (mkF m 32 #[.val (.int p1), .val (.int ((p1 &&& (2147483647 : Int32)) % (10 : Int32))), .unset, .unset, .unset] [(.ref b1), (.ref b1)])) _
    refine XS.iconst X15.here hx rfl (hb hby at_32) ?_
    show Steps p.tables e below (T15.setTop (mkF m 33 #[.val (.int p1), .val (.int ((p1 &&& (2147483647 : Int32)) % (10 : Int32))), .unset, .unset, .unset] [(.int (3 : Int32)), (.ref b1), (.ref b1)])) _
    refine st18 _ ?_
    show Steps p.tables e below (T18.setTop (mkF m 36 #[.val (.int p1), .val (.int ((p1 &&& (2147483647 : Int32)) % (10 : Int32))), .unset, .unset, .unset] [(.ref w3), (.int (3 : Int32)), (.ref b1), (.ref b1)])) _
    refine st20 _ ?_
    show Steps p.tables e below (T20.setTop (mkF m 37 #[.val (.int p1), .val (.int ((p1 &&& (2147483647 : Int32)) % (10 : Int32))), .unset, .unset, .unset] [(.ref b1)])) _
    refine XS.dup X20.here hx rfl (hb hby at_37) rfl rfl ?_
    show Steps p.tables e below (T20.setTop (mkF m 38 #[.val (.int p1), .val (.int ((p1 &&& (2147483647 : Int32)) % (10 : Int32))), .unset, .unset, .unset] [(.ref b1), (.ref b1)])) _
    refine XS.iconst X20.here hx rfl (hb hby at_38) ?_
    show Steps p.tables e below (T20.setTop (mkF m 39 #[.val (.int p1), .val (.int ((p1 &&& (2147483647 : Int32)) % (10 : Int32))), .unset, .unset, .unset] [(.int (4 : Int32)), (.ref b1), (.ref b1)])) _
    refine st23 _ ?_
    show Steps p.tables e below (T23.setTop (mkF m 42 #[.val (.int p1), .val (.int ((p1 &&& (2147483647 : Int32)) % (10 : Int32))), .unset, .unset, .unset] [(.ref w4), (.int (4 : Int32)), (.ref b1), (.ref b1)])) _
    refine st25 _ ?_
    show Steps p.tables e below (T25.setTop (mkF m 43 #[.val (.int p1), .val (.int ((p1 &&& (2147483647 : Int32)) % (10 : Int32))), .unset, .unset, .unset] [(.ref b1)])) _
    refine XS.dup X25.here hx rfl (hb hby at_43) rfl rfl ?_
    show Steps p.tables e below (T25.setTop (mkF m 44 #[.val (.int p1), .val (.int ((p1 &&& (2147483647 : Int32)) % (10 : Int32))), .unset, .unset, .unset] [(.ref b1), (.ref b1)])) _
    refine XS.iconst X25.here hx rfl (hb hby at_44) ?_
    show Steps p.tables e below (T25.setTop (mkF m 45 #[.val (.int p1), .val (.int ((p1 &&& (2147483647 : Int32)) % (10 : Int32))), .unset, .unset, .unset] [(.int (5 : Int32)), (.ref b1), (.ref b1)])) _
    refine st28 _ ?_
    show Steps p.tables e below (T28.setTop (mkF m 48 #[.val (.int p1), .val (.int ((p1 &&& (2147483647 : Int32)) % (10 : Int32))), .unset, .unset, .unset] [(.ref w5), (.int (5 : Int32)), (.ref b1), (.ref b1)])) _
    refine st30 _ ?_
    show Steps p.tables e below (T30.setTop (mkF m 49 #[.val (.int p1), .val (.int ((p1 &&& (2147483647 : Int32)) % (10 : Int32))), .unset, .unset, .unset] [(.ref b1)])) _
    refine XS.dup X30.here hx rfl (hb hby at_49) rfl rfl ?_
    show Steps p.tables e below (T30.setTop (mkF m 50 #[.val (.int p1), .val (.int ((p1 &&& (2147483647 : Int32)) % (10 : Int32))), .unset, .unset, .unset] [(.ref b1), (.ref b1)])) _
    refine XS.bipush X30.here hx rfl (hb hby at_50) ?_
    show Steps p.tables e below (T30.setTop (mkF m 52 #[.val (.int p1), .val (.int ((p1 &&& (2147483647 : Int32)) % (10 : Int32))), .unset, .unset, .unset] [(.int (6 : Int32)), (.ref b1), (.ref b1)])) _
    refine st33 _ ?_
    show Steps p.tables e below (T33.setTop (mkF m 55 #[.val (.int p1), .val (.int ((p1 &&& (2147483647 : Int32)) % (10 : Int32))), .unset, .unset, .unset] [(.ref w6), (.int (6 : Int32)), (.ref b1), (.ref b1)])) _
    refine st35 _ ?_
    show Steps p.tables e below (T35.setTop (mkF m 56 #[.val (.int p1), .val (.int ((p1 &&& (2147483647 : Int32)) % (10 : Int32))), .unset, .unset, .unset] [(.ref b1)])) _
    refine XS.dup X35.here hx rfl (hb hby at_56) rfl rfl ?_
    show Steps p.tables e below (T35.setTop (mkF m 57 #[.val (.int p1), .val (.int ((p1 &&& (2147483647 : Int32)) % (10 : Int32))), .unset, .unset, .unset] [(.ref b1), (.ref b1)])) _
    refine XS.bipush X35.here hx rfl (hb hby at_57) ?_
    show Steps p.tables e below (T35.setTop (mkF m 59 #[.val (.int p1), .val (.int ((p1 &&& (2147483647 : Int32)) % (10 : Int32))), .unset, .unset, .unset] [(.int (7 : Int32)), (.ref b1), (.ref b1)])) _
    refine st38 _ ?_
    show Steps p.tables e below (T38.setTop (mkF m 62 #[.val (.int p1), .val (.int ((p1 &&& (2147483647 : Int32)) % (10 : Int32))), .unset, .unset, .unset] [(.ref w7), (.int (7 : Int32)), (.ref b1), (.ref b1)])) _
    refine st40 _ ?_
    show Steps p.tables e below (T40.setTop (mkF m 63 #[.val (.int p1), .val (.int ((p1 &&& (2147483647 : Int32)) % (10 : Int32))), .unset, .unset, .unset] [(.ref b1)])) _
    refine XS.dup X40.here hx rfl (hb hby at_63) rfl rfl ?_
    show Steps p.tables e below (T40.setTop (mkF m 64 #[.val (.int p1), .val (.int ((p1 &&& (2147483647 : Int32)) % (10 : Int32))), .unset, .unset, .unset] [(.ref b1), (.ref b1)])) _
    refine XS.bipush X40.here hx rfl (hb hby at_64) ?_
    show Steps p.tables e below (T40.setTop (mkF m 66 #[.val (.int p1), .val (.int ((p1 &&& (2147483647 : Int32)) % (10 : Int32))), .unset, .unset, .unset] [(.int (8 : Int32)), (.ref b1), (.ref b1)])) _
    refine st43 _ ?_
    show Steps p.tables e below (T43.setTop (mkF m 69 #[.val (.int p1), .val (.int ((p1 &&& (2147483647 : Int32)) % (10 : Int32))), .unset, .unset, .unset] [(.ref w8), (.int (8 : Int32)), (.ref b1), (.ref b1)])) _
    refine st45 _ ?_
    show Steps p.tables e below (T45.setTop (mkF m 70 #[.val (.int p1), .val (.int ((p1 &&& (2147483647 : Int32)) % (10 : Int32))), .unset, .unset, .unset] [(.ref b1)])) _
    refine XS.dup X45.here hx rfl (hb hby at_70) rfl rfl ?_
    show Steps p.tables e below (T45.setTop (mkF m 71 #[.val (.int p1), .val (.int ((p1 &&& (2147483647 : Int32)) % (10 : Int32))), .unset, .unset, .unset] [(.ref b1), (.ref b1)])) _
    refine XS.bipush X45.here hx rfl (hb hby at_71) ?_
    show Steps p.tables e below (T45.setTop (mkF m 73 #[.val (.int p1), .val (.int ((p1 &&& (2147483647 : Int32)) % (10 : Int32))), .unset, .unset, .unset] [(.int (9 : Int32)), (.ref b1), (.ref b1)])) _
    refine st48 _ ?_
    show Steps p.tables e below (T48.setTop (mkF m 76 #[.val (.int p1), .val (.int ((p1 &&& (2147483647 : Int32)) % (10 : Int32))), .unset, .unset, .unset] [(.ref w9), (.int (9 : Int32)), (.ref b1), (.ref b1)])) _
    refine st50 _ ?_
    show Steps p.tables e below (T50.setTop (mkF m 77 #[.val (.int p1), .val (.int ((p1 &&& (2147483647 : Int32)) % (10 : Int32))), .unset, .unset, .unset] [(.ref b1)])) _
    refine XS.astoreN X50.here hx rfl (hb hby at_77) rfl rfl (l' := #[.val (.int p1), .val (.int ((p1 &&& (2147483647 : Int32)) % (10 : Int32))), .val (.ref b1), .unset, .unset]) rfl ?_
    show Steps p.tables e below (T50.setTop (mkF m 78 #[.val (.int p1), .val (.int ((p1 &&& (2147483647 : Int32)) % (10 : Int32))), .val (.ref b1), .unset, .unset] [])) _
    refine XS.aloadN X50.here hx rfl (hb hby at_78) rfl rfl ?_
    show Steps p.tables e below (T50.setTop (mkF m 79 #[.val (.int p1), .val (.int ((p1 &&& (2147483647 : Int32)) % (10 : Int32))), .val (.ref b1), .unset, .unset] [(.ref b1)])) _
    refine XS.iloadN X50.here hx rfl (hb hby at_79) rfl ?_
    show Steps p.tables e below (T50.setTop (mkF m 80 #[.val (.int p1), .val (.int ((p1 &&& (2147483647 : Int32)) % (10 : Int32))), .val (.ref b1), .unset, .unset] [(.int ((p1 &&& (2147483647 : Int32)) % (10 : Int32))), (.ref b1)])) _
    refine X50.aaload hx (j := ((p1 &&& (2147483647 : Int32)) % (10 : Int32))) (v := (.ref w)) (by rw [e50]; exact Ar52.1) (State.isArrayOf_alike hZ.alike Ar52.2.1) rfl Ar52.2.2 hin52_80 hat52_80 (g := (mkF m 80 #[.val (.int p1), .val (.int ((p1 &&& (2147483647 : Int32)) % (10 : Int32))), .val (.ref b1), .unset, .unset] [(.int ((p1 &&& (2147483647 : Int32)) % (10 : Int32))), (.ref b1)])) rfl rfl (hb hby at_80) _ ?_
    show Steps p.tables e below (T50.setTop (mkF m 81 #[.val (.int p1), .val (.int ((p1 &&& (2147483647 : Int32)) % (10 : Int32))), .val (.ref b1), .unset, .unset] [(.ref w)])) _
    refine XS.astoreN X50.here hx rfl (hb hby at_81) rfl rfl (l' := #[.val (.int p1), .val (.int ((p1 &&& (2147483647 : Int32)) % (10 : Int32))), .val (.ref b1), .val (.ref w), .unset]) rfl ?_
    show Steps p.tables e below (T50.setTop (mkF m 82 #[.val (.int p1), .val (.int ((p1 &&& (2147483647 : Int32)) % (10 : Int32))), .val (.ref b1), .val (.ref w), .unset] [])) _
    refine XS.iloadN X50.here hx rfl (hb hby at_82) rfl ?_
    show Steps p.tables e below (T50.setTop (mkF m 83 #[.val (.int p1), .val (.int ((p1 &&& (2147483647 : Int32)) % (10 : Int32))), .val (.ref b1), .val (.ref w), .unset] [(.int ((p1 &&& (2147483647 : Int32)) % (10 : Int32)))])) _
    refine XS.bipush X50.here hx rfl (hb hby at_83) ?_
    show Steps p.tables e below (T50.setTop (mkF m 85 #[.val (.int p1), .val (.int ((p1 &&& (2147483647 : Int32)) % (10 : Int32))), .val (.ref b1), .val (.ref w), .unset] [(.int (7 : Int32)), (.int ((p1 &&& (2147483647 : Int32)) % (10 : Int32)))])) _
    refine XS.icmpNo X50.here hx rfl (hb hby at_85) rfl (teq (hc85 : ((p1 &&& (2147483647 : Int32)) % (10 : Int32)) = (7 : Int32))).2 ?_
    show Steps p.tables e below (T50.setTop (mkF m 88 #[.val (.int p1), .val (.int ((p1 &&& (2147483647 : Int32)) % (10 : Int32))), .val (.ref b1), .val (.ref w), .unset] [])) _
    refine XS.iconst X50.here hx rfl (hb hby at_88) ?_
    show Steps p.tables e below (T50.setTop (mkF m 89 #[.val (.int p1), .val (.int ((p1 &&& (2147483647 : Int32)) % (10 : Int32))), .val (.ref b1), .val (.ref w), .unset] [(.int (1 : Int32))])) _
    refine XS.istore X50.here hx rfl (hb hby at_89) rfl (l' := #[.val (.int p1), .val (.int ((p1 &&& (2147483647 : Int32)) % (10 : Int32))), .val (.ref b1), .val (.ref w), .val (.int (1 : Int32))]) rfl ?_
    show Steps p.tables e below (T50.setTop (mkF m 91 #[.val (.int p1), .val (.int ((p1 &&& (2147483647 : Int32)) % (10 : Int32))), .val (.ref b1), .val (.ref w), .val (.int (1 : Int32))] [])) _
    refine XS.goto X50.here hx rfl (pc0 := 91) (pc' := 121) rfl (hb hby at_91) (by decide) (by decide) ?_
    show Steps p.tables e below (T50.setTop (mkF m 121 #[.val (.int p1), .val (.int ((p1 &&& (2147483647 : Int32)) % (10 : Int32))), .val (.ref b1), .val (.ref w), .val (.int (1 : Int32))] [])) _
    refine XS.aloadN X50.here hx rfl (hb hby at_121) rfl rfl ?_
    show Steps p.tables e below (T50.setTop (mkF m 122 #[.val (.int p1), .val (.int ((p1 &&& (2147483647 : Int32)) % (10 : Int32))), .val (.ref b1), .val (.ref w), .val (.int (1 : Int32))] [(.ref w)])) _
    refine st53.trans ?_
    show Steps p.tables e below (T53.setTop (mkF m 125 #[.val (.int p1), .val (.int ((p1 &&& (2147483647 : Int32)) % (10 : Int32))), .val (.ref b1), .val (.ref w), .val (.int (1 : Int32))] [(.int (1 : Int32))])) _
    refine XS.iload X53.here hx rfl (hb hby at_125) rfl ?_
    show Steps p.tables e below (T53.setTop (mkF m 127 #[.val (.int p1), .val (.int ((p1 &&& (2147483647 : Int32)) % (10 : Int32))), .val (.ref b1), .val (.ref w), .val (.int (1 : Int32))] [(.int (1 : Int32)), (.int (1 : Int32))])) _
    refine XS.icmpNo X53.here hx rfl (hb hby at_127) rfl (teq ((by decide) : (1 : Int32) = (1 : Int32))).2 ?_
    show Steps p.tables e below (T53.setTop (mkF m 130 #[.val (.int p1), .val (.int ((p1 &&& (2147483647 : Int32)) % (10 : Int32))), .val (.ref b1), .val (.ref w), .val (.int (1 : Int32))] [])) _
    refine XS.iconst X53.here hx rfl (hb hby at_130) ?_
    show Steps p.tables e below (T53.setTop (mkF m 131 #[.val (.int p1), .val (.int ((p1 &&& (2147483647 : Int32)) % (10 : Int32))), .val (.ref b1), .val (.ref w), .val (.int (1 : Int32))] [(.int (1 : Int32))])) _
    refine XS.goto X53.here hx rfl (pc0 := 131) (pc' := 135) rfl (hb hby at_131) (by decide) (by decide) ?_
    show Steps p.tables e below (T53.setTop (mkF m 135 #[.val (.int p1), .val (.int ((p1 &&& (2147483647 : Int32)) % (10 : Int32))), .val (.ref b1), .val (.ref w), .val (.int (1 : Int32))] [(.int (1 : Int32))])) _
    exact retN X53 hx (t := .boolean) Bd.returns (by simp) (hb hby at_135) hr
  · show Q_law Z p1 w0 w1 w2 w3 w4 w5 w6 w7 w8 w9 w h0 n0 _ T53.heap _
    rw [e53]
    exact ⟨rfl, N53⟩
set_option maxRecDepth 65536 in
set_option maxHeartbeats 40000000 in
theorem rm_law_8 (l : Launch) (Z : State) (a0 : Array Value) (hw : ∀ d ∈ tables_1, d.before a0 Z = true) (ws : List Jvm.Cond) (p1 : Int32) (w0 : Addr) (w1 : Addr) (w2 : Addr) (w3 : Addr) (w4 : Addr) (w5 : Addr) (w6 : Addr) (w7 : Addr) (w8 : Addr) (w9 : Addr) (w : Addr) (h0 : Heap) (n0 : Nat) (Z0 : n0 ≤ h0.size) (S_INT : Sta Z h0 "com/example/castwise/castwise/core/DeclaredType$Name" "INT" "Lcom/example/castwise/castwise/core/DeclaredType$Name;" (.ref w0)) (S_INTEGER : Sta Z h0 "com/example/castwise/castwise/core/DeclaredType$Name" "INTEGER" "Lcom/example/castwise/castwise/core/DeclaredType$Name;" (.ref w1)) (S_DECIMAL : Sta Z h0 "com/example/castwise/castwise/core/DeclaredType$Name" "DECIMAL" "Lcom/example/castwise/castwise/core/DeclaredType$Name;" (.ref w2)) (S_NUMERIC : Sta Z h0 "com/example/castwise/castwise/core/DeclaredType$Name" "NUMERIC" "Lcom/example/castwise/castwise/core/DeclaredType$Name;" (.ref w3)) (S_REAL : Sta Z h0 "com/example/castwise/castwise/core/DeclaredType$Name" "REAL" "Lcom/example/castwise/castwise/core/DeclaredType$Name;" (.ref w4)) (S_VARCHAR : Sta Z h0 "com/example/castwise/castwise/core/DeclaredType$Name" "VARCHAR" "Lcom/example/castwise/castwise/core/DeclaredType$Name;" (.ref w5)) (S_TEXT : Sta Z h0 "com/example/castwise/castwise/core/DeclaredType$Name" "TEXT" "Lcom/example/castwise/castwise/core/DeclaredType$Name;" (.ref w6)) (S_BIGINT : Sta Z h0 "com/example/castwise/castwise/core/DeclaredType$Name" "BIGINT" "Lcom/example/castwise/castwise/core/DeclaredType$Name;" (.ref w7)) (S_DOUBLE_PRECISION : Sta Z h0 "com/example/castwise/castwise/core/DeclaredType$Name" "DOUBLE_PRECISION" "Lcom/example/castwise/castwise/core/DeclaredType$Name;" (.ref w8)) (S_BOOLEAN : Sta Z h0 "com/example/castwise/castwise/core/DeclaredType$Name" "BOOLEAN" "Lcom/example/castwise/castwise/core/DeclaredType$Name;" (.ref w9)) (E_w0 : Exa Z h0 w0 "com/example/castwise/castwise/core/DeclaredType$Name") (E_w1 : Exa Z h0 w1 "com/example/castwise/castwise/core/DeclaredType$Name") (E_w2 : Exa Z h0 w2 "com/example/castwise/castwise/core/DeclaredType$Name") (E_w3 : Exa Z h0 w3 "com/example/castwise/castwise/core/DeclaredType$Name") (E_w4 : Exa Z h0 w4 "com/example/castwise/castwise/core/DeclaredType$Name") (E_w5 : Exa Z h0 w5 "com/example/castwise/castwise/core/DeclaredType$Name") (E_w6 : Exa Z h0 w6 "com/example/castwise/castwise/core/DeclaredType$Name") (E_w7 : Exa Z h0 w7 "com/example/castwise/castwise/core/DeclaredType$Name") (E_w8 : Exa Z h0 w8 "com/example/castwise/castwise/core/DeclaredType$Name") (E_w9 : Exa Z h0 w9 "com/example/castwise/castwise/core/DeclaredType$Name") (E_w : Exa Z h0 w "com/example/castwise/castwise/core/DeclaredType$Name") (hlo : ¬ ((p1 &&& (2147483647 : Int32)) % (10 : Int32)) < 0) (hhi : ((p1 &&& (2147483647 : Int32)) % (10 : Int32)) < 10) (hsel : List.getD [(Value.ref w0), (Value.ref w1), (Value.ref w2), (Value.ref w3), (Value.ref w4), (Value.ref w5), (Value.ref w6), (Value.ref w7), (Value.ref w8), (Value.ref w9)] (((p1 &&& (2147483647 : Int32)) % (10 : Int32))).toNatClampNeg .null = .ref w) (hret : (1 : Int32) = if w = w7 ∨ w = w8 ∨ w = w9 then 1 else 0) (hc85 : ¬ (((p1 &&& (2147483647 : Int32)) % (10 : Int32)) = (7 : Int32))) (hc97 : ((p1 &&& (2147483647 : Int32)) % (10 : Int32)) = (8 : Int32)) :
    MetFree l x (head1 (Jvm.Cond.code x code maxLocals ret :: ws) room_1) (fun a_ U => a_ = #[(.int p1)] ∧ Z.Warmed39 U.vm ∧ U.heap = h0) (fun _ _ _ _ _ => True) (fun _ U o U' => ∃ v L, o = .returned v ∧ Q_law Z p1 w0 w1 w2 w3 w4 w5 w6 w7 w8 w9 w h0 n0 v U'.heap L ∧ FrameEnd U o U' L room_1.cells room_1.slots) := by
  refine MetFree.of_bodySF (plainFor_of_name pn_0) hisR ?_
  intro p e s m args below meth c s₁ Bd hml0 hP hK
  obtain ⟨rfl, hZ, hh⟩ := hP
  have hx := Bd.exec
  have hby := Bd.bytes
  have hml : c.maxLocals = 5 := hml0
  have hown : s.vm.findClass "com/example/castwise/castwise/core/NameIsCastOnlyPinLaw" = some m.cls := findClass_of_methodNamed Bd.named
  have hnm := (name_of_methodNamed Bd.named Bd.method).1
  have X0 : Stand p l e room_1 s m #[(.int p1)] below meth c s₁ [] 0 0 := Stand.of_body Bd
  have e0 : s₁.heap = h0 := by rw [← hh, Bd.state]; rfl
  have N0 := Fr.nil n0
  have pre0 : ∀ t, Steps p.tables e below (s₁.setTop (mkF m 0 #[.val (.int p1), .unset, .unset, .unset, .unset] [])) t → Steps p.tables e below (s₁.setTop (entryFrame m #[(.int p1)] maxLocals)) t := fun t_ k_ => castTop (ef_law m p1) k_
  obtain ⟨T1, h1, k1, X1, e1, E1, A1, O1, st1⟩ := newR X0 hx hZ hown (hw _ (List.mem_of_getElem? (i := 1) rfl)) (hw _ (List.mem_of_getElem? (i := 2) rfl)) e0 (g := (mkF m 10 #[.val (.int p1), .val (.int ((p1 &&& (2147483647 : Int32)) % (10 : Int32))), .unset, .unset, .unset] [(.int (10 : Int32))])) rfl (hb hby at_10) rfl (by decide) (cap := 10) (by decide) (by decide) (by decide) (by decide)
  obtain ⟨b1, g1⟩ : ∃ z, z = h0.size := ⟨_, rfl⟩
  rw [← g1] at A1 st1
  have sz_b1 : h0.size ≤ b1 := Nat.le_trans (Keep.refl h0 []).1 (Nat.le_of_eq g1.symm)
  have g_b1 : n0 ≤ b1 := Nat.le_trans Z0 sz_b1
  have Kc1 : Keep h0 h1 [] := (Keep.refl h0 []).ext E1
  have V_b1 : Arv Z h1 b1 k1 (.object "com/example/castwise/castwise/core/DeclaredType$Name") (10 : Int32) [.null, .null, .null, .null, .null, .null, .null, .null, .null, .null] .null := (Arv.new A1 (by decide)).pad (pad_rep [] .null 10)
  have f2 : Sta Z h1 "com/example/castwise/castwise/core/DeclaredType$Name" "INT" "Lcom/example/castwise/castwise/core/DeclaredType$Name;" (.ref w0) := (Sta.ext E1 S_INT)
  obtain ⟨T3, X3, e3, st3⟩ := getS2 X1 hx hZ hown (host := "") (Or.inl (hw _ (List.mem_of_getElem? (i := 3) rfl))) Via.refl e1 f2 (g := (mkF m 15 #[.val (.int p1), .val (.int ((p1 &&& (2147483647 : Int32)) % (10 : Int32))), .unset, .unset, .unset] [(.int (0 : Int32)), (.ref b1), (.ref b1)])) rfl (hb hby at_15)
  obtain ⟨cl4, Ar4, qq4, Sz4, Nn4, Hs4, Gg4⟩ := id V_b1
  have hin4_18 : ¬ ((0 : Int32) < 0 ∨ cl4.slots.size ≤ ((0 : Int32)).toNatClampNeg) := inb_of Sz4 ⟨by decide, by decide⟩
  have f6 : Exa Z h1 w0 "com/example/castwise/castwise/core/DeclaredType$Name" := (Exa.ext E1 E_w0)
  obtain ⟨T5, h5, X5, e5, W5, st5⟩ := stR X3 hx hZ e3 Ar4 (j := (0 : Int32)) hin4_18 rfl (Sto.ofV Ar4 qq4 O1 (Ins.self f6)) (g := (mkF m 18 #[.val (.int p1), .val (.int ((p1 &&& (2147483647 : Int32)) % (10 : Int32))), .unset, .unset, .unset] [(.ref w0), (.int (0 : Int32)), (.ref b1), (.ref b1)])) rfl rfl (hb hby at_18)
  have N5 := Fr.snoc X5 N0 g_b1
  have Kc5 : Keep h0 h5 [] := Kc1.wr W5 (Or.inr sz_b1)
  have Vw5 : Arv Z h5 b1 k1 (.object "com/example/castwise/castwise/core/DeclaredType$Name") (10 : Int32) [(.ref w0), .null, .null, .null, .null, .null, .null, .null, .null, .null] .null := Arv.set Ar4 qq4 Sz4 Nn4 Hs4 Gg4 rfl W5 0 rfl (Nat.le_of_ble_eq_true rfl)
  have f7 : Sta Z h5 "com/example/castwise/castwise/core/DeclaredType$Name" "INTEGER" "Lcom/example/castwise/castwise/core/DeclaredType$Name;" (.ref w1) := (Sta.wr W5 (Sta.ext E1 S_INTEGER))
  obtain ⟨T8, X8, e8, st8⟩ := getS2 X5 hx hZ hown (host := "") (Or.inl (hw _ (List.mem_of_getElem? (i := 7) rfl))) Via.refl e5 f7 (g := (mkF m 21 #[.val (.int p1), .val (.int ((p1 &&& (2147483647 : Int32)) % (10 : Int32))), .unset, .unset, .unset] [(.int (1 : Int32)), (.ref b1), (.ref b1)])) rfl (hb hby at_21)
  obtain ⟨cl9, Ar9, qq9, Sz9, Nn9, Hs9, Gg9⟩ := id Vw5
  have hin9_24 : ¬ ((1 : Int32) < 0 ∨ cl9.slots.size ≤ ((1 : Int32)).toNatClampNeg) := inb_of Sz9 ⟨by decide, by decide⟩
  have f11 : Exa Z h5 w1 "com/example/castwise/castwise/core/DeclaredType$Name" := (Exa.wr W5 (Exa.ext E1 E_w1))
  obtain ⟨T10, h10, X10, e10, W10, st10⟩ := stR X8 hx hZ e8 Ar9 (j := (1 : Int32)) hin9_24 rfl (Sto.ofV Ar9 qq9 O1 (Ins.self f11)) (g := (mkF m 24 #[.val (.int p1), .val (.int ((p1 &&& (2147483647 : Int32)) % (10 : Int32))), .unset, .unset, .unset] [(.ref w1), (.int (1 : Int32)), (.ref b1), (.ref b1)])) rfl rfl (hb hby at_24)
  have N10 := Fr.snoc X10 N5 g_b1
  have Kc10 : Keep h0 h10 [] := Kc5.wr W10 (Or.inr sz_b1)
  have Vw10 : Arv Z h10 b1 k1 (.object "com/example/castwise/castwise/core/DeclaredType$Name") (10 : Int32) [(.ref w0), (.ref w1), .null, .null, .null, .null, .null, .null, .null, .null] .null := Arv.set Ar9 qq9 Sz9 Nn9 Hs9 Gg9 rfl W10 1 rfl (Nat.le_of_ble_eq_true rfl)
  have f12 : Sta Z h10 "com/example/castwise/castwise/core/DeclaredType$Name" "DECIMAL" "Lcom/example/castwise/castwise/core/DeclaredType$Name;" (.ref w2) := (Sta.wr W10 (Sta.wr W5 (Sta.ext E1 S_DECIMAL)))
  obtain ⟨T13, X13, e13, st13⟩ := getS2 X10 hx hZ hown (host := "") (Or.inl (hw _ (List.mem_of_getElem? (i := 9) rfl))) Via.refl e10 f12 (g := (mkF m 27 #[.val (.int p1), .val (.int ((p1 &&& (2147483647 : Int32)) % (10 : Int32))), .unset, .unset, .unset] [(.int (2 : Int32)), (.ref b1), (.ref b1)])) rfl (hb hby at_27)
  obtain ⟨cl14, Ar14, qq14, Sz14, Nn14, Hs14, Gg14⟩ := id Vw10
  have hin14_30 : ¬ ((2 : Int32) < 0 ∨ cl14.slots.size ≤ ((2 : Int32)).toNatClampNeg) := inb_of Sz14 ⟨by decide, by decide⟩
  have f16 : Exa Z h10 w2 "com/example/castwise/castwise/core/DeclaredType$Name" := (Exa.wr W10 (Exa.wr W5 (Exa.ext E1 E_w2)))
  obtain ⟨T15, h15, X15, e15, W15, st15⟩ := stR X13 hx hZ e13 Ar14 (j := (2 : Int32)) hin14_30 rfl (Sto.ofV Ar14 qq14 O1 (Ins.self f16)) (g := (mkF m 30 #[.val (.int p1), .val (.int ((p1 &&& (2147483647 : Int32)) % (10 : Int32))), .unset, .unset, .unset] [(.ref w2), (.int (2 : Int32)), (.ref b1), (.ref b1)])) rfl rfl (hb hby at_30)
  have N15 := Fr.snoc X15 N10 g_b1
  have Kc15 : Keep h0 h15 [] := Kc10.wr W15 (Or.inr sz_b1)
  have Vw15 : Arv Z h15 b1 k1 (.object "com/example/castwise/castwise/core/DeclaredType$Name") (10 : Int32) [(.ref w0), (.ref w1), (.ref w2), .null, .null, .null, .null, .null, .null, .null] .null := Arv.set Ar14 qq14 Sz14 Nn14 Hs14 Gg14 rfl W15 2 rfl (Nat.le_of_ble_eq_true rfl)
  have f17 : Sta Z h15 "com/example/castwise/castwise/core/DeclaredType$Name" "NUMERIC" "Lcom/example/castwise/castwise/core/DeclaredType$Name;" (.ref w3) := (Sta.wr W15 (Sta.wr W10 (Sta.wr W5 (Sta.ext E1 S_NUMERIC))))
  obtain ⟨T18, X18, e18, st18⟩ := getS2 X15 hx hZ hown (host := "") (Or.inl (hw _ (List.mem_of_getElem? (i := 11) rfl))) Via.refl e15 f17 (g := (mkF m 33 #[.val (.int p1), .val (.int ((p1 &&& (2147483647 : Int32)) % (10 : Int32))), .unset, .unset, .unset] [(.int (3 : Int32)), (.ref b1), (.ref b1)])) rfl (hb hby at_33)
  obtain ⟨cl19, Ar19, qq19, Sz19, Nn19, Hs19, Gg19⟩ := id Vw15
  have hin19_36 : ¬ ((3 : Int32) < 0 ∨ cl19.slots.size ≤ ((3 : Int32)).toNatClampNeg) := inb_of Sz19 ⟨by decide, by decide⟩
  have f21 : Exa Z h15 w3 "com/example/castwise/castwise/core/DeclaredType$Name" := (Exa.wr W15 (Exa.wr W10 (Exa.wr W5 (Exa.ext E1 E_w3))))
  obtain ⟨T20, h20, X20, e20, W20, st20⟩ := stR X18 hx hZ e18 Ar19 (j := (3 : Int32)) hin19_36 rfl (Sto.ofV Ar19 qq19 O1 (Ins.self f21)) (g := (mkF m 36 #[.val (.int p1), .val (.int ((p1 &&& (2147483647 : Int32)) % (10 : Int32))), .unset, .unset, .unset] [(.ref w3), (.int (3 : Int32)), (.ref b1), (.ref b1)])) rfl rfl (hb hby at_36)
  have N20 := Fr.snoc X20 N15 g_b1
  have Kc20 : Keep h0 h20 [] := Kc15.wr W20 (Or.inr sz_b1)
  have Vw20 : Arv Z h20 b1 k1 (.object "com/example/castwise/castwise/core/DeclaredType$Name") (10 : Int32) [(.ref w0), (.ref w1), (.ref w2), (.ref w3), .null, .null, .null, .null, .null, .null] .null := Arv.set Ar19 qq19 Sz19 Nn19 Hs19 Gg19 rfl W20 3 rfl (Nat.le_of_ble_eq_true rfl)
  have f22 : Sta Z h20 "com/example/castwise/castwise/core/DeclaredType$Name" "REAL" "Lcom/example/castwise/castwise/core/DeclaredType$Name;" (.ref w4) := (Sta.wr W20 (Sta.wr W15 (Sta.wr W10 (Sta.wr W5 (Sta.ext E1 S_REAL)))))
  obtain ⟨T23, X23, e23, st23⟩ := getS2 X20 hx hZ hown (host := "") (Or.inl (hw _ (List.mem_of_getElem? (i := 13) rfl))) Via.refl e20 f22 (g := (mkF m 39 #[.val (.int p1), .val (.int ((p1 &&& (2147483647 : Int32)) % (10 : Int32))), .unset, .unset, .unset] [(.int (4 : Int32)), (.ref b1), (.ref b1)])) rfl (hb hby at_39)
  obtain ⟨cl24, Ar24, qq24, Sz24, Nn24, Hs24, Gg24⟩ := id Vw20
  have hin24_42 : ¬ ((4 : Int32) < 0 ∨ cl24.slots.size ≤ ((4 : Int32)).toNatClampNeg) := inb_of Sz24 ⟨by decide, by decide⟩
  have f26 : Exa Z h20 w4 "com/example/castwise/castwise/core/DeclaredType$Name" := (Exa.wr W20 (Exa.wr W15 (Exa.wr W10 (Exa.wr W5 (Exa.ext E1 E_w4)))))
  obtain ⟨T25, h25, X25, e25, W25, st25⟩ := stR X23 hx hZ e23 Ar24 (j := (4 : Int32)) hin24_42 rfl (Sto.ofV Ar24 qq24 O1 (Ins.self f26)) (g := (mkF m 42 #[.val (.int p1), .val (.int ((p1 &&& (2147483647 : Int32)) % (10 : Int32))), .unset, .unset, .unset] [(.ref w4), (.int (4 : Int32)), (.ref b1), (.ref b1)])) rfl rfl (hb hby at_42)
  have N25 := Fr.snoc X25 N20 g_b1
  have Kc25 : Keep h0 h25 [] := Kc20.wr W25 (Or.inr sz_b1)
  have Vw25 : Arv Z h25 b1 k1 (.object "com/example/castwise/castwise/core/DeclaredType$Name") (10 : Int32) [(.ref w0), (.ref w1), (.ref w2), (.ref w3), (.ref w4), .null, .null, .null, .null, .null] .null := Arv.set Ar24 qq24 Sz24 Nn24 Hs24 Gg24 rfl W25 4 rfl (Nat.le_of_ble_eq_true rfl)
  have f27 : Sta Z h25 "com/example/castwise/castwise/core/DeclaredType$Name" "VARCHAR" "Lcom/example/castwise/castwise/core/DeclaredType$Name;" (.ref w5) := (Sta.wr W25 (Sta.wr W20 (Sta.wr W15 (Sta.wr W10 (Sta.wr W5 (Sta.ext E1 S_VARCHAR))))))
  obtain ⟨T28, X28, e28, st28⟩ := getS2 X25 hx hZ hown (host := "") (Or.inl (hw _ (List.mem_of_getElem? (i := 15) rfl))) Via.refl e25 f27 (g := (mkF m 45 #[.val (.int p1), .val (.int ((p1 &&& (2147483647 : Int32)) % (10 : Int32))), .unset, .unset, .unset] [(.int (5 : Int32)), (.ref b1), (.ref b1)])) rfl (hb hby at_45)
  obtain ⟨cl29, Ar29, qq29, Sz29, Nn29, Hs29, Gg29⟩ := id Vw25
  have hin29_48 : ¬ ((5 : Int32) < 0 ∨ cl29.slots.size ≤ ((5 : Int32)).toNatClampNeg) := inb_of Sz29 ⟨by decide, by decide⟩
  have f31 : Exa Z h25 w5 "com/example/castwise/castwise/core/DeclaredType$Name" := (Exa.wr W25 (Exa.wr W20 (Exa.wr W15 (Exa.wr W10 (Exa.wr W5 (Exa.ext E1 E_w5))))))
  obtain ⟨T30, h30, X30, e30, W30, st30⟩ := stR X28 hx hZ e28 Ar29 (j := (5 : Int32)) hin29_48 rfl (Sto.ofV Ar29 qq29 O1 (Ins.self f31)) (g := (mkF m 48 #[.val (.int p1), .val (.int ((p1 &&& (2147483647 : Int32)) % (10 : Int32))), .unset, .unset, .unset] [(.ref w5), (.int (5 : Int32)), (.ref b1), (.ref b1)])) rfl rfl (hb hby at_48)
  have N30 := Fr.snoc X30 N25 g_b1
  have Kc30 : Keep h0 h30 [] := Kc25.wr W30 (Or.inr sz_b1)
  have Vw30 : Arv Z h30 b1 k1 (.object "com/example/castwise/castwise/core/DeclaredType$Name") (10 : Int32) [(.ref w0), (.ref w1), (.ref w2), (.ref w3), (.ref w4), (.ref w5), .null, .null, .null, .null] .null := Arv.set Ar29 qq29 Sz29 Nn29 Hs29 Gg29 rfl W30 5 rfl (Nat.le_of_ble_eq_true rfl)
  have f32 : Sta Z h30 "com/example/castwise/castwise/core/DeclaredType$Name" "TEXT" "Lcom/example/castwise/castwise/core/DeclaredType$Name;" (.ref w6) := (Sta.wr W30 (Sta.wr W25 (Sta.wr W20 (Sta.wr W15 (Sta.wr W10 (Sta.wr W5 (Sta.ext E1 S_TEXT)))))))
  obtain ⟨T33, X33, e33, st33⟩ := getS2 X30 hx hZ hown (host := "") (Or.inl (hw _ (List.mem_of_getElem? (i := 17) rfl))) Via.refl e30 f32 (g := (mkF m 52 #[.val (.int p1), .val (.int ((p1 &&& (2147483647 : Int32)) % (10 : Int32))), .unset, .unset, .unset] [(.int (6 : Int32)), (.ref b1), (.ref b1)])) rfl (hb hby at_52)
  obtain ⟨cl34, Ar34, qq34, Sz34, Nn34, Hs34, Gg34⟩ := id Vw30
  have hin34_55 : ¬ ((6 : Int32) < 0 ∨ cl34.slots.size ≤ ((6 : Int32)).toNatClampNeg) := inb_of Sz34 ⟨by decide, by decide⟩
  have f36 : Exa Z h30 w6 "com/example/castwise/castwise/core/DeclaredType$Name" := (Exa.wr W30 (Exa.wr W25 (Exa.wr W20 (Exa.wr W15 (Exa.wr W10 (Exa.wr W5 (Exa.ext E1 E_w6)))))))
  obtain ⟨T35, h35, X35, e35, W35, st35⟩ := stR X33 hx hZ e33 Ar34 (j := (6 : Int32)) hin34_55 rfl (Sto.ofV Ar34 qq34 O1 (Ins.self f36)) (g := (mkF m 55 #[.val (.int p1), .val (.int ((p1 &&& (2147483647 : Int32)) % (10 : Int32))), .unset, .unset, .unset] [(.ref w6), (.int (6 : Int32)), (.ref b1), (.ref b1)])) rfl rfl (hb hby at_55)
  have N35 := Fr.snoc X35 N30 g_b1
  have Kc35 : Keep h0 h35 [] := Kc30.wr W35 (Or.inr sz_b1)
  have Vw35 : Arv Z h35 b1 k1 (.object "com/example/castwise/castwise/core/DeclaredType$Name") (10 : Int32) [(.ref w0), (.ref w1), (.ref w2), (.ref w3), (.ref w4), (.ref w5), (.ref w6), .null, .null, .null] .null := Arv.set Ar34 qq34 Sz34 Nn34 Hs34 Gg34 rfl W35 6 rfl (Nat.le_of_ble_eq_true rfl)
  have f37 : Sta Z h35 "com/example/castwise/castwise/core/DeclaredType$Name" "BIGINT" "Lcom/example/castwise/castwise/core/DeclaredType$Name;" (.ref w7) := (Sta.wr W35 (Sta.wr W30 (Sta.wr W25 (Sta.wr W20 (Sta.wr W15 (Sta.wr W10 (Sta.wr W5 (Sta.ext E1 S_BIGINT))))))))
  obtain ⟨T38, X38, e38, st38⟩ := getS2 X35 hx hZ hown (host := "") (Or.inl (hw _ (List.mem_of_getElem? (i := 19) rfl))) Via.refl e35 f37 (g := (mkF m 59 #[.val (.int p1), .val (.int ((p1 &&& (2147483647 : Int32)) % (10 : Int32))), .unset, .unset, .unset] [(.int (7 : Int32)), (.ref b1), (.ref b1)])) rfl (hb hby at_59)
  obtain ⟨cl39, Ar39, qq39, Sz39, Nn39, Hs39, Gg39⟩ := id Vw35
  have hin39_62 : ¬ ((7 : Int32) < 0 ∨ cl39.slots.size ≤ ((7 : Int32)).toNatClampNeg) := inb_of Sz39 ⟨by decide, by decide⟩
  have f41 : Exa Z h35 w7 "com/example/castwise/castwise/core/DeclaredType$Name" := (Exa.wr W35 (Exa.wr W30 (Exa.wr W25 (Exa.wr W20 (Exa.wr W15 (Exa.wr W10 (Exa.wr W5 (Exa.ext E1 E_w7))))))))
  obtain ⟨T40, h40, X40, e40, W40, st40⟩ := stR X38 hx hZ e38 Ar39 (j := (7 : Int32)) hin39_62 rfl (Sto.ofV Ar39 qq39 O1 (Ins.self f41)) (g := (mkF m 62 #[.val (.int p1), .val (.int ((p1 &&& (2147483647 : Int32)) % (10 : Int32))), .unset, .unset, .unset] [(.ref w7), (.int (7 : Int32)), (.ref b1), (.ref b1)])) rfl rfl (hb hby at_62)
  have N40 := Fr.snoc X40 N35 g_b1
  have Kc40 : Keep h0 h40 [] := Kc35.wr W40 (Or.inr sz_b1)
  have Vw40 : Arv Z h40 b1 k1 (.object "com/example/castwise/castwise/core/DeclaredType$Name") (10 : Int32) [(.ref w0), (.ref w1), (.ref w2), (.ref w3), (.ref w4), (.ref w5), (.ref w6), (.ref w7), .null, .null] .null := Arv.set Ar39 qq39 Sz39 Nn39 Hs39 Gg39 rfl W40 7 rfl (Nat.le_of_ble_eq_true rfl)
  have f42 : Sta Z h40 "com/example/castwise/castwise/core/DeclaredType$Name" "DOUBLE_PRECISION" "Lcom/example/castwise/castwise/core/DeclaredType$Name;" (.ref w8) := (Sta.wr W40 (Sta.wr W35 (Sta.wr W30 (Sta.wr W25 (Sta.wr W20 (Sta.wr W15 (Sta.wr W10 (Sta.wr W5 (Sta.ext E1 S_DOUBLE_PRECISION)))))))))
  obtain ⟨T43, X43, e43, st43⟩ := getS2 X40 hx hZ hown (host := "") (Or.inl (hw _ (List.mem_of_getElem? (i := 21) rfl))) Via.refl e40 f42 (g := (mkF m 66 #[.val (.int p1), .val (.int ((p1 &&& (2147483647 : Int32)) % (10 : Int32))), .unset, .unset, .unset] [(.int (8 : Int32)), (.ref b1), (.ref b1)])) rfl (hb hby at_66)
  obtain ⟨cl44, Ar44, qq44, Sz44, Nn44, Hs44, Gg44⟩ := id Vw40
  have hin44_69 : ¬ ((8 : Int32) < 0 ∨ cl44.slots.size ≤ ((8 : Int32)).toNatClampNeg) := inb_of Sz44 ⟨by decide, by decide⟩
  have f46 : Exa Z h40 w8 "com/example/castwise/castwise/core/DeclaredType$Name" := (Exa.wr W40 (Exa.wr W35 (Exa.wr W30 (Exa.wr W25 (Exa.wr W20 (Exa.wr W15 (Exa.wr W10 (Exa.wr W5 (Exa.ext E1 E_w8)))))))))
  obtain ⟨T45, h45, X45, e45, W45, st45⟩ := stR X43 hx hZ e43 Ar44 (j := (8 : Int32)) hin44_69 rfl (Sto.ofV Ar44 qq44 O1 (Ins.self f46)) (g := (mkF m 69 #[.val (.int p1), .val (.int ((p1 &&& (2147483647 : Int32)) % (10 : Int32))), .unset, .unset, .unset] [(.ref w8), (.int (8 : Int32)), (.ref b1), (.ref b1)])) rfl rfl (hb hby at_69)
  have N45 := Fr.snoc X45 N40 g_b1
  have Kc45 : Keep h0 h45 [] := Kc40.wr W45 (Or.inr sz_b1)
  have Vw45 : Arv Z h45 b1 k1 (.object "com/example/castwise/castwise/core/DeclaredType$Name") (10 : Int32) [(.ref w0), (.ref w1), (.ref w2), (.ref w3), (.ref w4), (.ref w5), (.ref w6), (.ref w7), (.ref w8), .null] .null := Arv.set Ar44 qq44 Sz44 Nn44 Hs44 Gg44 rfl W45 8 rfl (Nat.le_of_ble_eq_true rfl)
  have f47 : Sta Z h45 "com/example/castwise/castwise/core/DeclaredType$Name" "BOOLEAN" "Lcom/example/castwise/castwise/core/DeclaredType$Name;" (.ref w9) := (Sta.wr W45 (Sta.wr W40 (Sta.wr W35 (Sta.wr W30 (Sta.wr W25 (Sta.wr W20 (Sta.wr W15 (Sta.wr W10 (Sta.wr W5 (Sta.ext E1 S_BOOLEAN))))))))))
  obtain ⟨T48, X48, e48, st48⟩ := getS2 X45 hx hZ hown (host := "") (Or.inl (hw _ (List.mem_of_getElem? (i := 23) rfl))) Via.refl e45 f47 (g := (mkF m 73 #[.val (.int p1), .val (.int ((p1 &&& (2147483647 : Int32)) % (10 : Int32))), .unset, .unset, .unset] [(.int (9 : Int32)), (.ref b1), (.ref b1)])) rfl (hb hby at_73)
  obtain ⟨cl49, Ar49, qq49, Sz49, Nn49, Hs49, Gg49⟩ := id Vw45
  have hin49_76 : ¬ ((9 : Int32) < 0 ∨ cl49.slots.size ≤ ((9 : Int32)).toNatClampNeg) := inb_of Sz49 ⟨by decide, by decide⟩
  have f51 : Exa Z h45 w9 "com/example/castwise/castwise/core/DeclaredType$Name" := (Exa.wr W45 (Exa.wr W40 (Exa.wr W35 (Exa.wr W30 (Exa.wr W25 (Exa.wr W20 (Exa.wr W15 (Exa.wr W10 (Exa.wr W5 (Exa.ext E1 E_w9))))))))))
  obtain ⟨T50, h50, X50, e50, W50, st50⟩ := stR X48 hx hZ e48 Ar49 (j := (9 : Int32)) hin49_76 rfl (Sto.ofV Ar49 qq49 O1 (Ins.self f51)) (g := (mkF m 76 #[.val (.int p1), .val (.int ((p1 &&& (2147483647 : Int32)) % (10 : Int32))), .unset, .unset, .unset] [(.ref w9), (.int (9 : Int32)), (.ref b1), (.ref b1)])) rfl rfl (hb hby at_76)
  have N50 := Fr.snoc X50 N45 g_b1
  have Kc50 : Keep h0 h50 [] := Kc45.wr W50 (Or.inr sz_b1)
  have Vw50 : Arv Z h50 b1 k1 (.object "com/example/castwise/castwise/core/DeclaredType$Name") (10 : Int32) [(.ref w0), (.ref w1), (.ref w2), (.ref w3), (.ref w4), (.ref w5), (.ref w6), (.ref w7), (.ref w8), (.ref w9)] .null := Arv.set Ar49 qq49 Sz49 Nn49 Hs49 Gg49 rfl W50 9 rfl (Nat.le_of_ble_eq_true rfl)
  obtain ⟨cl52, Ar52, qq52, Sz52, Nn52, Hs52, Gg52⟩ := id Vw50
  have hin52_80 : ¬ (((p1 &&& (2147483647 : Int32)) % (10 : Int32)) < 0 ∨ cl52.slots.size ≤ (((p1 &&& (2147483647 : Int32)) % (10 : Int32))).toNatClampNeg) := inb_of Sz52 ⟨hlo, hhi⟩
  have hat52_80 : cl52.slots[(((p1 &&& (2147483647 : Int32)) % (10 : Int32))).toNatClampNeg]? = some (.ref w) := Has.at Hs52 hin52_80 hsel
  have f54 : Sta Z h50 "com/example/castwise/castwise/core/DeclaredType$Name" "BIGINT" "Lcom/example/castwise/castwise/core/DeclaredType$Name;" (.ref w7) := (Sta.wr W50 (Sta.wr W45 (Sta.wr W40 f37)))
  have f55 : Sta Z h50 "com/example/castwise/castwise/core/DeclaredType$Name" "DOUBLE_PRECISION" "Lcom/example/castwise/castwise/core/DeclaredType$Name;" (.ref w8) := (Sta.wr W50 (Sta.wr W45 f42))
  have f56 : Sta Z h50 "com/example/castwise/castwise/core/DeclaredType$Name" "BOOLEAN" "Lcom/example/castwise/castwise/core/DeclaredType$Name;" (.ref w9) := (Sta.wr W50 f47)
  have f57 : Exa Z h50 w "com/example/castwise/castwise/core/DeclaredType$Name" := (Exa.wr W50 (Exa.wr W45 (Exa.wr W40 (Exa.wr W35 (Exa.wr W30 (Exa.wr W25 (Exa.wr W20 (Exa.wr W15 (Exa.wr W10 (Exa.wr W5 (Exa.ext E1 E_w)))))))))))
  obtain ⟨cq53, kq53, q53a, q53b, q53c⟩ := isOf hZ e50 f57
  obtain ⟨_, _, ⟨T53, L53, k53, n53⟩, -, X53, ⟨Lc53, hQ53, l53, y53, z53⟩, st53⟩ := X50.virtualBack hx (y := (⟨"com/example/castwise/castwise/core/DeclaredType$Name", "isCastOnly", "()Z"⟩ : MethodName)) (z := (⟨"com/example/castwise/castwise/core/DeclaredType$Name", "isCastOnly", "()Z"⟩ : MethodName)) hown (mvT hZ (hw _ (List.mem_of_getElem? (i := 25) rfl))) (mvT hZ (hw _ (List.mem_of_getElem? (i := 26) rfl))) (notFace_of_selects (args := #[]) (mvT hZ (hw _ (List.mem_of_getElem? (i := 28) rfl)))) (mvT hZ (hw _ (List.mem_of_getElem? (i := 28) rfl))) (mvT hZ (hw _ (List.mem_of_getElem? (i := 27) rfl))) (by decide) (backOf (W := 0) (rm_co l Z a0 hw [] w w7 w8 w9 (1 : Int32) h50 n0 (Nat.le_trans Z0 Kc50.1) f54 f55 f56 hret) hZ (hw _ (List.mem_of_getElem? (i := 29) rfl)) (hw _ (List.mem_of_getElem? (i := 4) rfl)) (by decide) (by decide)) q53a q53c (g := (mkF m 122 #[.val (.int p1), .val (.int ((p1 &&& (2147483647 : Int32)) % (10 : Int32))), .val (.ref b1), .val (.ref w), .val (.int (1 : Int32))] [(.ref w)])) rfl (by rw [hml]; rfl) (Steps.refl _) (argsL := []) (rest := []) (lenOf pd__28_29Z rfl) rfl (by show 2 * 0 + _ ≤ _; exact Nat.le_of_eq rfl) (hb hby at_122) (fun _ _ => ⟨rfl, e50, (by decide : 1 + 0 ≤ _), (by decide : 10 + 0 ≤ _)⟩)
  dsimp only [Pt.U, Pt.locs, Pt.cells, Pt.slots] at X53 l53 y53 z53 st53 hQ53
  subst l53 y53 z53
  obtain ⟨rfl, N53q, e53⟩ := hQ53
  have N53 := Fr.app N50 N53q
  obtain ⟨fs, hr, hrun, hended, hW, hsame⟩ := X53.leave (v := some (.int (1 : Int32))) (fun h => by rw [Bd.returns] at h; cases h)
  refine ⟨_, _, pre0 _ ?_, hrun, hended, _, _, rfl, ?_, ⟨_, rfl⟩, hW, hsame.mono (by decide) (by decide)⟩
  · show Steps p.tables e below (s₁.setTop (mkF m 0 #[.val (.int p1), .unset, .unset, .unset, .unset] [])) _
    refine XS.iloadN X0.here hx rfl (hb hby at_0) rfl ?_
    show Steps p.tables e below (s₁.setTop (mkF m 1 #[.val (.int p1), .unset, .unset, .unset, .unset] [(.int p1)])) _
    refine X0.ldcInt hx hown (mvT hZ (hw _ (List.mem_of_getElem? (i := 0) rfl))) (g := (mkF m 1 #[.val (.int p1), .unset, .unset, .unset, .unset] [(.int p1)])) rfl (hb hby at_1) _ ?_
    show Steps p.tables e below (s₁.setTop (mkF m 3 #[.val (.int p1), .unset, .unset, .unset, .unset] [(.int (2147483647 : Int32)), (.int p1)])) _
    refine XS.iand X0.here hx rfl (hb hby at_3) rfl ?_
    show Steps p.tables e below (s₁.setTop (mkF m 4 #[.val (.int p1), .unset, .unset, .unset, .unset] [(.int (p1 &&& (2147483647 : Int32)))])) _
    refine XS.bipush X0.here hx rfl (hb hby at_4) ?_
    show Steps p.tables e below (s₁.setTop (mkF m 6 #[.val (.int p1), .unset, .unset, .unset, .unset] [(.int (10 : Int32)), (.int (p1 &&& (2147483647 : Int32)))])) _
    refine iremM (g := (mkF m 6 #[.val (.int p1), .unset, .unset, .unset, .unset] [(.int (10 : Int32)), (.int (p1 &&& (2147483647 : Int32)))])) X0 hx rfl (hb hby at_6) rfl (by decide) ?_
    show Steps p.tables e below (s₁.setTop (mkF m 7 #[.val (.int p1), .unset, .unset, .unset, .unset] [(.int ((p1 &&& (2147483647 : Int32)) % (10 : Int32)))])) _
    refine XS.istoreN X0.here hx rfl (hb hby at_7) rfl (l' := #[.val (.int p1), .val (.int ((p1 &&& (2147483647 : Int32)) % (10 : Int32))), .unset, .unset, .unset]) rfl ?_
    show Steps p.tables e below (s₁.setTop (mkF m 8 #[.val (.int p1), .val (.int ((p1 &&& (2147483647 : Int32)) % (10 : Int32))), .unset, .unset, .unset] [])) _
    refine XS.bipush X0.here hx rfl (hb hby at_8) ?_
    show Steps p.tables e below (s₁.setTop (mkF m 10 #[.val (.int p1), .val (.int ((p1 &&& (2147483647 : Int32)) % (10 : Int32))), .unset, .unset, .unset] [(.int (10 : Int32))])) _
    refine st1 _ ?_
    show Steps p.tables e below (T1.setTop (mkF m 13 #[.val (.int p1), .val (.int ((p1 &&& (2147483647 : Int32)) % (10 : Int32))), .unset, .unset, .unset] [(.ref b1)])) _
    refine XS.dup X1.here hx rfl (hb hby at_13) rfl rfl ?_
    show Steps p.tables e below (T1.setTop (mkF m 14 #[.val (.int p1), .val (.int ((p1 &&& (2147483647 : Int32)) % (10 : Int32))), .unset, .unset, .unset] [(.ref b1), (.ref b1)])) _
    refine XS.iconst X1.here hx rfl (hb hby at_14) ?_
    show Steps p.tables e below (T1.setTop (mkF m 15 #[.val (.int p1), .val (.int ((p1 &&& (2147483647 : Int32)) % (10 : Int32))), .unset, .unset, .unset] [(.int (0 : Int32)), (.ref b1), (.ref b1)])) _
    refine st3 _ ?_
    show Steps p.tables e below (T3.setTop (mkF m 18 #[.val (.int p1), .val (.int ((p1 &&& (2147483647 : Int32)) % (10 : Int32))), .unset, .unset, .unset] [(.ref w0), (.int (0 : Int32)), (.ref b1), (.ref b1)])) _
    refine st5 _ ?_
    show Steps p.tables e below (T5.setTop (mkF m 19 #[.val (.int p1), .val (.int ((p1 &&& (2147483647 : Int32)) % (10 : Int32))), .unset, .unset, .unset] [(.ref b1)])) _
    refine XS.dup X5.here hx rfl (hb hby at_19) rfl rfl ?_
    show Steps p.tables e below (T5.setTop (mkF m 20 #[.val (.int p1), .val (.int ((p1 &&& (2147483647 : Int32)) % (10 : Int32))), .unset, .unset, .unset] [(.ref b1), (.ref b1)])) _
    refine XS.iconst X5.here hx rfl (hb hby at_20) ?_
    show Steps p.tables e below (T5.setTop (mkF m 21 #[.val (.int p1), .val (.int ((p1 &&& (2147483647 : Int32)) % (10 : Int32))), .unset, .unset, .unset] [(.int (1 : Int32)), (.ref b1), (.ref b1)])) _
    refine st8 _ ?_
    show Steps p.tables e below (T8.setTop (mkF m 24 #[.val (.int p1), .val (.int ((p1 &&& (2147483647 : Int32)) % (10 : Int32))), .unset, .unset, .unset] [(.ref w1), (.int (1 : Int32)), (.ref b1), (.ref b1)])) _
    refine st10 _ ?_
    show Steps p.tables e below (T10.setTop (mkF m 25 #[.val (.int p1), .val (.int ((p1 &&& (2147483647 : Int32)) % (10 : Int32))), .unset, .unset, .unset] [(.ref b1)])) _
    refine XS.dup X10.here hx rfl (hb hby at_25) rfl rfl ?_
    show Steps p.tables e below (T10.setTop (mkF m 26 #[.val (.int p1), .val (.int ((p1 &&& (2147483647 : Int32)) % (10 : Int32))), .unset, .unset, .unset] [(.ref b1), (.ref b1)])) _
    refine XS.iconst X10.here hx rfl (hb hby at_26) ?_
    show Steps p.tables e below (T10.setTop (mkF m 27 #[.val (.int p1), .val (.int ((p1 &&& (2147483647 : Int32)) % (10 : Int32))), .unset, .unset, .unset] [(.int (2 : Int32)), (.ref b1), (.ref b1)])) _
    refine st13 _ ?_
    show Steps p.tables e below (T13.setTop (mkF m 30 #[.val (.int p1), .val (.int ((p1 &&& (2147483647 : Int32)) % (10 : Int32))), .unset, .unset, .unset] [(.ref w2), (.int (2 : Int32)), (.ref b1), (.ref b1)])) _
    refine st15 _ ?_
    show Steps p.tables e below (T15.setTop (mkF m 31 #[.val (.int p1), .val (.int ((p1 &&& (2147483647 : Int32)) % (10 : Int32))), .unset, .unset, .unset] [(.ref b1)])) _
    refine XS.dup X15.here hx rfl (hb hby at_31) rfl rfl ?_
    show Steps p.tables e below (T15.setTop (mkF m 32 #[.val (.int p1), .val (.int ((p1 &&& (2147483647 : Int32)) % (10 : Int32))), .unset, .unset, .unset] [(.ref b1), (.ref b1)])) _
    refine XS.iconst X15.here hx rfl (hb hby at_32) ?_
    show Steps p.tables e below (T15.setTop (mkF m 33 #[.val (.int p1), .val (.int ((p1 &&& (2147483647 : Int32)) % (10 : Int32))), .unset, .unset, .unset] [(.int (3 : Int32)), (.ref b1), (.ref b1)])) _
    refine st18 _ ?_
    show Steps p.tables e below (T18.setTop (mkF m 36 #[.val (.int p1), .val (.int ((p1 &&& (2147483647 : Int32)) % (10 : Int32))), .unset, .unset, .unset] [(.ref w3), (.int (3 : Int32)), (.ref b1), (.ref b1)])) _
    refine st20 _ ?_
    show Steps p.tables e below (T20.setTop (mkF m 37 #[.val (.int p1), .val (.int ((p1 &&& (2147483647 : Int32)) % (10 : Int32))), .unset, .unset, .unset] [(.ref b1)])) _
    refine XS.dup X20.here hx rfl (hb hby at_37) rfl rfl ?_
    show Steps p.tables e below (T20.setTop (mkF m 38 #[.val (.int p1), .val (.int ((p1 &&& (2147483647 : Int32)) % (10 : Int32))), .unset, .unset, .unset] [(.ref b1), (.ref b1)])) _
    refine XS.iconst X20.here hx rfl (hb hby at_38) ?_
    show Steps p.tables e below (T20.setTop (mkF m 39 #[.val (.int p1), .val (.int ((p1 &&& (2147483647 : Int32)) % (10 : Int32))), .unset, .unset, .unset] [(.int (4 : Int32)), (.ref b1), (.ref b1)])) _
    refine st23 _ ?_
    show Steps p.tables e below (T23.setTop (mkF m 42 #[.val (.int p1), .val (.int ((p1 &&& (2147483647 : Int32)) % (10 : Int32))), .unset, .unset, .unset] [(.ref w4), (.int (4 : Int32)), (.ref b1), (.ref b1)])) _
    refine st25 _ ?_
    show Steps p.tables e below (T25.setTop (mkF m 43 #[.val (.int p1), .val (.int ((p1 &&& (2147483647 : Int32)) % (10 : Int32))), .unset, .unset, .unset] [(.ref b1)])) _
    refine XS.dup X25.here hx rfl (hb hby at_43) rfl rfl ?_
    show Steps p.tables e below (T25.setTop (mkF m 44 #[.val (.int p1), .val (.int ((p1 &&& (2147483647 : Int32)) % (10 : Int32))), .unset, .unset, .unset] [(.ref b1), (.ref b1)])) _
    refine XS.iconst X25.here hx rfl (hb hby at_44) ?_
    show Steps p.tables e below (T25.setTop (mkF m 45 #[.val (.int p1), .val (.int ((p1 &&& (2147483647 : Int32)) % (10 : Int32))), .unset, .unset, .unset] [(.int (5 : Int32)), (.ref b1), (.ref b1)])) _
    refine st28 _ ?_
    show Steps p.tables e below (T28.setTop (mkF m 48 #[.val (.int p1), .val (.int ((p1 &&& (2147483647 : Int32)) % (10 : Int32))), .unset, .unset, .unset] [(.ref w5), (.int (5 : Int32)), (.ref b1), (.ref b1)])) _
    refine st30 _ ?_
    show Steps p.tables e below (T30.setTop (mkF m 49 #[.val (.int p1), .val (.int ((p1 &&& (2147483647 : Int32)) % (10 : Int32))), .unset, .unset, .unset] [(.ref b1)])) _
    refine XS.dup X30.here hx rfl (hb hby at_49) rfl rfl ?_
    show Steps p.tables e below (T30.setTop (mkF m 50 #[.val (.int p1), .val (.int ((p1 &&& (2147483647 : Int32)) % (10 : Int32))), .unset, .unset, .unset] [(.ref b1), (.ref b1)])) _
    refine XS.bipush X30.here hx rfl (hb hby at_50) ?_
    show Steps p.tables e below (T30.setTop (mkF m 52 #[.val (.int p1), .val (.int ((p1 &&& (2147483647 : Int32)) % (10 : Int32))), .unset, .unset, .unset] [(.int (6 : Int32)), (.ref b1), (.ref b1)])) _
    refine st33 _ ?_
    show Steps p.tables e below (T33.setTop (mkF m 55 #[.val (.int p1), .val (.int ((p1 &&& (2147483647 : Int32)) % (10 : Int32))), .unset, .unset, .unset] [(.ref w6), (.int (6 : Int32)), (.ref b1), (.ref b1)])) _
    refine st35 _ ?_
    show Steps p.tables e below (T35.setTop (mkF m 56 #[.val (.int p1), .val (.int ((p1 &&& (2147483647 : Int32)) % (10 : Int32))), .unset, .unset, .unset] [(.ref b1)])) _
    refine XS.dup X35.here hx rfl (hb hby at_56) rfl rfl ?_
    show Steps p.tables e below (T35.setTop (mkF m 57 #[.val (.int p1), .val (.int ((p1 &&& (2147483647 : Int32)) % (10 : Int32))), .unset, .unset, .unset] [(.ref b1), (.ref b1)])) _
    refine XS.bipush X35.here hx rfl (hb hby at_57) ?_
    show Steps p.tables e below (T35.setTop (mkF m 59 #[.val (.int p1), .val (.int ((p1 &&& (2147483647 : Int32)) % (10 : Int32))), .unset, .unset, .unset] [(.int (7 : Int32)), (.ref b1), (.ref b1)])) _
    refine st38 _ ?_
    show Steps p.tables e below (T38.setTop (mkF m 62 #[.val (.int p1), .val (.int ((p1 &&& (2147483647 : Int32)) % (10 : Int32))), .unset, .unset, .unset] [(.ref w7), (.int (7 : Int32)), (.ref b1), (.ref b1)])) _
    refine st40 _ ?_
    show Steps p.tables e below (T40.setTop (mkF m 63 #[.val (.int p1), .val (.int ((p1 &&& (2147483647 : Int32)) % (10 : Int32))), .unset, .unset, .unset] [(.ref b1)])) _
    refine XS.dup X40.here hx rfl (hb hby at_63) rfl rfl ?_
    show Steps p.tables e below (T40.setTop (mkF m 64 #[.val (.int p1), .val (.int ((p1 &&& (2147483647 : Int32)) % (10 : Int32))), .unset, .unset, .unset] [(.ref b1), (.ref b1)])) _
    refine XS.bipush X40.here hx rfl (hb hby at_64) ?_
    show Steps p.tables e below (T40.setTop (mkF m 66 #[.val (.int p1), .val (.int ((p1 &&& (2147483647 : Int32)) % (10 : Int32))), .unset, .unset, .unset] [(.int (8 : Int32)), (.ref b1), (.ref b1)])) _
    refine st43 _ ?_
    show Steps p.tables e below (T43.setTop (mkF m 69 #[.val (.int p1), .val (.int ((p1 &&& (2147483647 : Int32)) % (10 : Int32))), .unset, .unset, .unset] [(.ref w8), (.int (8 : Int32)), (.ref b1), (.ref b1)])) _
    refine st45 _ ?_
    show Steps p.tables e below (T45.setTop (mkF m 70 #[.val (.int p1), .val (.int ((p1 &&& (2147483647 : Int32)) % (10 : Int32))), .unset, .unset, .unset] [(.ref b1)])) _
    refine XS.dup X45.here hx rfl (hb hby at_70) rfl rfl ?_
    show Steps p.tables e below (T45.setTop (mkF m 71 #[.val (.int p1), .val (.int ((p1 &&& (2147483647 : Int32)) % (10 : Int32))), .unset, .unset, .unset] [(.ref b1), (.ref b1)])) _
    refine XS.bipush X45.here hx rfl (hb hby at_71) ?_
    show Steps p.tables e below (T45.setTop (mkF m 73 #[.val (.int p1), .val (.int ((p1 &&& (2147483647 : Int32)) % (10 : Int32))), .unset, .unset, .unset] [(.int (9 : Int32)), (.ref b1), (.ref b1)])) _
    refine st48 _ ?_
    show Steps p.tables e below (T48.setTop (mkF m 76 #[.val (.int p1), .val (.int ((p1 &&& (2147483647 : Int32)) % (10 : Int32))), .unset, .unset, .unset] [(.ref w9), (.int (9 : Int32)), (.ref b1), (.ref b1)])) _
    refine st50 _ ?_
    show Steps p.tables e below (T50.setTop (mkF m 77 #[.val (.int p1), .val (.int ((p1 &&& (2147483647 : Int32)) % (10 : Int32))), .unset, .unset, .unset] [(.ref b1)])) _
    refine XS.astoreN X50.here hx rfl (hb hby at_77) rfl rfl (l' := #[.val (.int p1), .val (.int ((p1 &&& (2147483647 : Int32)) % (10 : Int32))), .val (.ref b1), .unset, .unset]) rfl ?_
    show Steps p.tables e below (T50.setTop (mkF m 78 #[.val (.int p1), .val (.int ((p1 &&& (2147483647 : Int32)) % (10 : Int32))), .val (.ref b1), .unset, .unset] [])) _
    refine XS.aloadN X50.here hx rfl (hb hby at_78) rfl rfl ?_
    show Steps p.tables e below (T50.setTop (mkF m 79 #[.val (.int p1), .val (.int ((p1 &&& (2147483647 : Int32)) % (10 : Int32))), .val (.ref b1), .unset, .unset] [(.ref b1)])) _
    refine XS.iloadN X50.here hx rfl (hb hby at_79) rfl ?_
    show Steps p.tables e below (T50.setTop (mkF m 80 #[.val (.int p1), .val (.int ((p1 &&& (2147483647 : Int32)) % (10 : Int32))), .val (.ref b1), .unset, .unset] [(.int ((p1 &&& (2147483647 : Int32)) % (10 : Int32))), (.ref b1)])) _
    refine X50.aaload hx (j := ((p1 &&& (2147483647 : Int32)) % (10 : Int32))) (v := (.ref w)) (by rw [e50]; exact Ar52.1) (State.isArrayOf_alike hZ.alike Ar52.2.1) rfl Ar52.2.2 hin52_80 hat52_80 (g := (mkF m 80 #[.val (.int p1), .val (.int ((p1 &&& (2147483647 : Int32)) % (10 : Int32))), .val (.ref b1), .unset, .unset] [(.int ((p1 &&& (2147483647 : Int32)) % (10 : Int32))), (.ref b1)])) rfl rfl (hb hby at_80) _ ?_
    show Steps p.tables e below (T50.setTop (mkF m 81 #[.val (.int p1), .val (.int ((p1 &&& (2147483647 : Int32)) % (10 : Int32))), .val (.ref b1), .unset, .unset] [(.ref w)])) _
    refine XS.astoreN X50.here hx rfl (hb hby at_81) rfl rfl (l' := #[.val (.int p1), .val (.int ((p1 &&& (2147483647 : Int32)) % (10 : Int32))), .val (.ref b1), .val (.ref w), .unset]) rfl ?_
    show Steps p.tables e below (T50.setTop (mkF m 82 #[.val (.int p1), .val (.int ((p1 &&& (2147483647 : Int32)) % (10 : Int32))), .val (.ref b1), .val (.ref w), .unset] [])) _
    refine XS.iloadN X50.here hx rfl (hb hby at_82) rfl ?_
    show Steps p.tables e below (T50.setTop (mkF m 83 #[.val (.int p1), .val (.int ((p1 &&& (2147483647 : Int32)) % (10 : Int32))), .val (.ref b1), .val (.ref w), .unset] [(.int ((p1 &&& (2147483647 : Int32)) % (10 : Int32)))])) _
    refine XS.bipush X50.here hx rfl (hb hby at_83) ?_
    show Steps p.tables e below (T50.setTop (mkF m 85 #[.val (.int p1), .val (.int ((p1 &&& (2147483647 : Int32)) % (10 : Int32))), .val (.ref b1), .val (.ref w), .unset] [(.int (7 : Int32)), (.int ((p1 &&& (2147483647 : Int32)) % (10 : Int32)))])) _
    refine XS.icmpYes X50.here hx rfl (pc0 := 85) (pc' := 94) rfl (hb hby at_85) rfl (feq (hc85 : ¬ (((p1 &&& (2147483647 : Int32)) % (10 : Int32)) = (7 : Int32)))).2 (by decide) (by decide) ?_
    show Steps p.tables e below (T50.setTop (mkF m 94 #[.val (.int p1), .val (.int ((p1 &&& (2147483647 : Int32)) % (10 : Int32))), .val (.ref b1), .val (.ref w), .unset] [])) _
    refine XS.iloadN X50.here hx rfl (hb hby at_94) rfl ?_
    show Steps p.tables e below (T50.setTop (mkF m 95 #[.val (.int p1), .val (.int ((p1 &&& (2147483647 : Int32)) % (10 : Int32))), .val (.ref b1), .val (.ref w), .unset] [(.int ((p1 &&& (2147483647 : Int32)) % (10 : Int32)))])) _
    refine XS.bipush X50.here hx rfl (hb hby at_95) ?_
    show Steps p.tables e below (T50.setTop (mkF m 97 #[.val (.int p1), .val (.int ((p1 &&& (2147483647 : Int32)) % (10 : Int32))), .val (.ref b1), .val (.ref w), .unset] [(.int (8 : Int32)), (.int ((p1 &&& (2147483647 : Int32)) % (10 : Int32)))])) _
    refine XS.icmpNo X50.here hx rfl (hb hby at_97) rfl (teq (hc97 : ((p1 &&& (2147483647 : Int32)) % (10 : Int32)) = (8 : Int32))).2 ?_
    show Steps p.tables e below (T50.setTop (mkF m 100 #[.val (.int p1), .val (.int ((p1 &&& (2147483647 : Int32)) % (10 : Int32))), .val (.ref b1), .val (.ref w), .unset] [])) _
    refine XS.iconst X50.here hx rfl (hb hby at_100) ?_
    show Steps p.tables e below (T50.setTop (mkF m 101 #[.val (.int p1), .val (.int ((p1 &&& (2147483647 : Int32)) % (10 : Int32))), .val (.ref b1), .val (.ref w), .unset] [(.int (1 : Int32))])) _
    refine XS.istore X50.here hx rfl (hb hby at_101) rfl (l' := #[.val (.int p1), .val (.int ((p1 &&& (2147483647 : Int32)) % (10 : Int32))), .val (.ref b1), .val (.ref w), .val (.int (1 : Int32))]) rfl ?_
    show Steps p.tables e below (T50.setTop (mkF m 103 #[.val (.int p1), .val (.int ((p1 &&& (2147483647 : Int32)) % (10 : Int32))), .val (.ref b1), .val (.ref w), .val (.int (1 : Int32))] [])) _
    refine XS.goto X50.here hx rfl (pc0 := 103) (pc' := 121) rfl (hb hby at_103) (by decide) (by decide) ?_
    show Steps p.tables e below (T50.setTop (mkF m 121 #[.val (.int p1), .val (.int ((p1 &&& (2147483647 : Int32)) % (10 : Int32))), .val (.ref b1), .val (.ref w), .val (.int (1 : Int32))] [])) _
    refine XS.aloadN X50.here hx rfl (hb hby at_121) rfl rfl ?_
    show Steps p.tables e below (T50.setTop (mkF m 122 #[.val (.int p1), .val (.int ((p1 &&& (2147483647 : Int32)) % (10 : Int32))), .val (.ref b1), .val (.ref w), .val (.int (1 : Int32))] [(.ref w)])) _
    refine st53.trans ?_
    show Steps p.tables e below (T53.setTop (mkF m 125 #[.val (.int p1), .val (.int ((p1 &&& (2147483647 : Int32)) % (10 : Int32))), .val (.ref b1), .val (.ref w), .val (.int (1 : Int32))] [(.int (1 : Int32))])) _
    refine XS.iload X53.here hx rfl (hb hby at_125) rfl ?_
    show Steps p.tables e below (T53.setTop (mkF m 127 #[.val (.int p1), .val (.int ((p1 &&& (2147483647 : Int32)) % (10 : Int32))), .val (.ref b1), .val (.ref w), .val (.int (1 : Int32))] [(.int (1 : Int32)), (.int (1 : Int32))])) _
    refine XS.icmpNo X53.here hx rfl (hb hby at_127) rfl (teq ((by decide) : (1 : Int32) = (1 : Int32))).2 ?_
    show Steps p.tables e below (T53.setTop (mkF m 130 #[.val (.int p1), .val (.int ((p1 &&& (2147483647 : Int32)) % (10 : Int32))), .val (.ref b1), .val (.ref w), .val (.int (1 : Int32))] [])) _
    refine XS.iconst X53.here hx rfl (hb hby at_130) ?_
    show Steps p.tables e below (T53.setTop (mkF m 131 #[.val (.int p1), .val (.int ((p1 &&& (2147483647 : Int32)) % (10 : Int32))), .val (.ref b1), .val (.ref w), .val (.int (1 : Int32))] [(.int (1 : Int32))])) _
    refine XS.goto X53.here hx rfl (pc0 := 131) (pc' := 135) rfl (hb hby at_131) (by decide) (by decide) ?_
    show Steps p.tables e below (T53.setTop (mkF m 135 #[.val (.int p1), .val (.int ((p1 &&& (2147483647 : Int32)) % (10 : Int32))), .val (.ref b1), .val (.ref w), .val (.int (1 : Int32))] [(.int (1 : Int32))])) _
    exact retN X53 hx (t := .boolean) Bd.returns (by simp) (hb hby at_135) hr
  · show Q_law Z p1 w0 w1 w2 w3 w4 w5 w6 w7 w8 w9 w h0 n0 _ T53.heap _
    rw [e53]
    exact ⟨rfl, N53⟩
set_option maxRecDepth 65536 in
set_option maxHeartbeats 40000000 in
theorem rm_law_9 (l : Launch) (Z : State) (a0 : Array Value) (hw : ∀ d ∈ tables_1, d.before a0 Z = true) (ws : List Jvm.Cond) (p1 : Int32) (w0 : Addr) (w1 : Addr) (w2 : Addr) (w3 : Addr) (w4 : Addr) (w5 : Addr) (w6 : Addr) (w7 : Addr) (w8 : Addr) (w9 : Addr) (w : Addr) (h0 : Heap) (n0 : Nat) (Z0 : n0 ≤ h0.size) (S_INT : Sta Z h0 "com/example/castwise/castwise/core/DeclaredType$Name" "INT" "Lcom/example/castwise/castwise/core/DeclaredType$Name;" (.ref w0)) (S_INTEGER : Sta Z h0 "com/example/castwise/castwise/core/DeclaredType$Name" "INTEGER" "Lcom/example/castwise/castwise/core/DeclaredType$Name;" (.ref w1)) (S_DECIMAL : Sta Z h0 "com/example/castwise/castwise/core/DeclaredType$Name" "DECIMAL" "Lcom/example/castwise/castwise/core/DeclaredType$Name;" (.ref w2)) (S_NUMERIC : Sta Z h0 "com/example/castwise/castwise/core/DeclaredType$Name" "NUMERIC" "Lcom/example/castwise/castwise/core/DeclaredType$Name;" (.ref w3)) (S_REAL : Sta Z h0 "com/example/castwise/castwise/core/DeclaredType$Name" "REAL" "Lcom/example/castwise/castwise/core/DeclaredType$Name;" (.ref w4)) (S_VARCHAR : Sta Z h0 "com/example/castwise/castwise/core/DeclaredType$Name" "VARCHAR" "Lcom/example/castwise/castwise/core/DeclaredType$Name;" (.ref w5)) (S_TEXT : Sta Z h0 "com/example/castwise/castwise/core/DeclaredType$Name" "TEXT" "Lcom/example/castwise/castwise/core/DeclaredType$Name;" (.ref w6)) (S_BIGINT : Sta Z h0 "com/example/castwise/castwise/core/DeclaredType$Name" "BIGINT" "Lcom/example/castwise/castwise/core/DeclaredType$Name;" (.ref w7)) (S_DOUBLE_PRECISION : Sta Z h0 "com/example/castwise/castwise/core/DeclaredType$Name" "DOUBLE_PRECISION" "Lcom/example/castwise/castwise/core/DeclaredType$Name;" (.ref w8)) (S_BOOLEAN : Sta Z h0 "com/example/castwise/castwise/core/DeclaredType$Name" "BOOLEAN" "Lcom/example/castwise/castwise/core/DeclaredType$Name;" (.ref w9)) (E_w0 : Exa Z h0 w0 "com/example/castwise/castwise/core/DeclaredType$Name") (E_w1 : Exa Z h0 w1 "com/example/castwise/castwise/core/DeclaredType$Name") (E_w2 : Exa Z h0 w2 "com/example/castwise/castwise/core/DeclaredType$Name") (E_w3 : Exa Z h0 w3 "com/example/castwise/castwise/core/DeclaredType$Name") (E_w4 : Exa Z h0 w4 "com/example/castwise/castwise/core/DeclaredType$Name") (E_w5 : Exa Z h0 w5 "com/example/castwise/castwise/core/DeclaredType$Name") (E_w6 : Exa Z h0 w6 "com/example/castwise/castwise/core/DeclaredType$Name") (E_w7 : Exa Z h0 w7 "com/example/castwise/castwise/core/DeclaredType$Name") (E_w8 : Exa Z h0 w8 "com/example/castwise/castwise/core/DeclaredType$Name") (E_w9 : Exa Z h0 w9 "com/example/castwise/castwise/core/DeclaredType$Name") (E_w : Exa Z h0 w "com/example/castwise/castwise/core/DeclaredType$Name") (hlo : ¬ ((p1 &&& (2147483647 : Int32)) % (10 : Int32)) < 0) (hhi : ((p1 &&& (2147483647 : Int32)) % (10 : Int32)) < 10) (hsel : List.getD [(Value.ref w0), (Value.ref w1), (Value.ref w2), (Value.ref w3), (Value.ref w4), (Value.ref w5), (Value.ref w6), (Value.ref w7), (Value.ref w8), (Value.ref w9)] (((p1 &&& (2147483647 : Int32)) % (10 : Int32))).toNatClampNeg .null = .ref w) (hret : (1 : Int32) = if w = w7 ∨ w = w8 ∨ w = w9 then 1 else 0) (hc85 : ¬ (((p1 &&& (2147483647 : Int32)) % (10 : Int32)) = (7 : Int32))) (hc97 : ¬ (((p1 &&& (2147483647 : Int32)) % (10 : Int32)) = (8 : Int32))) (hc109 : ((p1 &&& (2147483647 : Int32)) % (10 : Int32)) = (9 : Int32)) :
    MetFree l x (head1 (Jvm.Cond.code x code maxLocals ret :: ws) room_1) (fun a_ U => a_ = #[(.int p1)] ∧ Z.Warmed39 U.vm ∧ U.heap = h0) (fun _ _ _ _ _ => True) (fun _ U o U' => ∃ v L, o = .returned v ∧ Q_law Z p1 w0 w1 w2 w3 w4 w5 w6 w7 w8 w9 w h0 n0 v U'.heap L ∧ FrameEnd U o U' L room_1.cells room_1.slots) := by
  refine MetFree.of_bodySF (plainFor_of_name pn_0) hisR ?_
  intro p e s m args below meth c s₁ Bd hml0 hP hK
  obtain ⟨rfl, hZ, hh⟩ := hP
  have hx := Bd.exec
  have hby := Bd.bytes
  have hml : c.maxLocals = 5 := hml0
  have hown : s.vm.findClass "com/example/castwise/castwise/core/NameIsCastOnlyPinLaw" = some m.cls := findClass_of_methodNamed Bd.named
  have hnm := (name_of_methodNamed Bd.named Bd.method).1
  have X0 : Stand p l e room_1 s m #[(.int p1)] below meth c s₁ [] 0 0 := Stand.of_body Bd
  have e0 : s₁.heap = h0 := by rw [← hh, Bd.state]; rfl
  have N0 := Fr.nil n0
  have pre0 : ∀ t, Steps p.tables e below (s₁.setTop (mkF m 0 #[.val (.int p1), .unset, .unset, .unset, .unset] [])) t → Steps p.tables e below (s₁.setTop (entryFrame m #[(.int p1)] maxLocals)) t := fun t_ k_ => castTop (ef_law m p1) k_
  obtain ⟨T1, h1, k1, X1, e1, E1, A1, O1, st1⟩ := newR X0 hx hZ hown (hw _ (List.mem_of_getElem? (i := 1) rfl)) (hw _ (List.mem_of_getElem? (i := 2) rfl)) e0 (g := (mkF m 10 #[.val (.int p1), .val (.int ((p1 &&& (2147483647 : Int32)) % (10 : Int32))), .unset, .unset, .unset] [(.int (10 : Int32))])) rfl (hb hby at_10) rfl (by decide) (cap := 10) (by decide) (by decide) (by decide) (by decide)
  obtain ⟨b1, g1⟩ : ∃ z, z = h0.size := ⟨_, rfl⟩
  rw [← g1] at A1 st1
  have sz_b1 : h0.size ≤ b1 := Nat.le_trans (Keep.refl h0 []).1 (Nat.le_of_eq g1.symm)
  have g_b1 : n0 ≤ b1 := Nat.le_trans Z0 sz_b1
  have Kc1 : Keep h0 h1 [] := (Keep.refl h0 []).ext E1
  have V_b1 : Arv Z h1 b1 k1 (.object "com/example/castwise/castwise/core/DeclaredType$Name") (10 : Int32) [.null, .null, .null, .null, .null, .null, .null, .null, .null, .null] .null := (Arv.new A1 (by decide)).pad (pad_rep [] .null 10)
  have f2 : Sta Z h1 "com/example/castwise/castwise/core/DeclaredType$Name" "INT" "Lcom/example/castwise/castwise/core/DeclaredType$Name;" (.ref w0) := (Sta.ext E1 S_INT)
  obtain ⟨T3, X3, e3, st3⟩ := getS2 X1 hx hZ hown (host := "") (Or.inl (hw _ (List.mem_of_getElem? (i := 3) rfl))) Via.refl e1 f2 (g := (mkF m 15 #[.val (.int p1), .val (.int ((p1 &&& (2147483647 : Int32)) % (10 : Int32))), .unset, .unset, .unset] [(.int (0 : Int32)), (.ref b1), (.ref b1)])) rfl (hb hby at_15)
  obtain ⟨cl4, Ar4, qq4, Sz4, Nn4, Hs4, Gg4⟩ := id V_b1
  have hin4_18 : ¬ ((0 : Int32) < 0 ∨ cl4.slots.size ≤ ((0 : Int32)).toNatClampNeg) := inb_of Sz4 ⟨by decide, by decide⟩
  have f6 : Exa Z h1 w0 "com/example/castwise/castwise/core/DeclaredType$Name" := (Exa.ext E1 E_w0)
  obtain ⟨T5, h5, X5, e5, W5, st5⟩ := stR X3 hx hZ e3 Ar4 (j := (0 : Int32)) hin4_18 rfl (Sto.ofV Ar4 qq4 O1 (Ins.self f6)) (g := (mkF m 18 #[.val (.int p1), .val (.int ((p1 &&& (2147483647 : Int32)) % (10 : Int32))), .unset, .unset, .unset] [(.ref w0), (.int (0 : Int32)), (.ref b1), (.ref b1)])) rfl rfl (hb hby at_18)
  have N5 := Fr.snoc X5 N0 g_b1
  have Kc5 : Keep h0 h5 [] := Kc1.wr W5 (Or.inr sz_b1)
  have Vw5 : Arv Z h5 b1 k1 (.object "com/example/castwise/castwise/core/DeclaredType$Name") (10 : Int32) [(.ref w0), .null, .null, .null, .null, .null, .null, .null, .null, .null] .null := Arv.set Ar4 qq4 Sz4 Nn4 Hs4 Gg4 rfl W5 0 rfl (Nat.le_of_ble_eq_true rfl)
  have f7 : Sta Z h5 "com/example/castwise/castwise/core/DeclaredType$Name" "INTEGER" "Lcom/example/castwise/castwise/core/DeclaredType$Name;" (.ref w1) := (Sta.wr W5 (Sta.ext E1 S_INTEGER))
  obtain ⟨T8, X8, e8, st8⟩ := getS2 X5 hx hZ hown (host := "") (Or.inl (hw _ (List.mem_of_getElem? (i := 7) rfl))) Via.refl e5 f7 (g := (mkF m 21 #[.val (.int p1), .val (.int ((p1 &&& (2147483647 : Int32)) % (10 : Int32))), .unset, .unset, .unset] [(.int (1 : Int32)), (.ref b1), (.ref b1)])) rfl (hb hby at_21)
  obtain ⟨cl9, Ar9, qq9, Sz9, Nn9, Hs9, Gg9⟩ := id Vw5
  have hin9_24 : ¬ ((1 : Int32) < 0 ∨ cl9.slots.size ≤ ((1 : Int32)).toNatClampNeg) := inb_of Sz9 ⟨by decide, by decide⟩
  have f11 : Exa Z h5 w1 "com/example/castwise/castwise/core/DeclaredType$Name" := (Exa.wr W5 (Exa.ext E1 E_w1))
  obtain ⟨T10, h10, X10, e10, W10, st10⟩ := stR X8 hx hZ e8 Ar9 (j := (1 : Int32)) hin9_24 rfl (Sto.ofV Ar9 qq9 O1 (Ins.self f11)) (g := (mkF m 24 #[.val (.int p1), .val (.int ((p1 &&& (2147483647 : Int32)) % (10 : Int32))), .unset, .unset, .unset] [(.ref w1), (.int (1 : Int32)), (.ref b1), (.ref b1)])) rfl rfl (hb hby at_24)
  have N10 := Fr.snoc X10 N5 g_b1
  have Kc10 : Keep h0 h10 [] := Kc5.wr W10 (Or.inr sz_b1)
  have Vw10 : Arv Z h10 b1 k1 (.object "com/example/castwise/castwise/core/DeclaredType$Name") (10 : Int32) [(.ref w0), (.ref w1), .null, .null, .null, .null, .null, .null, .null, .null] .null := Arv.set Ar9 qq9 Sz9 Nn9 Hs9 Gg9 rfl W10 1 rfl (Nat.le_of_ble_eq_true rfl)
  have f12 : Sta Z h10 "com/example/castwise/castwise/core/DeclaredType$Name" "DECIMAL" "Lcom/example/castwise/castwise/core/DeclaredType$Name;" (.ref w2) := (Sta.wr W10 (Sta.wr W5 (Sta.ext E1 S_DECIMAL)))
  obtain ⟨T13, X13, e13, st13⟩ := getS2 X10 hx hZ hown (host := "") (Or.inl (hw _ (List.mem_of_getElem? (i := 9) rfl))) Via.refl e10 f12 (g := (mkF m 27 #[.val (.int p1), .val (.int ((p1 &&& (2147483647 : Int32)) % (10 : Int32))), .unset, .unset, .unset] [(.int (2 : Int32)), (.ref b1), (.ref b1)])) rfl (hb hby at_27)
  obtain ⟨cl14, Ar14, qq14, Sz14, Nn14, Hs14, Gg14⟩ := id Vw10
  have hin14_30 : ¬ ((2 : Int32) < 0 ∨ cl14.slots.size ≤ ((2 : Int32)).toNatClampNeg) := inb_of Sz14 ⟨by decide, by decide⟩
  have f16 : Exa Z h10 w2 "com/example/castwise/castwise/core/DeclaredType$Name" := (Exa.wr W10 (Exa.wr W5 (Exa.ext E1 E_w2)))
  obtain ⟨T15, h15, X15, e15, W15, st15⟩ := stR X13 hx hZ e13 Ar14 (j := (2 : Int32)) hin14_30 rfl (Sto.ofV Ar14 qq14 O1 (Ins.self f16)) (g := (mkF m 30 #[.val (.int p1), .val (.int ((p1 &&& (2147483647 : Int32)) % (10 : Int32))), .unset, .unset, .unset] [(.ref w2), (.int (2 : Int32)), (.ref b1), (.ref b1)])) rfl rfl (hb hby at_30)
  have N15 := Fr.snoc X15 N10 g_b1
  have Kc15 : Keep h0 h15 [] := Kc10.wr W15 (Or.inr sz_b1)
  have Vw15 : Arv Z h15 b1 k1 (.object "com/example/castwise/castwise/core/DeclaredType$Name") (10 : Int32) [(.ref w0), (.ref w1), (.ref w2), .null, .null, .null, .null, .null, .null, .null] .null := Arv.set Ar14 qq14 Sz14 Nn14 Hs14 Gg14 rfl W15 2 rfl (Nat.le_of_ble_eq_true rfl)
  have f17 : Sta Z h15 "com/example/castwise/castwise/core/DeclaredType$Name" "NUMERIC" "Lcom/example/castwise/castwise/core/DeclaredType$Name;" (.ref w3) := (Sta.wr W15 (Sta.wr W10 (Sta.wr W5 (Sta.ext E1 S_NUMERIC))))
  obtain ⟨T18, X18, e18, st18⟩ := getS2 X15 hx hZ hown (host := "") (Or.inl (hw _ (List.mem_of_getElem? (i := 11) rfl))) Via.refl e15 f17 (g := (mkF m 33 #[.val (.int p1), .val (.int ((p1 &&& (2147483647 : Int32)) % (10 : Int32))), .unset, .unset, .unset] [(.int (3 : Int32)), (.ref b1), (.ref b1)])) rfl (hb hby at_33)
  obtain ⟨cl19, Ar19, qq19, Sz19, Nn19, Hs19, Gg19⟩ := id Vw15
  have hin19_36 : ¬ ((3 : Int32) < 0 ∨ cl19.slots.size ≤ ((3 : Int32)).toNatClampNeg) := inb_of Sz19 ⟨by decide, by decide⟩
  have f21 : Exa Z h15 w3 "com/example/castwise/castwise/core/DeclaredType$Name" := (Exa.wr W15 (Exa.wr W10 (Exa.wr W5 (Exa.ext E1 E_w3))))
  obtain ⟨T20, h20, X20, e20, W20, st20⟩ := stR X18 hx hZ e18 Ar19 (j := (3 : Int32)) hin19_36 rfl (Sto.ofV Ar19 qq19 O1 (Ins.self f21)) (g := (mkF m 36 #[.val (.int p1), .val (.int ((p1 &&& (2147483647 : Int32)) % (10 : Int32))), .unset, .unset, .unset] [(.ref w3), (.int (3 : Int32)), (.ref b1), (.ref b1)])) rfl rfl (hb hby at_36)
  have N20 := Fr.snoc X20 N15 g_b1
  have Kc20 : Keep h0 h20 [] := Kc15.wr W20 (Or.inr sz_b1)
  have Vw20 : Arv Z h20 b1 k1 (.object "com/example/castwise/castwise/core/DeclaredType$Name") (10 : Int32) [(.ref w0), (.ref w1), (.ref w2), (.ref w3), .null, .null, .null, .null, .null, .null] .null := Arv.set Ar19 qq19 Sz19 Nn19 Hs19 Gg19 rfl W20 3 rfl (Nat.le_of_ble_eq_true rfl)
  have f22 : Sta Z h20 "com/example/castwise/castwise/core/DeclaredType$Name" "REAL" "Lcom/example/castwise/castwise/core/DeclaredType$Name;" (.ref w4) := (Sta.wr W20 (Sta.wr W15 (Sta.wr W10 (Sta.wr W5 (Sta.ext E1 S_REAL)))))
  obtain ⟨T23, X23, e23, st23⟩ := getS2 X20 hx hZ hown (host := "") (Or.inl (hw _ (List.mem_of_getElem? (i := 13) rfl))) Via.refl e20 f22 (g := (mkF m 39 #[.val (.int p1), .val (.int ((p1 &&& (2147483647 : Int32)) % (10 : Int32))), .unset, .unset, .unset] [(.int (4 : Int32)), (.ref b1), (.ref b1)])) rfl (hb hby at_39)
  obtain ⟨cl24, Ar24, qq24, Sz24, Nn24, Hs24, Gg24⟩ := id Vw20
  have hin24_42 : ¬ ((4 : Int32) < 0 ∨ cl24.slots.size ≤ ((4 : Int32)).toNatClampNeg) := inb_of Sz24 ⟨by decide, by decide⟩
  have f26 : Exa Z h20 w4 "com/example/castwise/castwise/core/DeclaredType$Name" := (Exa.wr W20 (Exa.wr W15 (Exa.wr W10 (Exa.wr W5 (Exa.ext E1 E_w4)))))
  obtain ⟨T25, h25, X25, e25, W25, st25⟩ := stR X23 hx hZ e23 Ar24 (j := (4 : Int32)) hin24_42 rfl (Sto.ofV Ar24 qq24 O1 (Ins.self f26)) (g := (mkF m 42 #[.val (.int p1), .val (.int ((p1 &&& (2147483647 : Int32)) % (10 : Int32))), .unset, .unset, .unset] [(.ref w4), (.int (4 : Int32)), (.ref b1), (.ref b1)])) rfl rfl (hb hby at_42)
  have N25 := Fr.snoc X25 N20 g_b1
  have Kc25 : Keep h0 h25 [] := Kc20.wr W25 (Or.inr sz_b1)
  have Vw25 : Arv Z h25 b1 k1 (.object "com/example/castwise/castwise/core/DeclaredType$Name") (10 : Int32) [(.ref w0), (.ref w1), (.ref w2), (.ref w3), (.ref w4), .null, .null, .null, .null, .null] .null := Arv.set Ar24 qq24 Sz24 Nn24 Hs24 Gg24 rfl W25 4 rfl (Nat.le_of_ble_eq_true rfl)
  have f27 : Sta Z h25 "com/example/castwise/castwise/core/DeclaredType$Name" "VARCHAR" "Lcom/example/castwise/castwise/core/DeclaredType$Name;" (.ref w5) := (Sta.wr W25 (Sta.wr W20 (Sta.wr W15 (Sta.wr W10 (Sta.wr W5 (Sta.ext E1 S_VARCHAR))))))
  obtain ⟨T28, X28, e28, st28⟩ := getS2 X25 hx hZ hown (host := "") (Or.inl (hw _ (List.mem_of_getElem? (i := 15) rfl))) Via.refl e25 f27 (g := (mkF m 45 #[.val (.int p1), .val (.int ((p1 &&& (2147483647 : Int32)) % (10 : Int32))), .unset, .unset, .unset] [(.int (5 : Int32)), (.ref b1), (.ref b1)])) rfl (hb hby at_45)
  obtain ⟨cl29, Ar29, qq29, Sz29, Nn29, Hs29, Gg29⟩ := id Vw25
  have hin29_48 : ¬ ((5 : Int32) < 0 ∨ cl29.slots.size ≤ ((5 : Int32)).toNatClampNeg) := inb_of Sz29 ⟨by decide, by decide⟩
  have f31 : Exa Z h25 w5 "com/example/castwise/castwise/core/DeclaredType$Name" := (Exa.wr W25 (Exa.wr W20 (Exa.wr W15 (Exa.wr W10 (Exa.wr W5 (Exa.ext E1 E_w5))))))
  obtain ⟨T30, h30, X30, e30, W30, st30⟩ := stR X28 hx hZ e28 Ar29 (j := (5 : Int32)) hin29_48 rfl (Sto.ofV Ar29 qq29 O1 (Ins.self f31)) (g := (mkF m 48 #[.val (.int p1), .val (.int ((p1 &&& (2147483647 : Int32)) % (10 : Int32))), .unset, .unset, .unset] [(.ref w5), (.int (5 : Int32)), (.ref b1), (.ref b1)])) rfl rfl (hb hby at_48)
  have N30 := Fr.snoc X30 N25 g_b1
  have Kc30 : Keep h0 h30 [] := Kc25.wr W30 (Or.inr sz_b1)
  have Vw30 : Arv Z h30 b1 k1 (.object "com/example/castwise/castwise/core/DeclaredType$Name") (10 : Int32) [(.ref w0), (.ref w1), (.ref w2), (.ref w3), (.ref w4), (.ref w5), .null, .null, .null, .null] .null := Arv.set Ar29 qq29 Sz29 Nn29 Hs29 Gg29 rfl W30 5 rfl (Nat.le_of_ble_eq_true rfl)
  have f32 : Sta Z h30 "com/example/castwise/castwise/core/DeclaredType$Name" "TEXT" "Lcom/example/castwise/castwise/core/DeclaredType$Name;" (.ref w6) := (Sta.wr W30 (Sta.wr W25 (Sta.wr W20 (Sta.wr W15 (Sta.wr W10 (Sta.wr W5 (Sta.ext E1 S_TEXT)))))))
  obtain ⟨T33, X33, e33, st33⟩ := getS2 X30 hx hZ hown (host := "") (Or.inl (hw _ (List.mem_of_getElem? (i := 17) rfl))) Via.refl e30 f32 (g := (mkF m 52 #[.val (.int p1), .val (.int ((p1 &&& (2147483647 : Int32)) % (10 : Int32))), .unset, .unset, .unset] [(.int (6 : Int32)), (.ref b1), (.ref b1)])) rfl (hb hby at_52)
  obtain ⟨cl34, Ar34, qq34, Sz34, Nn34, Hs34, Gg34⟩ := id Vw30
  have hin34_55 : ¬ ((6 : Int32) < 0 ∨ cl34.slots.size ≤ ((6 : Int32)).toNatClampNeg) := inb_of Sz34 ⟨by decide, by decide⟩
  have f36 : Exa Z h30 w6 "com/example/castwise/castwise/core/DeclaredType$Name" := (Exa.wr W30 (Exa.wr W25 (Exa.wr W20 (Exa.wr W15 (Exa.wr W10 (Exa.wr W5 (Exa.ext E1 E_w6)))))))
  obtain ⟨T35, h35, X35, e35, W35, st35⟩ := stR X33 hx hZ e33 Ar34 (j := (6 : Int32)) hin34_55 rfl (Sto.ofV Ar34 qq34 O1 (Ins.self f36)) (g := (mkF m 55 #[.val (.int p1), .val (.int ((p1 &&& (2147483647 : Int32)) % (10 : Int32))), .unset, .unset, .unset] [(.ref w6), (.int (6 : Int32)), (.ref b1), (.ref b1)])) rfl rfl (hb hby at_55)
  have N35 := Fr.snoc X35 N30 g_b1
  have Kc35 : Keep h0 h35 [] := Kc30.wr W35 (Or.inr sz_b1)
  have Vw35 : Arv Z h35 b1 k1 (.object "com/example/castwise/castwise/core/DeclaredType$Name") (10 : Int32) [(.ref w0), (.ref w1), (.ref w2), (.ref w3), (.ref w4), (.ref w5), (.ref w6), .null, .null, .null] .null := Arv.set Ar34 qq34 Sz34 Nn34 Hs34 Gg34 rfl W35 6 rfl (Nat.le_of_ble_eq_true rfl)
  have f37 : Sta Z h35 "com/example/castwise/castwise/core/DeclaredType$Name" "BIGINT" "Lcom/example/castwise/castwise/core/DeclaredType$Name;" (.ref w7) := (Sta.wr W35 (Sta.wr W30 (Sta.wr W25 (Sta.wr W20 (Sta.wr W15 (Sta.wr W10 (Sta.wr W5 (Sta.ext E1 S_BIGINT))))))))
  obtain ⟨T38, X38, e38, st38⟩ := getS2 X35 hx hZ hown (host := "") (Or.inl (hw _ (List.mem_of_getElem? (i := 19) rfl))) Via.refl e35 f37 (g := (mkF m 59 #[.val (.int p1), .val (.int ((p1 &&& (2147483647 : Int32)) % (10 : Int32))), .unset, .unset, .unset] [(.int (7 : Int32)), (.ref b1), (.ref b1)])) rfl (hb hby at_59)
  obtain ⟨cl39, Ar39, qq39, Sz39, Nn39, Hs39, Gg39⟩ := id Vw35
  have hin39_62 : ¬ ((7 : Int32) < 0 ∨ cl39.slots.size ≤ ((7 : Int32)).toNatClampNeg) := inb_of Sz39 ⟨by decide, by decide⟩
  have f41 : Exa Z h35 w7 "com/example/castwise/castwise/core/DeclaredType$Name" := (Exa.wr W35 (Exa.wr W30 (Exa.wr W25 (Exa.wr W20 (Exa.wr W15 (Exa.wr W10 (Exa.wr W5 (Exa.ext E1 E_w7))))))))
  obtain ⟨T40, h40, X40, e40, W40, st40⟩ := stR X38 hx hZ e38 Ar39 (j := (7 : Int32)) hin39_62 rfl (Sto.ofV Ar39 qq39 O1 (Ins.self f41)) (g := (mkF m 62 #[.val (.int p1), .val (.int ((p1 &&& (2147483647 : Int32)) % (10 : Int32))), .unset, .unset, .unset] [(.ref w7), (.int (7 : Int32)), (.ref b1), (.ref b1)])) rfl rfl (hb hby at_62)
  have N40 := Fr.snoc X40 N35 g_b1
  have Kc40 : Keep h0 h40 [] := Kc35.wr W40 (Or.inr sz_b1)
  have Vw40 : Arv Z h40 b1 k1 (.object "com/example/castwise/castwise/core/DeclaredType$Name") (10 : Int32) [(.ref w0), (.ref w1), (.ref w2), (.ref w3), (.ref w4), (.ref w5), (.ref w6), (.ref w7), .null, .null] .null := Arv.set Ar39 qq39 Sz39 Nn39 Hs39 Gg39 rfl W40 7 rfl (Nat.le_of_ble_eq_true rfl)
  have f42 : Sta Z h40 "com/example/castwise/castwise/core/DeclaredType$Name" "DOUBLE_PRECISION" "Lcom/example/castwise/castwise/core/DeclaredType$Name;" (.ref w8) := (Sta.wr W40 (Sta.wr W35 (Sta.wr W30 (Sta.wr W25 (Sta.wr W20 (Sta.wr W15 (Sta.wr W10 (Sta.wr W5 (Sta.ext E1 S_DOUBLE_PRECISION)))))))))
  obtain ⟨T43, X43, e43, st43⟩ := getS2 X40 hx hZ hown (host := "") (Or.inl (hw _ (List.mem_of_getElem? (i := 21) rfl))) Via.refl e40 f42 (g := (mkF m 66 #[.val (.int p1), .val (.int ((p1 &&& (2147483647 : Int32)) % (10 : Int32))), .unset, .unset, .unset] [(.int (8 : Int32)), (.ref b1), (.ref b1)])) rfl (hb hby at_66)
  obtain ⟨cl44, Ar44, qq44, Sz44, Nn44, Hs44, Gg44⟩ := id Vw40
  have hin44_69 : ¬ ((8 : Int32) < 0 ∨ cl44.slots.size ≤ ((8 : Int32)).toNatClampNeg) := inb_of Sz44 ⟨by decide, by decide⟩
  have f46 : Exa Z h40 w8 "com/example/castwise/castwise/core/DeclaredType$Name" := (Exa.wr W40 (Exa.wr W35 (Exa.wr W30 (Exa.wr W25 (Exa.wr W20 (Exa.wr W15 (Exa.wr W10 (Exa.wr W5 (Exa.ext E1 E_w8)))))))))
  obtain ⟨T45, h45, X45, e45, W45, st45⟩ := stR X43 hx hZ e43 Ar44 (j := (8 : Int32)) hin44_69 rfl (Sto.ofV Ar44 qq44 O1 (Ins.self f46)) (g := (mkF m 69 #[.val (.int p1), .val (.int ((p1 &&& (2147483647 : Int32)) % (10 : Int32))), .unset, .unset, .unset] [(.ref w8), (.int (8 : Int32)), (.ref b1), (.ref b1)])) rfl rfl (hb hby at_69)
  have N45 := Fr.snoc X45 N40 g_b1
  have Kc45 : Keep h0 h45 [] := Kc40.wr W45 (Or.inr sz_b1)
  have Vw45 : Arv Z h45 b1 k1 (.object "com/example/castwise/castwise/core/DeclaredType$Name") (10 : Int32) [(.ref w0), (.ref w1), (.ref w2), (.ref w3), (.ref w4), (.ref w5), (.ref w6), (.ref w7), (.ref w8), .null] .null := Arv.set Ar44 qq44 Sz44 Nn44 Hs44 Gg44 rfl W45 8 rfl (Nat.le_of_ble_eq_true rfl)
  have f47 : Sta Z h45 "com/example/castwise/castwise/core/DeclaredType$Name" "BOOLEAN" "Lcom/example/castwise/castwise/core/DeclaredType$Name;" (.ref w9) := (Sta.wr W45 (Sta.wr W40 (Sta.wr W35 (Sta.wr W30 (Sta.wr W25 (Sta.wr W20 (Sta.wr W15 (Sta.wr W10 (Sta.wr W5 (Sta.ext E1 S_BOOLEAN))))))))))
  obtain ⟨T48, X48, e48, st48⟩ := getS2 X45 hx hZ hown (host := "") (Or.inl (hw _ (List.mem_of_getElem? (i := 23) rfl))) Via.refl e45 f47 (g := (mkF m 73 #[.val (.int p1), .val (.int ((p1 &&& (2147483647 : Int32)) % (10 : Int32))), .unset, .unset, .unset] [(.int (9 : Int32)), (.ref b1), (.ref b1)])) rfl (hb hby at_73)
  obtain ⟨cl49, Ar49, qq49, Sz49, Nn49, Hs49, Gg49⟩ := id Vw45
  have hin49_76 : ¬ ((9 : Int32) < 0 ∨ cl49.slots.size ≤ ((9 : Int32)).toNatClampNeg) := inb_of Sz49 ⟨by decide, by decide⟩
  have f51 : Exa Z h45 w9 "com/example/castwise/castwise/core/DeclaredType$Name" := (Exa.wr W45 (Exa.wr W40 (Exa.wr W35 (Exa.wr W30 (Exa.wr W25 (Exa.wr W20 (Exa.wr W15 (Exa.wr W10 (Exa.wr W5 (Exa.ext E1 E_w9))))))))))
  obtain ⟨T50, h50, X50, e50, W50, st50⟩ := stR X48 hx hZ e48 Ar49 (j := (9 : Int32)) hin49_76 rfl (Sto.ofV Ar49 qq49 O1 (Ins.self f51)) (g := (mkF m 76 #[.val (.int p1), .val (.int ((p1 &&& (2147483647 : Int32)) % (10 : Int32))), .unset, .unset, .unset] [(.ref w9), (.int (9 : Int32)), (.ref b1), (.ref b1)])) rfl rfl (hb hby at_76)
  have N50 := Fr.snoc X50 N45 g_b1
  have Kc50 : Keep h0 h50 [] := Kc45.wr W50 (Or.inr sz_b1)
  have Vw50 : Arv Z h50 b1 k1 (.object "com/example/castwise/castwise/core/DeclaredType$Name") (10 : Int32) [(.ref w0), (.ref w1), (.ref w2), (.ref w3), (.ref w4), (.ref w5), (.ref w6), (.ref w7), (.ref w8), (.ref w9)] .null := Arv.set Ar49 qq49 Sz49 Nn49 Hs49 Gg49 rfl W50 9 rfl (Nat.le_of_ble_eq_true rfl)
  obtain ⟨cl52, Ar52, qq52, Sz52, Nn52, Hs52, Gg52⟩ := id Vw50
  have hin52_80 : ¬ (((p1 &&& (2147483647 : Int32)) % (10 : Int32)) < 0 ∨ cl52.slots.size ≤ (((p1 &&& (2147483647 : Int32)) % (10 : Int32))).toNatClampNeg) := inb_of Sz52 ⟨hlo, hhi⟩
  have hat52_80 : cl52.slots[(((p1 &&& (2147483647 : Int32)) % (10 : Int32))).toNatClampNeg]? = some (.ref w) := Has.at Hs52 hin52_80 hsel
  have f54 : Sta Z h50 "com/example/castwise/castwise/core/DeclaredType$Name" "BIGINT" "Lcom/example/castwise/castwise/core/DeclaredType$Name;" (.ref w7) := (Sta.wr W50 (Sta.wr W45 (Sta.wr W40 f37)))
  have f55 : Sta Z h50 "com/example/castwise/castwise/core/DeclaredType$Name" "DOUBLE_PRECISION" "Lcom/example/castwise/castwise/core/DeclaredType$Name;" (.ref w8) := (Sta.wr W50 (Sta.wr W45 f42))
  have f56 : Sta Z h50 "com/example/castwise/castwise/core/DeclaredType$Name" "BOOLEAN" "Lcom/example/castwise/castwise/core/DeclaredType$Name;" (.ref w9) := (Sta.wr W50 f47)
  have f57 : Exa Z h50 w "com/example/castwise/castwise/core/DeclaredType$Name" := (Exa.wr W50 (Exa.wr W45 (Exa.wr W40 (Exa.wr W35 (Exa.wr W30 (Exa.wr W25 (Exa.wr W20 (Exa.wr W15 (Exa.wr W10 (Exa.wr W5 (Exa.ext E1 E_w)))))))))))
  obtain ⟨cq53, kq53, q53a, q53b, q53c⟩ := isOf hZ e50 f57
  obtain ⟨_, _, ⟨T53, L53, k53, n53⟩, -, X53, ⟨Lc53, hQ53, l53, y53, z53⟩, st53⟩ := X50.virtualBack hx (y := (⟨"com/example/castwise/castwise/core/DeclaredType$Name", "isCastOnly", "()Z"⟩ : MethodName)) (z := (⟨"com/example/castwise/castwise/core/DeclaredType$Name", "isCastOnly", "()Z"⟩ : MethodName)) hown (mvT hZ (hw _ (List.mem_of_getElem? (i := 25) rfl))) (mvT hZ (hw _ (List.mem_of_getElem? (i := 26) rfl))) (notFace_of_selects (args := #[]) (mvT hZ (hw _ (List.mem_of_getElem? (i := 28) rfl)))) (mvT hZ (hw _ (List.mem_of_getElem? (i := 28) rfl))) (mvT hZ (hw _ (List.mem_of_getElem? (i := 27) rfl))) (by decide) (backOf (W := 0) (rm_co l Z a0 hw [] w w7 w8 w9 (1 : Int32) h50 n0 (Nat.le_trans Z0 Kc50.1) f54 f55 f56 hret) hZ (hw _ (List.mem_of_getElem? (i := 29) rfl)) (hw _ (List.mem_of_getElem? (i := 4) rfl)) (by decide) (by decide)) q53a q53c (g := (mkF m 122 #[.val (.int p1), .val (.int ((p1 &&& (2147483647 : Int32)) % (10 : Int32))), .val (.ref b1), .val (.ref w), .val (.int (1 : Int32))] [(.ref w)])) rfl (by rw [hml]; rfl) (Steps.refl _) (argsL := []) (rest := []) (lenOf pd__28_29Z rfl) rfl (by show 2 * 0 + _ ≤ _; exact Nat.le_of_eq rfl) (hb hby at_122) (fun _ _ => ⟨rfl, e50, (by decide : 1 + 0 ≤ _), (by decide : 10 + 0 ≤ _)⟩)
  dsimp only [Pt.U, Pt.locs, Pt.cells, Pt.slots] at X53 l53 y53 z53 st53 hQ53
  subst l53 y53 z53
  obtain ⟨rfl, N53q, e53⟩ := hQ53
  have N53 := Fr.app N50 N53q
  obtain ⟨fs, hr, hrun, hended, hW, hsame⟩ := X53.leave (v := some (.int (1 : Int32))) (fun h => by rw [Bd.returns] at h; cases h)
  refine ⟨_, _, pre0 _ ?_, hrun, hended, _, _, rfl, ?_, ⟨_, rfl⟩, hW, hsame.mono (by decide) (by decide)⟩
  · show Steps p.tables e below (s₁.setTop (mkF m 0 #[.val (.int p1), .unset, .unset, .unset, .unset] [])) _
    refine XS.iloadN X0.here hx rfl (hb hby at_0) rfl ?_
    show Steps p.tables e below (s₁.setTop (mkF m 1 #[.val (.int p1), .unset, .unset, .unset, .unset] [(.int p1)])) _
    refine X0.ldcInt hx hown (mvT hZ (hw _ (List.mem_of_getElem? (i := 0) rfl))) (g := (mkF m 1 #[.val (.int p1), .unset, .unset, .unset, .unset] [(.int p1)])) rfl (hb hby at_1) _ ?_
    show Steps p.tables e below (s₁.setTop (mkF m 3 #[.val (.int p1), .unset, .unset, .unset, .unset] [(.int (2147483647 : Int32)), (.int p1)])) _
    refine XS.iand X0.here hx rfl (hb hby at_3) rfl ?_
    show Steps p.tables e below (s₁.setTop (mkF m 4 #[.val (.int p1), .unset, .unset, .unset, .unset] [(.int (p1 &&& (2147483647 : Int32)))])) _
    refine XS.bipush X0.here hx rfl (hb hby at_4) ?_
    show Steps p.tables e below (s₁.setTop (mkF m 6 #[.val (.int p1), .unset, .unset, .unset, .unset] [(.int (10 : Int32)), (.int (p1 &&& (2147483647 : Int32)))])) _
    refine iremM (g := (mkF m 6 #[.val (.int p1), .unset, .unset, .unset, .unset] [(.int (10 : Int32)), (.int (p1 &&& (2147483647 : Int32)))])) X0 hx rfl (hb hby at_6) rfl (by decide) ?_
    show Steps p.tables e below (s₁.setTop (mkF m 7 #[.val (.int p1), .unset, .unset, .unset, .unset] [(.int ((p1 &&& (2147483647 : Int32)) % (10 : Int32)))])) _
    refine XS.istoreN X0.here hx rfl (hb hby at_7) rfl (l' := #[.val (.int p1), .val (.int ((p1 &&& (2147483647 : Int32)) % (10 : Int32))), .unset, .unset, .unset]) rfl ?_
    show Steps p.tables e below (s₁.setTop (mkF m 8 #[.val (.int p1), .val (.int ((p1 &&& (2147483647 : Int32)) % (10 : Int32))), .unset, .unset, .unset] [])) _
    refine XS.bipush X0.here hx rfl (hb hby at_8) ?_
    show Steps p.tables e below (s₁.setTop (mkF m 10 #[.val (.int p1), .val (.int ((p1 &&& (2147483647 : Int32)) % (10 : Int32))), .unset, .unset, .unset] [(.int (10 : Int32))])) _
    refine st1 _ ?_
    show Steps p.tables e below (T1.setTop (mkF m 13 #[.val (.int p1), .val (.int ((p1 &&& (2147483647 : Int32)) % (10 : Int32))), .unset, .unset, .unset] [(.ref b1)])) _
    refine XS.dup X1.here hx rfl (hb hby at_13) rfl rfl ?_
    show Steps p.tables e below (T1.setTop (mkF m 14 #[.val (.int p1), .val (.int ((p1 &&& (2147483647 : Int32)) % (10 : Int32))), .unset, .unset, .unset] [(.ref b1), (.ref b1)])) _
    refine XS.iconst X1.here hx rfl (hb hby at_14) ?_
    show Steps p.tables e below (T1.setTop (mkF m 15 #[.val (.int p1), .val (.int ((p1 &&& (2147483647 : Int32)) % (10 : Int32))), .unset, .unset, .unset] [(.int (0 : Int32)), (.ref b1), (.ref b1)])) _
    refine st3 _ ?_
    show Steps p.tables e below (T3.setTop (mkF m 18 #[.val (.int p1), .val (.int ((p1 &&& (2147483647 : Int32)) % (10 : Int32))), .unset, .unset, .unset] [(.ref w0), (.int (0 : Int32)), (.ref b1), (.ref b1)])) _
    refine st5 _ ?_
    show Steps p.tables e below (T5.setTop (mkF m 19 #[.val (.int p1), .val (.int ((p1 &&& (2147483647 : Int32)) % (10 : Int32))), .unset, .unset, .unset] [(.ref b1)])) _
    refine XS.dup X5.here hx rfl (hb hby at_19) rfl rfl ?_
    show Steps p.tables e below (T5.setTop (mkF m 20 #[.val (.int p1), .val (.int ((p1 &&& (2147483647 : Int32)) % (10 : Int32))), .unset, .unset, .unset] [(.ref b1), (.ref b1)])) _
    refine XS.iconst X5.here hx rfl (hb hby at_20) ?_
    show Steps p.tables e below (T5.setTop (mkF m 21 #[.val (.int p1), .val (.int ((p1 &&& (2147483647 : Int32)) % (10 : Int32))), .unset, .unset, .unset] [(.int (1 : Int32)), (.ref b1), (.ref b1)])) _
    refine st8 _ ?_
    show Steps p.tables e below (T8.setTop (mkF m 24 #[.val (.int p1), .val (.int ((p1 &&& (2147483647 : Int32)) % (10 : Int32))), .unset, .unset, .unset] [(.ref w1), (.int (1 : Int32)), (.ref b1), (.ref b1)])) _
    refine st10 _ ?_
    show Steps p.tables e below (T10.setTop (mkF m 25 #[.val (.int p1), .val (.int ((p1 &&& (2147483647 : Int32)) % (10 : Int32))), .unset, .unset, .unset] [(.ref b1)])) _
    refine XS.dup X10.here hx rfl (hb hby at_25) rfl rfl ?_
    show Steps p.tables e below (T10.setTop (mkF m 26 #[.val (.int p1), .val (.int ((p1 &&& (2147483647 : Int32)) % (10 : Int32))), .unset, .unset, .unset] [(.ref b1), (.ref b1)])) _
    refine XS.iconst X10.here hx rfl (hb hby at_26) ?_
    show Steps p.tables e below (T10.setTop (mkF m 27 #[.val (.int p1), .val (.int ((p1 &&& (2147483647 : Int32)) % (10 : Int32))), .unset, .unset, .unset] [(.int (2 : Int32)), (.ref b1), (.ref b1)])) _
    refine st13 _ ?_
    show Steps p.tables e below (T13.setTop (mkF m 30 #[.val (.int p1), .val (.int ((p1 &&& (2147483647 : Int32)) % (10 : Int32))), .unset, .unset, .unset] [(.ref w2), (.int (2 : Int32)), (.ref b1), (.ref b1)])) _
    refine st15 _ ?_
    show Steps p.tables e below (T15.setTop (mkF m 31 #[.val (.int p1), .val (.int ((p1 &&& (2147483647 : Int32)) % (10 : Int32))), .unset, .unset, .unset] [(.ref b1)])) _
    refine XS.dup X15.here hx rfl (hb hby at_31) rfl rfl ?_
    show Steps p.tables e below (T15.setTop (mkF m 32 #[.val (.int p1), .val (.int ((p1 &&& (2147483647 : Int32)) % (10 : Int32))), .unset, .unset, .unset] [(.ref b1), (.ref b1)])) _
    refine XS.iconst X15.here hx rfl (hb hby at_32) ?_
    show Steps p.tables e below (T15.setTop (mkF m 33 #[.val (.int p1), .val (.int ((p1 &&& (2147483647 : Int32)) % (10 : Int32))), .unset, .unset, .unset] [(.int (3 : Int32)), (.ref b1), (.ref b1)])) _
    refine st18 _ ?_
    show Steps p.tables e below (T18.setTop (mkF m 36 #[.val (.int p1), .val (.int ((p1 &&& (2147483647 : Int32)) % (10 : Int32))), .unset, .unset, .unset] [(.ref w3), (.int (3 : Int32)), (.ref b1), (.ref b1)])) _
    refine st20 _ ?_
    show Steps p.tables e below (T20.setTop (mkF m 37 #[.val (.int p1), .val (.int ((p1 &&& (2147483647 : Int32)) % (10 : Int32))), .unset, .unset, .unset] [(.ref b1)])) _
    refine XS.dup X20.here hx rfl (hb hby at_37) rfl rfl ?_
    show Steps p.tables e below (T20.setTop (mkF m 38 #[.val (.int p1), .val (.int ((p1 &&& (2147483647 : Int32)) % (10 : Int32))), .unset, .unset, .unset] [(.ref b1), (.ref b1)])) _
    refine XS.iconst X20.here hx rfl (hb hby at_38) ?_
    show Steps p.tables e below (T20.setTop (mkF m 39 #[.val (.int p1), .val (.int ((p1 &&& (2147483647 : Int32)) % (10 : Int32))), .unset, .unset, .unset] [(.int (4 : Int32)), (.ref b1), (.ref b1)])) _
    refine st23 _ ?_
    show Steps p.tables e below (T23.setTop (mkF m 42 #[.val (.int p1), .val (.int ((p1 &&& (2147483647 : Int32)) % (10 : Int32))), .unset, .unset, .unset] [(.ref w4), (.int (4 : Int32)), (.ref b1), (.ref b1)])) _
    refine st25 _ ?_
    show Steps p.tables e below (T25.setTop (mkF m 43 #[.val (.int p1), .val (.int ((p1 &&& (2147483647 : Int32)) % (10 : Int32))), .unset, .unset, .unset] [(.ref b1)])) _
    refine XS.dup X25.here hx rfl (hb hby at_43) rfl rfl ?_
    show Steps p.tables e below (T25.setTop (mkF m 44 #[.val (.int p1), .val (.int ((p1 &&& (2147483647 : Int32)) % (10 : Int32))), .unset, .unset, .unset] [(.ref b1), (.ref b1)])) _
    refine XS.iconst X25.here hx rfl (hb hby at_44) ?_
    show Steps p.tables e below (T25.setTop (mkF m 45 #[.val (.int p1), .val (.int ((p1 &&& (2147483647 : Int32)) % (10 : Int32))), .unset, .unset, .unset] [(.int (5 : Int32)), (.ref b1), (.ref b1)])) _
    refine st28 _ ?_
    show Steps p.tables e below (T28.setTop (mkF m 48 #[.val (.int p1), .val (.int ((p1 &&& (2147483647 : Int32)) % (10 : Int32))), .unset, .unset, .unset] [(.ref w5), (.int (5 : Int32)), (.ref b1), (.ref b1)])) _
    refine st30 _ ?_
    show Steps p.tables e below (T30.setTop (mkF m 49 #[.val (.int p1), .val (.int ((p1 &&& (2147483647 : Int32)) % (10 : Int32))), .unset, .unset, .unset] [(.ref b1)])) _
    refine XS.dup X30.here hx rfl (hb hby at_49) rfl rfl ?_
    show Steps p.tables e below (T30.setTop (mkF m 50 #[.val (.int p1), .val (.int ((p1 &&& (2147483647 : Int32)) % (10 : Int32))), .unset, .unset, .unset] [(.ref b1), (.ref b1)])) _
    refine XS.bipush X30.here hx rfl (hb hby at_50) ?_
    show Steps p.tables e below (T30.setTop (mkF m 52 #[.val (.int p1), .val (.int ((p1 &&& (2147483647 : Int32)) % (10 : Int32))), .unset, .unset, .unset] [(.int (6 : Int32)), (.ref b1), (.ref b1)])) _
    refine st33 _ ?_
    show Steps p.tables e below (T33.setTop (mkF m 55 #[.val (.int p1), .val (.int ((p1 &&& (2147483647 : Int32)) % (10 : Int32))), .unset, .unset, .unset] [(.ref w6), (.int (6 : Int32)), (.ref b1), (.ref b1)])) _
    refine st35 _ ?_
    show Steps p.tables e below (T35.setTop (mkF m 56 #[.val (.int p1), .val (.int ((p1 &&& (2147483647 : Int32)) % (10 : Int32))), .unset, .unset, .unset] [(.ref b1)])) _
    refine XS.dup X35.here hx rfl (hb hby at_56) rfl rfl ?_
    show Steps p.tables e below (T35.setTop (mkF m 57 #[.val (.int p1), .val (.int ((p1 &&& (2147483647 : Int32)) % (10 : Int32))), .unset, .unset, .unset] [(.ref b1), (.ref b1)])) _
    refine XS.bipush X35.here hx rfl (hb hby at_57) ?_
    show Steps p.tables e below (T35.setTop (mkF m 59 #[.val (.int p1), .val (.int ((p1 &&& (2147483647 : Int32)) % (10 : Int32))), .unset, .unset, .unset] [(.int (7 : Int32)), (.ref b1), (.ref b1)])) _
    refine st38 _ ?_
    show Steps p.tables e below (T38.setTop (mkF m 62 #[.val (.int p1), .val (.int ((p1 &&& (2147483647 : Int32)) % (10 : Int32))), .unset, .unset, .unset] [(.ref w7), (.int (7 : Int32)), (.ref b1), (.ref b1)])) _
    refine st40 _ ?_
    show Steps p.tables e below (T40.setTop (mkF m 63 #[.val (.int p1), .val (.int ((p1 &&& (2147483647 : Int32)) % (10 : Int32))), .unset, .unset, .unset] [(.ref b1)])) _
    refine XS.dup X40.here hx rfl (hb hby at_63) rfl rfl ?_
    show Steps p.tables e below (T40.setTop (mkF m 64 #[.val (.int p1), .val (.int ((p1 &&& (2147483647 : Int32)) % (10 : Int32))), .unset, .unset, .unset] [(.ref b1), (.ref b1)])) _
    refine XS.bipush X40.here hx rfl (hb hby at_64) ?_
    show Steps p.tables e below (T40.setTop (mkF m 66 #[.val (.int p1), .val (.int ((p1 &&& (2147483647 : Int32)) % (10 : Int32))), .unset, .unset, .unset] [(.int (8 : Int32)), (.ref b1), (.ref b1)])) _
    refine st43 _ ?_
    show Steps p.tables e below (T43.setTop (mkF m 69 #[.val (.int p1), .val (.int ((p1 &&& (2147483647 : Int32)) % (10 : Int32))), .unset, .unset, .unset] [(.ref w8), (.int (8 : Int32)), (.ref b1), (.ref b1)])) _
    refine st45 _ ?_
    show Steps p.tables e below (T45.setTop (mkF m 70 #[.val (.int p1), .val (.int ((p1 &&& (2147483647 : Int32)) % (10 : Int32))), .unset, .unset, .unset] [(.ref b1)])) _
    refine XS.dup X45.here hx rfl (hb hby at_70) rfl rfl ?_
    show Steps p.tables e below (T45.setTop (mkF m 71 #[.val (.int p1), .val (.int ((p1 &&& (2147483647 : Int32)) % (10 : Int32))), .unset, .unset, .unset] [(.ref b1), (.ref b1)])) _
    refine XS.bipush X45.here hx rfl (hb hby at_71) ?_
    show Steps p.tables e below (T45.setTop (mkF m 73 #[.val (.int p1), .val (.int ((p1 &&& (2147483647 : Int32)) % (10 : Int32))), .unset, .unset, .unset] [(.int (9 : Int32)), (.ref b1), (.ref b1)])) _
    refine st48 _ ?_
    show Steps p.tables e below (T48.setTop (mkF m 76 #[.val (.int p1), .val (.int ((p1 &&& (2147483647 : Int32)) % (10 : Int32))), .unset, .unset, .unset] [(.ref w9), (.int (9 : Int32)), (.ref b1), (.ref b1)])) _
    refine st50 _ ?_
    show Steps p.tables e below (T50.setTop (mkF m 77 #[.val (.int p1), .val (.int ((p1 &&& (2147483647 : Int32)) % (10 : Int32))), .unset, .unset, .unset] [(.ref b1)])) _
    refine XS.astoreN X50.here hx rfl (hb hby at_77) rfl rfl (l' := #[.val (.int p1), .val (.int ((p1 &&& (2147483647 : Int32)) % (10 : Int32))), .val (.ref b1), .unset, .unset]) rfl ?_
    show Steps p.tables e below (T50.setTop (mkF m 78 #[.val (.int p1), .val (.int ((p1 &&& (2147483647 : Int32)) % (10 : Int32))), .val (.ref b1), .unset, .unset] [])) _
    refine XS.aloadN X50.here hx rfl (hb hby at_78) rfl rfl ?_
    show Steps p.tables e below (T50.setTop (mkF m 79 #[.val (.int p1), .val (.int ((p1 &&& (2147483647 : Int32)) % (10 : Int32))), .val (.ref b1), .unset, .unset] [(.ref b1)])) _
    refine XS.iloadN X50.here hx rfl (hb hby at_79) rfl ?_
    show Steps p.tables e below (T50.setTop (mkF m 80 #[.val (.int p1), .val (.int ((p1 &&& (2147483647 : Int32)) % (10 : Int32))), .val (.ref b1), .unset, .unset] [(.int ((p1 &&& (2147483647 : Int32)) % (10 : Int32))), (.ref b1)])) _
    refine X50.aaload hx (j := ((p1 &&& (2147483647 : Int32)) % (10 : Int32))) (v := (.ref w)) (by rw [e50]; exact Ar52.1) (State.isArrayOf_alike hZ.alike Ar52.2.1) rfl Ar52.2.2 hin52_80 hat52_80 (g := (mkF m 80 #[.val (.int p1), .val (.int ((p1 &&& (2147483647 : Int32)) % (10 : Int32))), .val (.ref b1), .unset, .unset] [(.int ((p1 &&& (2147483647 : Int32)) % (10 : Int32))), (.ref b1)])) rfl rfl (hb hby at_80) _ ?_
    show Steps p.tables e below (T50.setTop (mkF m 81 #[.val (.int p1), .val (.int ((p1 &&& (2147483647 : Int32)) % (10 : Int32))), .val (.ref b1), .unset, .unset] [(.ref w)])) _
    refine XS.astoreN X50.here hx rfl (hb hby at_81) rfl rfl (l' := #[.val (.int p1), .val (.int ((p1 &&& (2147483647 : Int32)) % (10 : Int32))), .val (.ref b1), .val (.ref w), .unset]) rfl ?_
    show Steps p.tables e below (T50.setTop (mkF m 82 #[.val (.int p1), .val (.int ((p1 &&& (2147483647 : Int32)) % (10 : Int32))), .val (.ref b1), .val (.ref w), .unset] [])) _
    refine XS.iloadN X50.here hx rfl (hb hby at_82) rfl ?_
    show Steps p.tables e below (T50.setTop (mkF m 83 #[.val (.int p1), .val (.int ((p1 &&& (2147483647 : Int32)) % (10 : Int32))), .val (.ref b1), .val (.ref w), .unset] [(.int ((p1 &&& (2147483647 : Int32)) % (10 : Int32)))])) _
    refine XS.bipush X50.here hx rfl (hb hby at_83) ?_
    show Steps p.tables e below (T50.setTop (mkF m 85 #[.val (.int p1), .val (.int ((p1 &&& (2147483647 : Int32)) % (10 : Int32))), .val (.ref b1), .val (.ref w), .unset] [(.int (7 : Int32)), (.int ((p1 &&& (2147483647 : Int32)) % (10 : Int32)))])) _
    refine XS.icmpYes X50.here hx rfl (pc0 := 85) (pc' := 94) rfl (hb hby at_85) rfl (feq (hc85 : ¬ (((p1 &&& (2147483647 : Int32)) % (10 : Int32)) = (7 : Int32)))).2 (by decide) (by decide) ?_
    show Steps p.tables e below (T50.setTop (mkF m 94 #[.val (.int p1), .val (.int ((p1 &&& (2147483647 : Int32)) % (10 : Int32))), .val (.ref b1), .val (.ref w), .unset] [])) _
    refine XS.iloadN X50.here hx rfl (hb hby at_94) rfl ?_
    show Steps p.tables e below (T50.setTop (mkF m 95 #[.val (.int p1), .val (.int ((p1 &&& (2147483647 : Int32)) % (10 : Int32))), .val (.ref b1), .val (.ref w), .unset] [(.int ((p1 &&& (2147483647 : Int32)) % (10 : Int32)))])) _
    refine XS.bipush X50.here hx rfl (hb hby at_95) ?_
    show Steps p.tables e below (T50.setTop (mkF m 97 #[.val (.int p1), .val (.int ((p1 &&& (2147483647 : Int32)) % (10 : Int32))), .val (.ref b1), .val (.ref w), .unset] [(.int (8 : Int32)), (.int ((p1 &&& (2147483647 : Int32)) % (10 : Int32)))])) _
    refine XS.icmpYes X50.here hx rfl (pc0 := 97) (pc' := 106) rfl (hb hby at_97) rfl (feq (hc97 : ¬ (((p1 &&& (2147483647 : Int32)) % (10 : Int32)) = (8 : Int32)))).2 (by decide) (by decide) ?_
    show Steps p.tables e below (T50.setTop (mkF m 106 #[.val (.int p1), .val (.int ((p1 &&& (2147483647 : Int32)) % (10 : Int32))), .val (.ref b1), .val (.ref w), .unset] [])) _
    refine XS.iloadN X50.here hx rfl (hb hby at_106) rfl ?_
    show Steps p.tables e below (T50.setTop (mkF m 107 #[.val (.int p1), .val (.int ((p1 &&& (2147483647 : Int32)) % (10 : Int32))), .val (.ref b1), .val (.ref w), .unset] [(.int ((p1 &&& (2147483647 : Int32)) % (10 : Int32)))])) _
    refine XS.bipush X50.here hx rfl (hb hby at_107) ?_
    show Steps p.tables e below (T50.setTop (mkF m 109 #[.val (.int p1), .val (.int ((p1 &&& (2147483647 : Int32)) % (10 : Int32))), .val (.ref b1), .val (.ref w), .unset] [(.int (9 : Int32)), (.int ((p1 &&& (2147483647 : Int32)) % (10 : Int32)))])) _
    refine XS.icmpNo X50.here hx rfl (hb hby at_109) rfl (teq (hc109 : ((p1 &&& (2147483647 : Int32)) % (10 : Int32)) = (9 : Int32))).2 ?_
    show Steps p.tables e below (T50.setTop (mkF m 112 #[.val (.int p1), .val (.int ((p1 &&& (2147483647 : Int32)) % (10 : Int32))), .val (.ref b1), .val (.ref w), .unset] [])) _
    refine XS.iconst X50.here hx rfl (hb hby at_112) ?_
    show Steps p.tables e below (T50.setTop (mkF m 113 #[.val (.int p1), .val (.int ((p1 &&& (2147483647 : Int32)) % (10 : Int32))), .val (.ref b1), .val (.ref w), .unset] [(.int (1 : Int32))])) _
    refine XS.istore X50.here hx rfl (hb hby at_113) rfl (l' := #[.val (.int p1), .val (.int ((p1 &&& (2147483647 : Int32)) % (10 : Int32))), .val (.ref b1), .val (.ref w), .val (.int (1 : Int32))]) rfl ?_
    show Steps p.tables e below (T50.setTop (mkF m 115 #[.val (.int p1), .val (.int ((p1 &&& (2147483647 : Int32)) % (10 : Int32))), .val (.ref b1), .val (.ref w), .val (.int (1 : Int32))] [])) _
    refine XS.goto X50.here hx rfl (pc0 := 115) (pc' := 121) rfl (hb hby at_115) (by decide) (by decide) ?_
    show Steps p.tables e below (T50.setTop (mkF m 121 #[.val (.int p1), .val (.int ((p1 &&& (2147483647 : Int32)) % (10 : Int32))), .val (.ref b1), .val (.ref w), .val (.int (1 : Int32))] [])) _
    refine XS.aloadN X50.here hx rfl (hb hby at_121) rfl rfl ?_
    show Steps p.tables e below (T50.setTop (mkF m 122 #[.val (.int p1), .val (.int ((p1 &&& (2147483647 : Int32)) % (10 : Int32))), .val (.ref b1), .val (.ref w), .val (.int (1 : Int32))] [(.ref w)])) _
    refine st53.trans ?_
    show Steps p.tables e below (T53.setTop (mkF m 125 #[.val (.int p1), .val (.int ((p1 &&& (2147483647 : Int32)) % (10 : Int32))), .val (.ref b1), .val (.ref w), .val (.int (1 : Int32))] [(.int (1 : Int32))])) _
    refine XS.iload X53.here hx rfl (hb hby at_125) rfl ?_
    show Steps p.tables e below (T53.setTop (mkF m 127 #[.val (.int p1), .val (.int ((p1 &&& (2147483647 : Int32)) % (10 : Int32))), .val (.ref b1), .val (.ref w), .val (.int (1 : Int32))] [(.int (1 : Int32)), (.int (1 : Int32))])) _
    refine XS.icmpNo X53.here hx rfl (hb hby at_127) rfl (teq ((by decide) : (1 : Int32) = (1 : Int32))).2 ?_
    show Steps p.tables e below (T53.setTop (mkF m 130 #[.val (.int p1), .val (.int ((p1 &&& (2147483647 : Int32)) % (10 : Int32))), .val (.ref b1), .val (.ref w), .val (.int (1 : Int32))] [])) _
    refine XS.iconst X53.here hx rfl (hb hby at_130) ?_
    show Steps p.tables e below (T53.setTop (mkF m 131 #[.val (.int p1), .val (.int ((p1 &&& (2147483647 : Int32)) % (10 : Int32))), .val (.ref b1), .val (.ref w), .val (.int (1 : Int32))] [(.int (1 : Int32))])) _
    refine XS.goto X53.here hx rfl (pc0 := 131) (pc' := 135) rfl (hb hby at_131) (by decide) (by decide) ?_
    show Steps p.tables e below (T53.setTop (mkF m 135 #[.val (.int p1), .val (.int ((p1 &&& (2147483647 : Int32)) % (10 : Int32))), .val (.ref b1), .val (.ref w), .val (.int (1 : Int32))] [(.int (1 : Int32))])) _
    exact retN X53 hx (t := .boolean) Bd.returns (by simp) (hb hby at_135) hr
  · show Q_law Z p1 w0 w1 w2 w3 w4 w5 w6 w7 w8 w9 w h0 n0 _ T53.heap _
    rw [e53]
    exact ⟨rfl, N53⟩
set_option maxRecDepth 65536 in
set_option maxHeartbeats 40000000 in
theorem rm_law_x (l : Launch) (Z : State) (a0 : Array Value) (hw : ∀ d ∈ tables_1, d.before a0 Z = true) (ws : List Jvm.Cond) (p1 : Int32) (w0 : Addr) (w1 : Addr) (w2 : Addr) (w3 : Addr) (w4 : Addr) (w5 : Addr) (w6 : Addr) (w7 : Addr) (w8 : Addr) (w9 : Addr) (w : Addr) (h0 : Heap) (n0 : Nat) (Z0 : n0 ≤ h0.size) (S_INT : Sta Z h0 "com/example/castwise/castwise/core/DeclaredType$Name" "INT" "Lcom/example/castwise/castwise/core/DeclaredType$Name;" (.ref w0)) (S_INTEGER : Sta Z h0 "com/example/castwise/castwise/core/DeclaredType$Name" "INTEGER" "Lcom/example/castwise/castwise/core/DeclaredType$Name;" (.ref w1)) (S_DECIMAL : Sta Z h0 "com/example/castwise/castwise/core/DeclaredType$Name" "DECIMAL" "Lcom/example/castwise/castwise/core/DeclaredType$Name;" (.ref w2)) (S_NUMERIC : Sta Z h0 "com/example/castwise/castwise/core/DeclaredType$Name" "NUMERIC" "Lcom/example/castwise/castwise/core/DeclaredType$Name;" (.ref w3)) (S_REAL : Sta Z h0 "com/example/castwise/castwise/core/DeclaredType$Name" "REAL" "Lcom/example/castwise/castwise/core/DeclaredType$Name;" (.ref w4)) (S_VARCHAR : Sta Z h0 "com/example/castwise/castwise/core/DeclaredType$Name" "VARCHAR" "Lcom/example/castwise/castwise/core/DeclaredType$Name;" (.ref w5)) (S_TEXT : Sta Z h0 "com/example/castwise/castwise/core/DeclaredType$Name" "TEXT" "Lcom/example/castwise/castwise/core/DeclaredType$Name;" (.ref w6)) (S_BIGINT : Sta Z h0 "com/example/castwise/castwise/core/DeclaredType$Name" "BIGINT" "Lcom/example/castwise/castwise/core/DeclaredType$Name;" (.ref w7)) (S_DOUBLE_PRECISION : Sta Z h0 "com/example/castwise/castwise/core/DeclaredType$Name" "DOUBLE_PRECISION" "Lcom/example/castwise/castwise/core/DeclaredType$Name;" (.ref w8)) (S_BOOLEAN : Sta Z h0 "com/example/castwise/castwise/core/DeclaredType$Name" "BOOLEAN" "Lcom/example/castwise/castwise/core/DeclaredType$Name;" (.ref w9)) (E_w0 : Exa Z h0 w0 "com/example/castwise/castwise/core/DeclaredType$Name") (E_w1 : Exa Z h0 w1 "com/example/castwise/castwise/core/DeclaredType$Name") (E_w2 : Exa Z h0 w2 "com/example/castwise/castwise/core/DeclaredType$Name") (E_w3 : Exa Z h0 w3 "com/example/castwise/castwise/core/DeclaredType$Name") (E_w4 : Exa Z h0 w4 "com/example/castwise/castwise/core/DeclaredType$Name") (E_w5 : Exa Z h0 w5 "com/example/castwise/castwise/core/DeclaredType$Name") (E_w6 : Exa Z h0 w6 "com/example/castwise/castwise/core/DeclaredType$Name") (E_w7 : Exa Z h0 w7 "com/example/castwise/castwise/core/DeclaredType$Name") (E_w8 : Exa Z h0 w8 "com/example/castwise/castwise/core/DeclaredType$Name") (E_w9 : Exa Z h0 w9 "com/example/castwise/castwise/core/DeclaredType$Name") (E_w : Exa Z h0 w "com/example/castwise/castwise/core/DeclaredType$Name") (hlo : ¬ ((p1 &&& (2147483647 : Int32)) % (10 : Int32)) < 0) (hhi : ((p1 &&& (2147483647 : Int32)) % (10 : Int32)) < 10) (hsel : List.getD [(Value.ref w0), (Value.ref w1), (Value.ref w2), (Value.ref w3), (Value.ref w4), (Value.ref w5), (Value.ref w6), (Value.ref w7), (Value.ref w8), (Value.ref w9)] (((p1 &&& (2147483647 : Int32)) % (10 : Int32))).toNatClampNeg .null = .ref w) (hret : (0 : Int32) = if w = w7 ∨ w = w8 ∨ w = w9 then 1 else 0) (hc85 : ¬ (((p1 &&& (2147483647 : Int32)) % (10 : Int32)) = (7 : Int32))) (hc97 : ¬ (((p1 &&& (2147483647 : Int32)) % (10 : Int32)) = (8 : Int32))) (hc109 : ¬ (((p1 &&& (2147483647 : Int32)) % (10 : Int32)) = (9 : Int32))) :
    MetFree l x (head1 (Jvm.Cond.code x code maxLocals ret :: ws) room_1) (fun a_ U => a_ = #[(.int p1)] ∧ Z.Warmed39 U.vm ∧ U.heap = h0) (fun _ _ _ _ _ => True) (fun _ U o U' => ∃ v L, o = .returned v ∧ Q_law Z p1 w0 w1 w2 w3 w4 w5 w6 w7 w8 w9 w h0 n0 v U'.heap L ∧ FrameEnd U o U' L room_1.cells room_1.slots) := by
  refine MetFree.of_bodySF (plainFor_of_name pn_0) hisR ?_
  intro p e s m args below meth c s₁ Bd hml0 hP hK
  obtain ⟨rfl, hZ, hh⟩ := hP
  have hx := Bd.exec
  have hby := Bd.bytes
  have hml : c.maxLocals = 5 := hml0
  have hown : s.vm.findClass "com/example/castwise/castwise/core/NameIsCastOnlyPinLaw" = some m.cls := findClass_of_methodNamed Bd.named
  have hnm := (name_of_methodNamed Bd.named Bd.method).1
  have X0 : Stand p l e room_1 s m #[(.int p1)] below meth c s₁ [] 0 0 := Stand.of_body Bd
  have e0 : s₁.heap = h0 := by rw [← hh, Bd.state]; rfl
  have N0 := Fr.nil n0
  have pre0 : ∀ t, Steps p.tables e below (s₁.setTop (mkF m 0 #[.val (.int p1), .unset, .unset, .unset, .unset] [])) t → Steps p.tables e below (s₁.setTop (entryFrame m #[(.int p1)] maxLocals)) t := fun t_ k_ => castTop (ef_law m p1) k_
  obtain ⟨T1, h1, k1, X1, e1, E1, A1, O1, st1⟩ := newR X0 hx hZ hown (hw _ (List.mem_of_getElem? (i := 1) rfl)) (hw _ (List.mem_of_getElem? (i := 2) rfl)) e0 (g := (mkF m 10 #[.val (.int p1), .val (.int ((p1 &&& (2147483647 : Int32)) % (10 : Int32))), .unset, .unset, .unset] [(.int (10 : Int32))])) rfl (hb hby at_10) rfl (by decide) (cap := 10) (by decide) (by decide) (by decide) (by decide)
  obtain ⟨b1, g1⟩ : ∃ z, z = h0.size := ⟨_, rfl⟩
  rw [← g1] at A1 st1
  have sz_b1 : h0.size ≤ b1 := Nat.le_trans (Keep.refl h0 []).1 (Nat.le_of_eq g1.symm)
  have g_b1 : n0 ≤ b1 := Nat.le_trans Z0 sz_b1
  have Kc1 : Keep h0 h1 [] := (Keep.refl h0 []).ext E1
  have V_b1 : Arv Z h1 b1 k1 (.object "com/example/castwise/castwise/core/DeclaredType$Name") (10 : Int32) [.null, .null, .null, .null, .null, .null, .null, .null, .null, .null] .null := (Arv.new A1 (by decide)).pad (pad_rep [] .null 10)
  have f2 : Sta Z h1 "com/example/castwise/castwise/core/DeclaredType$Name" "INT" "Lcom/example/castwise/castwise/core/DeclaredType$Name;" (.ref w0) := (Sta.ext E1 S_INT)
  obtain ⟨T3, X3, e3, st3⟩ := getS2 X1 hx hZ hown (host := "") (Or.inl (hw _ (List.mem_of_getElem? (i := 3) rfl))) Via.refl e1 f2 (g := (mkF m 15 #[.val (.int p1), .val (.int ((p1 &&& (2147483647 : Int32)) % (10 : Int32))), .unset, .unset, .unset] [(.int (0 : Int32)), (.ref b1), (.ref b1)])) rfl (hb hby at_15)
  obtain ⟨cl4, Ar4, qq4, Sz4, Nn4, Hs4, Gg4⟩ := id V_b1
  have hin4_18 : ¬ ((0 : Int32) < 0 ∨ cl4.slots.size ≤ ((0 : Int32)).toNatClampNeg) := inb_of Sz4 ⟨by decide, by decide⟩
  have f6 : Exa Z h1 w0 "com/example/castwise/castwise/core/DeclaredType$Name" := (Exa.ext E1 E_w0)
  obtain ⟨T5, h5, X5, e5, W5, st5⟩ := stR X3 hx hZ e3 Ar4 (j := (0 : Int32)) hin4_18 rfl (Sto.ofV Ar4 qq4 O1 (Ins.self f6)) (g := (mkF m 18 #[.val (.int p1), .val (.int ((p1 &&& (2147483647 : Int32)) % (10 : Int32))), .unset, .unset, .unset] [(.ref w0), (.int (0 : Int32)), (.ref b1), (.ref b1)])) rfl rfl (hb hby at_18)
  have N5 := Fr.snoc X5 N0 g_b1
  have Kc5 : Keep h0 h5 [] := Kc1.wr W5 (Or.inr sz_b1)
  have Vw5 : Arv Z h5 b1 k1 (.object "com/example/castwise/castwise/core/DeclaredType$Name") (10 : Int32) [(.ref w0), .null, .null, .null, .null, .null, .null, .null, .null, .null] .null := Arv.set Ar4 qq4 Sz4 Nn4 Hs4 Gg4 rfl W5 0 rfl (Nat.le_of_ble_eq_true rfl)
  have f7 : Sta Z h5 "com/example/castwise/castwise/core/DeclaredType$Name" "INTEGER" "Lcom/example/castwise/castwise/core/DeclaredType$Name;" (.ref w1) := (Sta.wr W5 (Sta.ext E1 S_INTEGER))
  obtain ⟨T8, X8, e8, st8⟩ := getS2 X5 hx hZ hown (host := "") (Or.inl (hw _ (List.mem_of_getElem? (i := 7) rfl))) Via.refl e5 f7 (g := (mkF m 21 #[.val (.int p1), .val (.int ((p1 &&& (2147483647 : Int32)) % (10 : Int32))), .unset, .unset, .unset] [(.int (1 : Int32)), (.ref b1), (.ref b1)])) rfl (hb hby at_21)
  obtain ⟨cl9, Ar9, qq9, Sz9, Nn9, Hs9, Gg9⟩ := id Vw5
  have hin9_24 : ¬ ((1 : Int32) < 0 ∨ cl9.slots.size ≤ ((1 : Int32)).toNatClampNeg) := inb_of Sz9 ⟨by decide, by decide⟩
  have f11 : Exa Z h5 w1 "com/example/castwise/castwise/core/DeclaredType$Name" := (Exa.wr W5 (Exa.ext E1 E_w1))
  obtain ⟨T10, h10, X10, e10, W10, st10⟩ := stR X8 hx hZ e8 Ar9 (j := (1 : Int32)) hin9_24 rfl (Sto.ofV Ar9 qq9 O1 (Ins.self f11)) (g := (mkF m 24 #[.val (.int p1), .val (.int ((p1 &&& (2147483647 : Int32)) % (10 : Int32))), .unset, .unset, .unset] [(.ref w1), (.int (1 : Int32)), (.ref b1), (.ref b1)])) rfl rfl (hb hby at_24)
  have N10 := Fr.snoc X10 N5 g_b1
  have Kc10 : Keep h0 h10 [] := Kc5.wr W10 (Or.inr sz_b1)
  have Vw10 : Arv Z h10 b1 k1 (.object "com/example/castwise/castwise/core/DeclaredType$Name") (10 : Int32) [(.ref w0), (.ref w1), .null, .null, .null, .null, .null, .null, .null, .null] .null := Arv.set Ar9 qq9 Sz9 Nn9 Hs9 Gg9 rfl W10 1 rfl (Nat.le_of_ble_eq_true rfl)
  have f12 : Sta Z h10 "com/example/castwise/castwise/core/DeclaredType$Name" "DECIMAL" "Lcom/example/castwise/castwise/core/DeclaredType$Name;" (.ref w2) := (Sta.wr W10 (Sta.wr W5 (Sta.ext E1 S_DECIMAL)))
  obtain ⟨T13, X13, e13, st13⟩ := getS2 X10 hx hZ hown (host := "") (Or.inl (hw _ (List.mem_of_getElem? (i := 9) rfl))) Via.refl e10 f12 (g := (mkF m 27 #[.val (.int p1), .val (.int ((p1 &&& (2147483647 : Int32)) % (10 : Int32))), .unset, .unset, .unset] [(.int (2 : Int32)), (.ref b1), (.ref b1)])) rfl (hb hby at_27)
  obtain ⟨cl14, Ar14, qq14, Sz14, Nn14, Hs14, Gg14⟩ := id Vw10
  have hin14_30 : ¬ ((2 : Int32) < 0 ∨ cl14.slots.size ≤ ((2 : Int32)).toNatClampNeg) := inb_of Sz14 ⟨by decide, by decide⟩
  have f16 : Exa Z h10 w2 "com/example/castwise/castwise/core/DeclaredType$Name" := (Exa.wr W10 (Exa.wr W5 (Exa.ext E1 E_w2)))
  obtain ⟨T15, h15, X15, e15, W15, st15⟩ := stR X13 hx hZ e13 Ar14 (j := (2 : Int32)) hin14_30 rfl (Sto.ofV Ar14 qq14 O1 (Ins.self f16)) (g := (mkF m 30 #[.val (.int p1), .val (.int ((p1 &&& (2147483647 : Int32)) % (10 : Int32))), .unset, .unset, .unset] [(.ref w2), (.int (2 : Int32)), (.ref b1), (.ref b1)])) rfl rfl (hb hby at_30)
  have N15 := Fr.snoc X15 N10 g_b1
  have Kc15 : Keep h0 h15 [] := Kc10.wr W15 (Or.inr sz_b1)
  have Vw15 : Arv Z h15 b1 k1 (.object "com/example/castwise/castwise/core/DeclaredType$Name") (10 : Int32) [(.ref w0), (.ref w1), (.ref w2), .null, .null, .null, .null, .null, .null, .null] .null := Arv.set Ar14 qq14 Sz14 Nn14 Hs14 Gg14 rfl W15 2 rfl (Nat.le_of_ble_eq_true rfl)
  have f17 : Sta Z h15 "com/example/castwise/castwise/core/DeclaredType$Name" "NUMERIC" "Lcom/example/castwise/castwise/core/DeclaredType$Name;" (.ref w3) := (Sta.wr W15 (Sta.wr W10 (Sta.wr W5 (Sta.ext E1 S_NUMERIC))))
  obtain ⟨T18, X18, e18, st18⟩ := getS2 X15 hx hZ hown (host := "") (Or.inl (hw _ (List.mem_of_getElem? (i := 11) rfl))) Via.refl e15 f17 (g := (mkF m 33 #[.val (.int p1), .val (.int ((p1 &&& (2147483647 : Int32)) % (10 : Int32))), .unset, .unset, .unset] [(.int (3 : Int32)), (.ref b1), (.ref b1)])) rfl (hb hby at_33)
  obtain ⟨cl19, Ar19, qq19, Sz19, Nn19, Hs19, Gg19⟩ := id Vw15
  have hin19_36 : ¬ ((3 : Int32) < 0 ∨ cl19.slots.size ≤ ((3 : Int32)).toNatClampNeg) := inb_of Sz19 ⟨by decide, by decide⟩
  have f21 : Exa Z h15 w3 "com/example/castwise/castwise/core/DeclaredType$Name" := (Exa.wr W15 (Exa.wr W10 (Exa.wr W5 (Exa.ext E1 E_w3))))
  obtain ⟨T20, h20, X20, e20, W20, st20⟩ := stR X18 hx hZ e18 Ar19 (j := (3 : Int32)) hin19_36 rfl (Sto.ofV Ar19 qq19 O1 (Ins.self f21)) (g := (mkF m 36 #[.val (.int p1), .val (.int ((p1 &&& (2147483647 : Int32)) % (10 : Int32))), .unset, .unset, .unset] [(.ref w3), (.int (3 : Int32)), (.ref b1), (.ref b1)])) rfl rfl (hb hby at_36)
  have N20 := Fr.snoc X20 N15 g_b1
  have Kc20 : Keep h0 h20 [] := Kc15.wr W20 (Or.inr sz_b1)
  have Vw20 : Arv Z h20 b1 k1 (.object "com/example/castwise/castwise/core/DeclaredType$Name") (10 : Int32) [(.ref w0), (.ref w1), (.ref w2), (.ref w3), .null, .null, .null, .null, .null, .null] .null := Arv.set Ar19 qq19 Sz19 Nn19 Hs19 Gg19 rfl W20 3 rfl (Nat.le_of_ble_eq_true rfl)
  have f22 : Sta Z h20 "com/example/castwise/castwise/core/DeclaredType$Name" "REAL" "Lcom/example/castwise/castwise/core/DeclaredType$Name;" (.ref w4) := (Sta.wr W20 (Sta.wr W15 (Sta.wr W10 (Sta.wr W5 (Sta.ext E1 S_REAL)))))
  obtain ⟨T23, X23, e23, st23⟩ := getS2 X20 hx hZ hown (host := "") (Or.inl (hw _ (List.mem_of_getElem? (i := 13) rfl))) Via.refl e20 f22 (g := (mkF m 39 #[.val (.int p1), .val (.int ((p1 &&& (2147483647 : Int32)) % (10 : Int32))), .unset, .unset, .unset] [(.int (4 : Int32)), (.ref b1), (.ref b1)])) rfl (hb hby at_39)
  obtain ⟨cl24, Ar24, qq24, Sz24, Nn24, Hs24, Gg24⟩ := id Vw20
  have hin24_42 : ¬ ((4 : Int32) < 0 ∨ cl24.slots.size ≤ ((4 : Int32)).toNatClampNeg) := inb_of Sz24 ⟨by decide, by decide⟩
  have f26 : Exa Z h20 w4 "com/example/castwise/castwise/core/DeclaredType$Name" := (Exa.wr W20 (Exa.wr W15 (Exa.wr W10 (Exa.wr W5 (Exa.ext E1 E_w4)))))
  obtain ⟨T25, h25, X25, e25, W25, st25⟩ := stR X23 hx hZ e23 Ar24 (j := (4 : Int32)) hin24_42 rfl (Sto.ofV Ar24 qq24 O1 (Ins.self f26)) (g := (mkF m 42 #[.val (.int p1), .val (.int ((p1 &&& (2147483647 : Int32)) % (10 : Int32))), .unset, .unset, .unset] [(.ref w4), (.int (4 : Int32)), (.ref b1), (.ref b1)])) rfl rfl (hb hby at_42)
  have N25 := Fr.snoc X25 N20 g_b1
  have Kc25 : Keep h0 h25 [] := Kc20.wr W25 (Or.inr sz_b1)
  have Vw25 : Arv Z h25 b1 k1 (.object "com/example/castwise/castwise/core/DeclaredType$Name") (10 : Int32) [(.ref w0), (.ref w1), (.ref w2), (.ref w3), (.ref w4), .null, .null, .null, .null, .null] .null := Arv.set Ar24 qq24 Sz24 Nn24 Hs24 Gg24 rfl W25 4 rfl (Nat.le_of_ble_eq_true rfl)
  have f27 : Sta Z h25 "com/example/castwise/castwise/core/DeclaredType$Name" "VARCHAR" "Lcom/example/castwise/castwise/core/DeclaredType$Name;" (.ref w5) := (Sta.wr W25 (Sta.wr W20 (Sta.wr W15 (Sta.wr W10 (Sta.wr W5 (Sta.ext E1 S_VARCHAR))))))
  obtain ⟨T28, X28, e28, st28⟩ := getS2 X25 hx hZ hown (host := "") (Or.inl (hw _ (List.mem_of_getElem? (i := 15) rfl))) Via.refl e25 f27 (g := (mkF m 45 #[.val (.int p1), .val (.int ((p1 &&& (2147483647 : Int32)) % (10 : Int32))), .unset, .unset, .unset] [(.int (5 : Int32)), (.ref b1), (.ref b1)])) rfl (hb hby at_45)
  obtain ⟨cl29, Ar29, qq29, Sz29, Nn29, Hs29, Gg29⟩ := id Vw25
  have hin29_48 : ¬ ((5 : Int32) < 0 ∨ cl29.slots.size ≤ ((5 : Int32)).toNatClampNeg) := inb_of Sz29 ⟨by decide, by decide⟩
  have f31 : Exa Z h25 w5 "com/example/castwise/castwise/core/DeclaredType$Name" := (Exa.wr W25 (Exa.wr W20 (Exa.wr W15 (Exa.wr W10 (Exa.wr W5 (Exa.ext E1 E_w5))))))
  obtain ⟨T30, h30, X30, e30, W30, st30⟩ := stR X28 hx hZ e28 Ar29 (j := (5 : Int32)) hin29_48 rfl (Sto.ofV Ar29 qq29 O1 (Ins.self f31)) (g := (mkF m 48 #[.val (.int p1), .val (.int ((p1 &&& (2147483647 : Int32)) % (10 : Int32))), .unset, .unset, .unset] [(.ref w5), (.int (5 : Int32)), (.ref b1), (.ref b1)])) rfl rfl (hb hby at_48)
  have N30 := Fr.snoc X30 N25 g_b1
  have Kc30 : Keep h0 h30 [] := Kc25.wr W30 (Or.inr sz_b1)
  have Vw30 : Arv Z h30 b1 k1 (.object "com/example/castwise/castwise/core/DeclaredType$Name") (10 : Int32) [(.ref w0), (.ref w1), (.ref w2), (.ref w3), (.ref w4), (.ref w5), .null, .null, .null, .null] .null := Arv.set Ar29 qq29 Sz29 Nn29 Hs29 Gg29 rfl W30 5 rfl (Nat.le_of_ble_eq_true rfl)
  have f32 : Sta Z h30 "com/example/castwise/castwise/core/DeclaredType$Name" "TEXT" "Lcom/example/castwise/castwise/core/DeclaredType$Name;" (.ref w6) := (Sta.wr W30 (Sta.wr W25 (Sta.wr W20 (Sta.wr W15 (Sta.wr W10 (Sta.wr W5 (Sta.ext E1 S_TEXT)))))))
  obtain ⟨T33, X33, e33, st33⟩ := getS2 X30 hx hZ hown (host := "") (Or.inl (hw _ (List.mem_of_getElem? (i := 17) rfl))) Via.refl e30 f32 (g := (mkF m 52 #[.val (.int p1), .val (.int ((p1 &&& (2147483647 : Int32)) % (10 : Int32))), .unset, .unset, .unset] [(.int (6 : Int32)), (.ref b1), (.ref b1)])) rfl (hb hby at_52)
  obtain ⟨cl34, Ar34, qq34, Sz34, Nn34, Hs34, Gg34⟩ := id Vw30
  have hin34_55 : ¬ ((6 : Int32) < 0 ∨ cl34.slots.size ≤ ((6 : Int32)).toNatClampNeg) := inb_of Sz34 ⟨by decide, by decide⟩
  have f36 : Exa Z h30 w6 "com/example/castwise/castwise/core/DeclaredType$Name" := (Exa.wr W30 (Exa.wr W25 (Exa.wr W20 (Exa.wr W15 (Exa.wr W10 (Exa.wr W5 (Exa.ext E1 E_w6)))))))
  obtain ⟨T35, h35, X35, e35, W35, st35⟩ := stR X33 hx hZ e33 Ar34 (j := (6 : Int32)) hin34_55 rfl (Sto.ofV Ar34 qq34 O1 (Ins.self f36)) (g := (mkF m 55 #[.val (.int p1), .val (.int ((p1 &&& (2147483647 : Int32)) % (10 : Int32))), .unset, .unset, .unset] [(.ref w6), (.int (6 : Int32)), (.ref b1), (.ref b1)])) rfl rfl (hb hby at_55)
  have N35 := Fr.snoc X35 N30 g_b1
  have Kc35 : Keep h0 h35 [] := Kc30.wr W35 (Or.inr sz_b1)
  have Vw35 : Arv Z h35 b1 k1 (.object "com/example/castwise/castwise/core/DeclaredType$Name") (10 : Int32) [(.ref w0), (.ref w1), (.ref w2), (.ref w3), (.ref w4), (.ref w5), (.ref w6), .null, .null, .null] .null := Arv.set Ar34 qq34 Sz34 Nn34 Hs34 Gg34 rfl W35 6 rfl (Nat.le_of_ble_eq_true rfl)
  have f37 : Sta Z h35 "com/example/castwise/castwise/core/DeclaredType$Name" "BIGINT" "Lcom/example/castwise/castwise/core/DeclaredType$Name;" (.ref w7) := (Sta.wr W35 (Sta.wr W30 (Sta.wr W25 (Sta.wr W20 (Sta.wr W15 (Sta.wr W10 (Sta.wr W5 (Sta.ext E1 S_BIGINT))))))))
  obtain ⟨T38, X38, e38, st38⟩ := getS2 X35 hx hZ hown (host := "") (Or.inl (hw _ (List.mem_of_getElem? (i := 19) rfl))) Via.refl e35 f37 (g := (mkF m 59 #[.val (.int p1), .val (.int ((p1 &&& (2147483647 : Int32)) % (10 : Int32))), .unset, .unset, .unset] [(.int (7 : Int32)), (.ref b1), (.ref b1)])) rfl (hb hby at_59)
  obtain ⟨cl39, Ar39, qq39, Sz39, Nn39, Hs39, Gg39⟩ := id Vw35
  have hin39_62 : ¬ ((7 : Int32) < 0 ∨ cl39.slots.size ≤ ((7 : Int32)).toNatClampNeg) := inb_of Sz39 ⟨by decide, by decide⟩
  have f41 : Exa Z h35 w7 "com/example/castwise/castwise/core/DeclaredType$Name" := (Exa.wr W35 (Exa.wr W30 (Exa.wr W25 (Exa.wr W20 (Exa.wr W15 (Exa.wr W10 (Exa.wr W5 (Exa.ext E1 E_w7))))))))
  obtain ⟨T40, h40, X40, e40, W40, st40⟩ := stR X38 hx hZ e38 Ar39 (j := (7 : Int32)) hin39_62 rfl (Sto.ofV Ar39 qq39 O1 (Ins.self f41)) (g := (mkF m 62 #[.val (.int p1), .val (.int ((p1 &&& (2147483647 : Int32)) % (10 : Int32))), .unset, .unset, .unset] [(.ref w7), (.int (7 : Int32)), (.ref b1), (.ref b1)])) rfl rfl (hb hby at_62)
  have N40 := Fr.snoc X40 N35 g_b1
  have Kc40 : Keep h0 h40 [] := Kc35.wr W40 (Or.inr sz_b1)
  have Vw40 : Arv Z h40 b1 k1 (.object "com/example/castwise/castwise/core/DeclaredType$Name") (10 : Int32) [(.ref w0), (.ref w1), (.ref w2), (.ref w3), (.ref w4), (.ref w5), (.ref w6), (.ref w7), .null, .null] .null := Arv.set Ar39 qq39 Sz39 Nn39 Hs39 Gg39 rfl W40 7 rfl (Nat.le_of_ble_eq_true rfl)
  have f42 : Sta Z h40 "com/example/castwise/castwise/core/DeclaredType$Name" "DOUBLE_PRECISION" "Lcom/example/castwise/castwise/core/DeclaredType$Name;" (.ref w8) := (Sta.wr W40 (Sta.wr W35 (Sta.wr W30 (Sta.wr W25 (Sta.wr W20 (Sta.wr W15 (Sta.wr W10 (Sta.wr W5 (Sta.ext E1 S_DOUBLE_PRECISION)))))))))
  obtain ⟨T43, X43, e43, st43⟩ := getS2 X40 hx hZ hown (host := "") (Or.inl (hw _ (List.mem_of_getElem? (i := 21) rfl))) Via.refl e40 f42 (g := (mkF m 66 #[.val (.int p1), .val (.int ((p1 &&& (2147483647 : Int32)) % (10 : Int32))), .unset, .unset, .unset] [(.int (8 : Int32)), (.ref b1), (.ref b1)])) rfl (hb hby at_66)
  obtain ⟨cl44, Ar44, qq44, Sz44, Nn44, Hs44, Gg44⟩ := id Vw40
  have hin44_69 : ¬ ((8 : Int32) < 0 ∨ cl44.slots.size ≤ ((8 : Int32)).toNatClampNeg) := inb_of Sz44 ⟨by decide, by decide⟩
  have f46 : Exa Z h40 w8 "com/example/castwise/castwise/core/DeclaredType$Name" := (Exa.wr W40 (Exa.wr W35 (Exa.wr W30 (Exa.wr W25 (Exa.wr W20 (Exa.wr W15 (Exa.wr W10 (Exa.wr W5 (Exa.ext E1 E_w8)))))))))
  obtain ⟨T45, h45, X45, e45, W45, st45⟩ := stR X43 hx hZ e43 Ar44 (j := (8 : Int32)) hin44_69 rfl (Sto.ofV Ar44 qq44 O1 (Ins.self f46)) (g := (mkF m 69 #[.val (.int p1), .val (.int ((p1 &&& (2147483647 : Int32)) % (10 : Int32))), .unset, .unset, .unset] [(.ref w8), (.int (8 : Int32)), (.ref b1), (.ref b1)])) rfl rfl (hb hby at_69)
  have N45 := Fr.snoc X45 N40 g_b1
  have Kc45 : Keep h0 h45 [] := Kc40.wr W45 (Or.inr sz_b1)
  have Vw45 : Arv Z h45 b1 k1 (.object "com/example/castwise/castwise/core/DeclaredType$Name") (10 : Int32) [(.ref w0), (.ref w1), (.ref w2), (.ref w3), (.ref w4), (.ref w5), (.ref w6), (.ref w7), (.ref w8), .null] .null := Arv.set Ar44 qq44 Sz44 Nn44 Hs44 Gg44 rfl W45 8 rfl (Nat.le_of_ble_eq_true rfl)
  have f47 : Sta Z h45 "com/example/castwise/castwise/core/DeclaredType$Name" "BOOLEAN" "Lcom/example/castwise/castwise/core/DeclaredType$Name;" (.ref w9) := (Sta.wr W45 (Sta.wr W40 (Sta.wr W35 (Sta.wr W30 (Sta.wr W25 (Sta.wr W20 (Sta.wr W15 (Sta.wr W10 (Sta.wr W5 (Sta.ext E1 S_BOOLEAN))))))))))
  obtain ⟨T48, X48, e48, st48⟩ := getS2 X45 hx hZ hown (host := "") (Or.inl (hw _ (List.mem_of_getElem? (i := 23) rfl))) Via.refl e45 f47 (g := (mkF m 73 #[.val (.int p1), .val (.int ((p1 &&& (2147483647 : Int32)) % (10 : Int32))), .unset, .unset, .unset] [(.int (9 : Int32)), (.ref b1), (.ref b1)])) rfl (hb hby at_73)
  obtain ⟨cl49, Ar49, qq49, Sz49, Nn49, Hs49, Gg49⟩ := id Vw45
  have hin49_76 : ¬ ((9 : Int32) < 0 ∨ cl49.slots.size ≤ ((9 : Int32)).toNatClampNeg) := inb_of Sz49 ⟨by decide, by decide⟩
  have f51 : Exa Z h45 w9 "com/example/castwise/castwise/core/DeclaredType$Name" := (Exa.wr W45 (Exa.wr W40 (Exa.wr W35 (Exa.wr W30 (Exa.wr W25 (Exa.wr W20 (Exa.wr W15 (Exa.wr W10 (Exa.wr W5 (Exa.ext E1 E_w9))))))))))
  obtain ⟨T50, h50, X50, e50, W50, st50⟩ := stR X48 hx hZ e48 Ar49 (j := (9 : Int32)) hin49_76 rfl (Sto.ofV Ar49 qq49 O1 (Ins.self f51)) (g := (mkF m 76 #[.val (.int p1), .val (.int ((p1 &&& (2147483647 : Int32)) % (10 : Int32))), .unset, .unset, .unset] [(.ref w9), (.int (9 : Int32)), (.ref b1), (.ref b1)])) rfl rfl (hb hby at_76)
  have N50 := Fr.snoc X50 N45 g_b1
  have Kc50 : Keep h0 h50 [] := Kc45.wr W50 (Or.inr sz_b1)
  have Vw50 : Arv Z h50 b1 k1 (.object "com/example/castwise/castwise/core/DeclaredType$Name") (10 : Int32) [(.ref w0), (.ref w1), (.ref w2), (.ref w3), (.ref w4), (.ref w5), (.ref w6), (.ref w7), (.ref w8), (.ref w9)] .null := Arv.set Ar49 qq49 Sz49 Nn49 Hs49 Gg49 rfl W50 9 rfl (Nat.le_of_ble_eq_true rfl)
  obtain ⟨cl52, Ar52, qq52, Sz52, Nn52, Hs52, Gg52⟩ := id Vw50
  have hin52_80 : ¬ (((p1 &&& (2147483647 : Int32)) % (10 : Int32)) < 0 ∨ cl52.slots.size ≤ (((p1 &&& (2147483647 : Int32)) % (10 : Int32))).toNatClampNeg) := inb_of Sz52 ⟨hlo, hhi⟩
  have hat52_80 : cl52.slots[(((p1 &&& (2147483647 : Int32)) % (10 : Int32))).toNatClampNeg]? = some (.ref w) := Has.at Hs52 hin52_80 hsel
  have f54 : Sta Z h50 "com/example/castwise/castwise/core/DeclaredType$Name" "BIGINT" "Lcom/example/castwise/castwise/core/DeclaredType$Name;" (.ref w7) := (Sta.wr W50 (Sta.wr W45 (Sta.wr W40 f37)))
  have f55 : Sta Z h50 "com/example/castwise/castwise/core/DeclaredType$Name" "DOUBLE_PRECISION" "Lcom/example/castwise/castwise/core/DeclaredType$Name;" (.ref w8) := (Sta.wr W50 (Sta.wr W45 f42))
  have f56 : Sta Z h50 "com/example/castwise/castwise/core/DeclaredType$Name" "BOOLEAN" "Lcom/example/castwise/castwise/core/DeclaredType$Name;" (.ref w9) := (Sta.wr W50 f47)
  have f57 : Exa Z h50 w "com/example/castwise/castwise/core/DeclaredType$Name" := (Exa.wr W50 (Exa.wr W45 (Exa.wr W40 (Exa.wr W35 (Exa.wr W30 (Exa.wr W25 (Exa.wr W20 (Exa.wr W15 (Exa.wr W10 (Exa.wr W5 (Exa.ext E1 E_w)))))))))))
  obtain ⟨cq53, kq53, q53a, q53b, q53c⟩ := isOf hZ e50 f57
  obtain ⟨_, _, ⟨T53, L53, k53, n53⟩, -, X53, ⟨Lc53, hQ53, l53, y53, z53⟩, st53⟩ := X50.virtualBack hx (y := (⟨"com/example/castwise/castwise/core/DeclaredType$Name", "isCastOnly", "()Z"⟩ : MethodName)) (z := (⟨"com/example/castwise/castwise/core/DeclaredType$Name", "isCastOnly", "()Z"⟩ : MethodName)) hown (mvT hZ (hw _ (List.mem_of_getElem? (i := 25) rfl))) (mvT hZ (hw _ (List.mem_of_getElem? (i := 26) rfl))) (notFace_of_selects (args := #[]) (mvT hZ (hw _ (List.mem_of_getElem? (i := 28) rfl)))) (mvT hZ (hw _ (List.mem_of_getElem? (i := 28) rfl))) (mvT hZ (hw _ (List.mem_of_getElem? (i := 27) rfl))) (by decide) (backOf (W := 0) (rm_co l Z a0 hw [] w w7 w8 w9 (0 : Int32) h50 n0 (Nat.le_trans Z0 Kc50.1) f54 f55 f56 hret) hZ (hw _ (List.mem_of_getElem? (i := 29) rfl)) (hw _ (List.mem_of_getElem? (i := 4) rfl)) (by decide) (by decide)) q53a q53c (g := (mkF m 122 #[.val (.int p1), .val (.int ((p1 &&& (2147483647 : Int32)) % (10 : Int32))), .val (.ref b1), .val (.ref w), .val (.int (0 : Int32))] [(.ref w)])) rfl (by rw [hml]; rfl) (Steps.refl _) (argsL := []) (rest := []) (lenOf pd__28_29Z rfl) rfl (by show 2 * 0 + _ ≤ _; exact Nat.le_of_eq rfl) (hb hby at_122) (fun _ _ => ⟨rfl, e50, (by decide : 1 + 0 ≤ _), (by decide : 10 + 0 ≤ _)⟩)
  dsimp only [Pt.U, Pt.locs, Pt.cells, Pt.slots] at X53 l53 y53 z53 st53 hQ53
  subst l53 y53 z53
  obtain ⟨rfl, N53q, e53⟩ := hQ53
  have N53 := Fr.app N50 N53q
  obtain ⟨fs, hr, hrun, hended, hW, hsame⟩ := X53.leave (v := some (.int (1 : Int32))) (fun h => by rw [Bd.returns] at h; cases h)
  refine ⟨_, _, pre0 _ ?_, hrun, hended, _, _, rfl, ?_, ⟨_, rfl⟩, hW, hsame.mono (by decide) (by decide)⟩
  · show Steps p.tables e below (s₁.setTop (mkF m 0 #[.val (.int p1), .unset, .unset, .unset, .unset] [])) _
    refine XS.iloadN X0.here hx rfl (hb hby at_0) rfl ?_
    show Steps p.tables e below (s₁.setTop (mkF m 1 #[.val (.int p1), .unset, .unset, .unset, .unset] [(.int p1)])) _
    refine X0.ldcInt hx hown (mvT hZ (hw _ (List.mem_of_getElem? (i := 0) rfl))) (g := (mkF m 1 #[.val (.int p1), .unset, .unset, .unset, .unset] [(.int p1)])) rfl (hb hby at_1) _ ?_
    show Steps p.tables e below (s₁.setTop (mkF m 3 #[.val (.int p1), .unset, .unset, .unset, .unset] [(.int (2147483647 : Int32)), (.int p1)])) _
    refine XS.iand X0.here hx rfl (hb hby at_3) rfl ?_
    show Steps p.tables e below (s₁.setTop (mkF m 4 #[.val (.int p1), .unset, .unset, .unset, .unset] [(.int (p1 &&& (2147483647 : Int32)))])) _
    refine XS.bipush X0.here hx rfl (hb hby at_4) ?_
    show Steps p.tables e below (s₁.setTop (mkF m 6 #[.val (.int p1), .unset, .unset, .unset, .unset] [(.int (10 : Int32)), (.int (p1 &&& (2147483647 : Int32)))])) _
    refine iremM (g := (mkF m 6 #[.val (.int p1), .unset, .unset, .unset, .unset] [(.int (10 : Int32)), (.int (p1 &&& (2147483647 : Int32)))])) X0 hx rfl (hb hby at_6) rfl (by decide) ?_
    show Steps p.tables e below (s₁.setTop (mkF m 7 #[.val (.int p1), .unset, .unset, .unset, .unset] [(.int ((p1 &&& (2147483647 : Int32)) % (10 : Int32)))])) _
    refine XS.istoreN X0.here hx rfl (hb hby at_7) rfl (l' := #[.val (.int p1), .val (.int ((p1 &&& (2147483647 : Int32)) % (10 : Int32))), .unset, .unset, .unset]) rfl ?_
    show Steps p.tables e below (s₁.setTop (mkF m 8 #[.val (.int p1), .val (.int ((p1 &&& (2147483647 : Int32)) % (10 : Int32))), .unset, .unset, .unset] [])) _
    refine XS.bipush X0.here hx rfl (hb hby at_8) ?_
    show Steps p.tables e below (s₁.setTop (mkF m 10 #[.val (.int p1), .val (.int ((p1 &&& (2147483647 : Int32)) % (10 : Int32))), .unset, .unset, .unset] [(.int (10 : Int32))])) _
    refine st1 _ ?_
    show Steps p.tables e below (T1.setTop (mkF m 13 #[.val (.int p1), .val (.int ((p1 &&& (2147483647 : Int32)) % (10 : Int32))), .unset, .unset, .unset] [(.ref b1)])) _
    refine XS.dup X1.here hx rfl (hb hby at_13) rfl rfl ?_
    show Steps p.tables e below (T1.setTop (mkF m 14 #[.val (.int p1), .val (.int ((p1 &&& (2147483647 : Int32)) % (10 : Int32))), .unset, .unset, .unset] [(.ref b1), (.ref b1)])) _
    refine XS.iconst X1.here hx rfl (hb hby at_14) ?_
    show Steps p.tables e below (T1.setTop (mkF m 15 #[.val (.int p1), .val (.int ((p1 &&& (2147483647 : Int32)) % (10 : Int32))), .unset, .unset, .unset] [(.int (0 : Int32)), (.ref b1), (.ref b1)])) _
    refine st3 _ ?_
    show Steps p.tables e below (T3.setTop (mkF m 18 #[.val (.int p1), .val (.int ((p1 &&& (2147483647 : Int32)) % (10 : Int32))), .unset, .unset, .unset] [(.ref w0), (.int (0 : Int32)), (.ref b1), (.ref b1)])) _
    refine st5 _ ?_
    show Steps p.tables e below (T5.setTop (mkF m 19 #[.val (.int p1), .val (.int ((p1 &&& (2147483647 : Int32)) % (10 : Int32))), .unset, .unset, .unset] [(.ref b1)])) _
    refine XS.dup X5.here hx rfl (hb hby at_19) rfl rfl ?_
    show Steps p.tables e below (T5.setTop (mkF m 20 #[.val (.int p1), .val (.int ((p1 &&& (2147483647 : Int32)) % (10 : Int32))), .unset, .unset, .unset] [(.ref b1), (.ref b1)])) _
    refine XS.iconst X5.here hx rfl (hb hby at_20) ?_
    show Steps p.tables e below (T5.setTop (mkF m 21 #[.val (.int p1), .val (.int ((p1 &&& (2147483647 : Int32)) % (10 : Int32))), .unset, .unset, .unset] [(.int (1 : Int32)), (.ref b1), (.ref b1)])) _
    refine st8 _ ?_
    show Steps p.tables e below (T8.setTop (mkF m 24 #[.val (.int p1), .val (.int ((p1 &&& (2147483647 : Int32)) % (10 : Int32))), .unset, .unset, .unset] [(.ref w1), (.int (1 : Int32)), (.ref b1), (.ref b1)])) _
    refine st10 _ ?_
    show Steps p.tables e below (T10.setTop (mkF m 25 #[.val (.int p1), .val (.int ((p1 &&& (2147483647 : Int32)) % (10 : Int32))), .unset, .unset, .unset] [(.ref b1)])) _
    refine XS.dup X10.here hx rfl (hb hby at_25) rfl rfl ?_
    show Steps p.tables e below (T10.setTop (mkF m 26 #[.val (.int p1), .val (.int ((p1 &&& (2147483647 : Int32)) % (10 : Int32))), .unset, .unset, .unset] [(.ref b1), (.ref b1)])) _
    refine XS.iconst X10.here hx rfl (hb hby at_26) ?_
    show Steps p.tables e below (T10.setTop (mkF m 27 #[.val (.int p1), .val (.int ((p1 &&& (2147483647 : Int32)) % (10 : Int32))), .unset, .unset, .unset] [(.int (2 : Int32)), (.ref b1), (.ref b1)])) _
    refine st13 _ ?_
    show Steps p.tables e below (T13.setTop (mkF m 30 #[.val (.int p1), .val (.int ((p1 &&& (2147483647 : Int32)) % (10 : Int32))), .unset, .unset, .unset] [(.ref w2), (.int (2 : Int32)), (.ref b1), (.ref b1)])) _
    refine st15 _ ?_
    show Steps p.tables e below (T15.setTop (mkF m 31 #[.val (.int p1), .val (.int ((p1 &&& (2147483647 : Int32)) % (10 : Int32))), .unset, .unset, .unset] [(.ref b1)])) _
    refine XS.dup X15.here hx rfl (hb hby at_31) rfl rfl ?_
    show Steps p.tables e below (T15.setTop (mkF m 32 #[.val (.int p1), .val (.int ((p1 &&& (2147483647 : Int32)) % (10 : Int32))), .unset, .unset, .unset] [(.ref b1), (.ref b1)])) _
    refine XS.iconst X15.here hx rfl (hb hby at_32) ?_
    show Steps p.tables e below (T15.setTop (mkF m 33 #[.val (.int p1), .val (.int ((p1 &&& (2147483647 : Int32)) % (10 : Int32))), .unset, .unset, .unset] [(.int (3 : Int32)), (.ref b1), (.ref b1)])) _
    refine st18 _ ?_
    show Steps p.tables e below (T18.setTop (mkF m 36 #[.val (.int p1), .val (.int ((p1 &&& (2147483647 : Int32)) % (10 : Int32))), .unset, .unset, .unset] [(.ref w3), (.int (3 : Int32)), (.ref b1), (.ref b1)])) _
    refine st20 _ ?_
    show Steps p.tables e below (T20.setTop (mkF m 37 #[.val (.int p1), .val (.int ((p1 &&& (2147483647 : Int32)) % (10 : Int32))), .unset, .unset, .unset] [(.ref b1)])) _
    refine XS.dup X20.here hx rfl (hb hby at_37) rfl rfl ?_
    show Steps p.tables e below (T20.setTop (mkF m 38 #[.val (.int p1), .val (.int ((p1 &&& (2147483647 : Int32)) % (10 : Int32))), .unset, .unset, .unset] [(.ref b1), (.ref b1)])) _
    refine XS.iconst X20.here hx rfl (hb hby at_38) ?_
    show Steps p.tables e below (T20.setTop (mkF m 39 #[.val (.int p1), .val (.int ((p1 &&& (2147483647 : Int32)) % (10 : Int32))), .unset, .unset, .unset] [(.int (4 : Int32)), (.ref b1), (.ref b1)])) _
    refine st23 _ ?_
    show Steps p.tables e below (T23.setTop (mkF m 42 #[.val (.int p1), .val (.int ((p1 &&& (2147483647 : Int32)) % (10 : Int32))), .unset, .unset, .unset] [(.ref w4), (.int (4 : Int32)), (.ref b1), (.ref b1)])) _
    refine st25 _ ?_
    show Steps p.tables e below (T25.setTop (mkF m 43 #[.val (.int p1), .val (.int ((p1 &&& (2147483647 : Int32)) % (10 : Int32))), .unset, .unset, .unset] [(.ref b1)])) _
    refine XS.dup X25.here hx rfl (hb hby at_43) rfl rfl ?_
    show Steps p.tables e below (T25.setTop (mkF m 44 #[.val (.int p1), .val (.int ((p1 &&& (2147483647 : Int32)) % (10 : Int32))), .unset, .unset, .unset] [(.ref b1), (.ref b1)])) _
    refine XS.iconst X25.here hx rfl (hb hby at_44) ?_
    show Steps p.tables e below (T25.setTop (mkF m 45 #[.val (.int p1), .val (.int ((p1 &&& (2147483647 : Int32)) % (10 : Int32))), .unset, .unset, .unset] [(.int (5 : Int32)), (.ref b1), (.ref b1)])) _
    refine st28 _ ?_
    show Steps p.tables e below (T28.setTop (mkF m 48 #[.val (.int p1), .val (.int ((p1 &&& (2147483647 : Int32)) % (10 : Int32))), .unset, .unset, .unset] [(.ref w5), (.int (5 : Int32)), (.ref b1), (.ref b1)])) _
    refine st30 _ ?_
    show Steps p.tables e below (T30.setTop (mkF m 49 #[.val (.int p1), .val (.int ((p1 &&& (2147483647 : Int32)) % (10 : Int32))), .unset, .unset, .unset] [(.ref b1)])) _
    refine XS.dup X30.here hx rfl (hb hby at_49) rfl rfl ?_
    show Steps p.tables e below (T30.setTop (mkF m 50 #[.val (.int p1), .val (.int ((p1 &&& (2147483647 : Int32)) % (10 : Int32))), .unset, .unset, .unset] [(.ref b1), (.ref b1)])) _
    refine XS.bipush X30.here hx rfl (hb hby at_50) ?_
    show Steps p.tables e below (T30.setTop (mkF m 52 #[.val (.int p1), .val (.int ((p1 &&& (2147483647 : Int32)) % (10 : Int32))), .unset, .unset, .unset] [(.int (6 : Int32)), (.ref b1), (.ref b1)])) _
    refine st33 _ ?_
    show Steps p.tables e below (T33.setTop (mkF m 55 #[.val (.int p1), .val (.int ((p1 &&& (2147483647 : Int32)) % (10 : Int32))), .unset, .unset, .unset] [(.ref w6), (.int (6 : Int32)), (.ref b1), (.ref b1)])) _
    refine st35 _ ?_
    show Steps p.tables e below (T35.setTop (mkF m 56 #[.val (.int p1), .val (.int ((p1 &&& (2147483647 : Int32)) % (10 : Int32))), .unset, .unset, .unset] [(.ref b1)])) _
    refine XS.dup X35.here hx rfl (hb hby at_56) rfl rfl ?_
    show Steps p.tables e below (T35.setTop (mkF m 57 #[.val (.int p1), .val (.int ((p1 &&& (2147483647 : Int32)) % (10 : Int32))), .unset, .unset, .unset] [(.ref b1), (.ref b1)])) _
    refine XS.bipush X35.here hx rfl (hb hby at_57) ?_
    show Steps p.tables e below (T35.setTop (mkF m 59 #[.val (.int p1), .val (.int ((p1 &&& (2147483647 : Int32)) % (10 : Int32))), .unset, .unset, .unset] [(.int (7 : Int32)), (.ref b1), (.ref b1)])) _
    refine st38 _ ?_
    show Steps p.tables e below (T38.setTop (mkF m 62 #[.val (.int p1), .val (.int ((p1 &&& (2147483647 : Int32)) % (10 : Int32))), .unset, .unset, .unset] [(.ref w7), (.int (7 : Int32)), (.ref b1), (.ref b1)])) _
    refine st40 _ ?_
    show Steps p.tables e below (T40.setTop (mkF m 63 #[.val (.int p1), .val (.int ((p1 &&& (2147483647 : Int32)) % (10 : Int32))), .unset, .unset, .unset] [(.ref b1)])) _
    refine XS.dup X40.here hx rfl (hb hby at_63) rfl rfl ?_
    show Steps p.tables e below (T40.setTop (mkF m 64 #[.val (.int p1), .val (.int ((p1 &&& (2147483647 : Int32)) % (10 : Int32))), .unset, .unset, .unset] [(.ref b1), (.ref b1)])) _
    refine XS.bipush X40.here hx rfl (hb hby at_64) ?_
    show Steps p.tables e below (T40.setTop (mkF m 66 #[.val (.int p1), .val (.int ((p1 &&& (2147483647 : Int32)) % (10 : Int32))), .unset, .unset, .unset] [(.int (8 : Int32)), (.ref b1), (.ref b1)])) _
    refine st43 _ ?_
    show Steps p.tables e below (T43.setTop (mkF m 69 #[.val (.int p1), .val (.int ((p1 &&& (2147483647 : Int32)) % (10 : Int32))), .unset, .unset, .unset] [(.ref w8), (.int (8 : Int32)), (.ref b1), (.ref b1)])) _
    refine st45 _ ?_
    show Steps p.tables e below (T45.setTop (mkF m 70 #[.val (.int p1), .val (.int ((p1 &&& (2147483647 : Int32)) % (10 : Int32))), .unset, .unset, .unset] [(.ref b1)])) _
    refine XS.dup X45.here hx rfl (hb hby at_70) rfl rfl ?_
    show Steps p.tables e below (T45.setTop (mkF m 71 #[.val (.int p1), .val (.int ((p1 &&& (2147483647 : Int32)) % (10 : Int32))), .unset, .unset, .unset] [(.ref b1), (.ref b1)])) _
    refine XS.bipush X45.here hx rfl (hb hby at_71) ?_
    show Steps p.tables e below (T45.setTop (mkF m 73 #[.val (.int p1), .val (.int ((p1 &&& (2147483647 : Int32)) % (10 : Int32))), .unset, .unset, .unset] [(.int (9 : Int32)), (.ref b1), (.ref b1)])) _
    refine st48 _ ?_
    show Steps p.tables e below (T48.setTop (mkF m 76 #[.val (.int p1), .val (.int ((p1 &&& (2147483647 : Int32)) % (10 : Int32))), .unset, .unset, .unset] [(.ref w9), (.int (9 : Int32)), (.ref b1), (.ref b1)])) _
    refine st50 _ ?_
    show Steps p.tables e below (T50.setTop (mkF m 77 #[.val (.int p1), .val (.int ((p1 &&& (2147483647 : Int32)) % (10 : Int32))), .unset, .unset, .unset] [(.ref b1)])) _
    refine XS.astoreN X50.here hx rfl (hb hby at_77) rfl rfl (l' := #[.val (.int p1), .val (.int ((p1 &&& (2147483647 : Int32)) % (10 : Int32))), .val (.ref b1), .unset, .unset]) rfl ?_
    show Steps p.tables e below (T50.setTop (mkF m 78 #[.val (.int p1), .val (.int ((p1 &&& (2147483647 : Int32)) % (10 : Int32))), .val (.ref b1), .unset, .unset] [])) _
    refine XS.aloadN X50.here hx rfl (hb hby at_78) rfl rfl ?_
    show Steps p.tables e below (T50.setTop (mkF m 79 #[.val (.int p1), .val (.int ((p1 &&& (2147483647 : Int32)) % (10 : Int32))), .val (.ref b1), .unset, .unset] [(.ref b1)])) _
    refine XS.iloadN X50.here hx rfl (hb hby at_79) rfl ?_
    show Steps p.tables e below (T50.setTop (mkF m 80 #[.val (.int p1), .val (.int ((p1 &&& (2147483647 : Int32)) % (10 : Int32))), .val (.ref b1), .unset, .unset] [(.int ((p1 &&& (2147483647 : Int32)) % (10 : Int32))), (.ref b1)])) _
    refine X50.aaload hx (j := ((p1 &&& (2147483647 : Int32)) % (10 : Int32))) (v := (.ref w)) (by rw [e50]; exact Ar52.1) (State.isArrayOf_alike hZ.alike Ar52.2.1) rfl Ar52.2.2 hin52_80 hat52_80 (g := (mkF m 80 #[.val (.int p1), .val (.int ((p1 &&& (2147483647 : Int32)) % (10 : Int32))), .val (.ref b1), .unset, .unset] [(.int ((p1 &&& (2147483647 : Int32)) % (10 : Int32))), (.ref b1)])) rfl rfl (hb hby at_80) _ ?_
    show Steps p.tables e below (T50.setTop (mkF m 81 #[.val (.int p1), .val (.int ((p1 &&& (2147483647 : Int32)) % (10 : Int32))), .val (.ref b1), .unset, .unset] [(.ref w)])) _
    refine XS.astoreN X50.here hx rfl (hb hby at_81) rfl rfl (l' := #[.val (.int p1), .val (.int ((p1 &&& (2147483647 : Int32)) % (10 : Int32))), .val (.ref b1), .val (.ref w), .unset]) rfl ?_
    show Steps p.tables e below (T50.setTop (mkF m 82 #[.val (.int p1), .val (.int ((p1 &&& (2147483647 : Int32)) % (10 : Int32))), .val (.ref b1), .val (.ref w), .unset] [])) _
    refine XS.iloadN X50.here hx rfl (hb hby at_82) rfl ?_
    show Steps p.tables e below (T50.setTop (mkF m 83 #[.val (.int p1), .val (.int ((p1 &&& (2147483647 : Int32)) % (10 : Int32))), .val (.ref b1), .val (.ref w), .unset] [(.int ((p1 &&& (2147483647 : Int32)) % (10 : Int32)))])) _
    refine XS.bipush X50.here hx rfl (hb hby at_83) ?_
    show Steps p.tables e below (T50.setTop (mkF m 85 #[.val (.int p1), .val (.int ((p1 &&& (2147483647 : Int32)) % (10 : Int32))), .val (.ref b1), .val (.ref w), .unset] [(.int (7 : Int32)), (.int ((p1 &&& (2147483647 : Int32)) % (10 : Int32)))])) _
    refine XS.icmpYes X50.here hx rfl (pc0 := 85) (pc' := 94) rfl (hb hby at_85) rfl (feq (hc85 : ¬ (((p1 &&& (2147483647 : Int32)) % (10 : Int32)) = (7 : Int32)))).2 (by decide) (by decide) ?_
    show Steps p.tables e below (T50.setTop (mkF m 94 #[.val (.int p1), .val (.int ((p1 &&& (2147483647 : Int32)) % (10 : Int32))), .val (.ref b1), .val (.ref w), .unset] [])) _
    refine XS.iloadN X50.here hx rfl (hb hby at_94) rfl ?_
    show Steps p.tables e below (T50.setTop (mkF m 95 #[.val (.int p1), .val (.int ((p1 &&& (2147483647 : Int32)) % (10 : Int32))), .val (.ref b1), .val (.ref w), .unset] [(.int ((p1 &&& (2147483647 : Int32)) % (10 : Int32)))])) _
    refine XS.bipush X50.here hx rfl (hb hby at_95) ?_
    show Steps p.tables e below (T50.setTop (mkF m 97 #[.val (.int p1), .val (.int ((p1 &&& (2147483647 : Int32)) % (10 : Int32))), .val (.ref b1), .val (.ref w), .unset] [(.int (8 : Int32)), (.int ((p1 &&& (2147483647 : Int32)) % (10 : Int32)))])) _
    refine XS.icmpYes X50.here hx rfl (pc0 := 97) (pc' := 106) rfl (hb hby at_97) rfl (feq (hc97 : ¬ (((p1 &&& (2147483647 : Int32)) % (10 : Int32)) = (8 : Int32)))).2 (by decide) (by decide) ?_
    show Steps p.tables e below (T50.setTop (mkF m 106 #[.val (.int p1), .val (.int ((p1 &&& (2147483647 : Int32)) % (10 : Int32))), .val (.ref b1), .val (.ref w), .unset] [])) _
    refine XS.iloadN X50.here hx rfl (hb hby at_106) rfl ?_
    show Steps p.tables e below (T50.setTop (mkF m 107 #[.val (.int p1), .val (.int ((p1 &&& (2147483647 : Int32)) % (10 : Int32))), .val (.ref b1), .val (.ref w), .unset] [(.int ((p1 &&& (2147483647 : Int32)) % (10 : Int32)))])) _
    refine XS.bipush X50.here hx rfl (hb hby at_107) ?_
    show Steps p.tables e below (T50.setTop (mkF m 109 #[.val (.int p1), .val (.int ((p1 &&& (2147483647 : Int32)) % (10 : Int32))), .val (.ref b1), .val (.ref w), .unset] [(.int (9 : Int32)), (.int ((p1 &&& (2147483647 : Int32)) % (10 : Int32)))])) _
    refine XS.icmpYes X50.here hx rfl (pc0 := 109) (pc' := 118) rfl (hb hby at_109) rfl (feq (hc109 : ¬ (((p1 &&& (2147483647 : Int32)) % (10 : Int32)) = (9 : Int32)))).2 (by decide) (by decide) ?_
    show Steps p.tables e below (T50.setTop (mkF m 118 #[.val (.int p1), .val (.int ((p1 &&& (2147483647 : Int32)) % (10 : Int32))), .val (.ref b1), .val (.ref w), .unset] [])) _
    refine XS.iconst X50.here hx rfl (hb hby at_118) ?_
    show Steps p.tables e below (T50.setTop (mkF m 119 #[.val (.int p1), .val (.int ((p1 &&& (2147483647 : Int32)) % (10 : Int32))), .val (.ref b1), .val (.ref w), .unset] [(.int (0 : Int32))])) _
    refine XS.istore X50.here hx rfl (hb hby at_119) rfl (l' := #[.val (.int p1), .val (.int ((p1 &&& (2147483647 : Int32)) % (10 : Int32))), .val (.ref b1), .val (.ref w), .val (.int (0 : Int32))]) rfl ?_
    show Steps p.tables e below (T50.setTop (mkF m 121 #[.val (.int p1), .val (.int ((p1 &&& (2147483647 : Int32)) % (10 : Int32))), .val (.ref b1), .val (.ref w), .val (.int (0 : Int32))] [])) _
    refine XS.aloadN X50.here hx rfl (hb hby at_121) rfl rfl ?_
    show Steps p.tables e below (T50.setTop (mkF m 122 #[.val (.int p1), .val (.int ((p1 &&& (2147483647 : Int32)) % (10 : Int32))), .val (.ref b1), .val (.ref w), .val (.int (0 : Int32))] [(.ref w)])) _
    refine st53.trans ?_
    show Steps p.tables e below (T53.setTop (mkF m 125 #[.val (.int p1), .val (.int ((p1 &&& (2147483647 : Int32)) % (10 : Int32))), .val (.ref b1), .val (.ref w), .val (.int (0 : Int32))] [(.int (0 : Int32))])) _
    refine XS.iload X53.here hx rfl (hb hby at_125) rfl ?_
    show Steps p.tables e below (T53.setTop (mkF m 127 #[.val (.int p1), .val (.int ((p1 &&& (2147483647 : Int32)) % (10 : Int32))), .val (.ref b1), .val (.ref w), .val (.int (0 : Int32))] [(.int (0 : Int32)), (.int (0 : Int32))])) _
    refine XS.icmpNo X53.here hx rfl (hb hby at_127) rfl (teq ((by decide) : (0 : Int32) = (0 : Int32))).2 ?_
    show Steps p.tables e below (T53.setTop (mkF m 130 #[.val (.int p1), .val (.int ((p1 &&& (2147483647 : Int32)) % (10 : Int32))), .val (.ref b1), .val (.ref w), .val (.int (0 : Int32))] [])) _
    refine XS.iconst X53.here hx rfl (hb hby at_130) ?_
    show Steps p.tables e below (T53.setTop (mkF m 131 #[.val (.int p1), .val (.int ((p1 &&& (2147483647 : Int32)) % (10 : Int32))), .val (.ref b1), .val (.ref w), .val (.int (0 : Int32))] [(.int (1 : Int32))])) _
    refine XS.goto X53.here hx rfl (pc0 := 131) (pc' := 135) rfl (hb hby at_131) (by decide) (by decide) ?_
    show Steps p.tables e below (T53.setTop (mkF m 135 #[.val (.int p1), .val (.int ((p1 &&& (2147483647 : Int32)) % (10 : Int32))), .val (.ref b1), .val (.ref w), .val (.int (0 : Int32))] [(.int (1 : Int32))])) _
    exact retN X53 hx (t := .boolean) Bd.returns (by simp) (hb hby at_135) hr
  · show Q_law Z p1 w0 w1 w2 w3 w4 w5 w6 w7 w8 w9 w h0 n0 _ T53.heap _
    rw [e53]
    exact ⟨rfl, N53⟩
theorem own_idx (p1 : Int32) : (¬ ((p1 &&& (2147483647 : Int32)) % (10 : Int32)) < 0 ∧ ((p1 &&& (2147483647 : Int32)) % (10 : Int32)) < 10) ∧ (((p1 &&& (2147483647 : Int32)) % (10 : Int32)) = 0 ∨ ((p1 &&& (2147483647 : Int32)) % (10 : Int32)) = 1 ∨ ((p1 &&& (2147483647 : Int32)) % (10 : Int32)) = 2 ∨ ((p1 &&& (2147483647 : Int32)) % (10 : Int32)) = 3 ∨ ((p1 &&& (2147483647 : Int32)) % (10 : Int32)) = 4 ∨ ((p1 &&& (2147483647 : Int32)) % (10 : Int32)) = 5 ∨ ((p1 &&& (2147483647 : Int32)) % (10 : Int32)) = 6 ∨ ((p1 &&& (2147483647 : Int32)) % (10 : Int32)) = 7 ∨ ((p1 &&& (2147483647 : Int32)) % (10 : Int32)) = 8 ∨ ((p1 &&& (2147483647 : Int32)) % (10 : Int32)) = 9) := by
  have h1 := c_mask p1 (2147483647 : Int32) 31 (by decide) (by decide)
  have h2 := (c_irem (p1 &&& (2147483647 : Int32)) (10 : Int32) 10 (by decide)).1
  have h3 := rng32 p1
  simp only [← Int32.toInt_inj, Int32.lt_iff_toInt_lt]
  generalize (p1 &&& (2147483647 : Int32)) = y at *
  have e0 : (0 : Int32).toInt = 0 := rfl
  have e1 : (1 : Int32).toInt = 1 := rfl
  have e2 : (2 : Int32).toInt = 2 := rfl
  have e3 : (3 : Int32).toInt = 3 := rfl
  have e4 : (4 : Int32).toInt = 4 := rfl
  have e5 : (5 : Int32).toInt = 5 := rfl
  have e6 : (6 : Int32).toInt = 6 := rfl
  have e7 : (7 : Int32).toInt = 7 := rfl
  have e8 : (8 : Int32).toInt = 8 := rfl
  have e9 : (9 : Int32).toInt = 9 := rfl
  have e10 : (10 : Int32).toInt = 10 := rfl
  have h4 := h2 (by omega)
  omega
def Q_lawj (Z : State) (p1 : Int32) (w0 : Addr) (w1 : Addr) (w2 : Addr) (w3 : Addr) (w4 : Addr) (w5 : Addr) (w6 : Addr) (w7 : Addr) (w8 : Addr) (w9 : Addr) (h0 : Heap) (n0 : Nat) (v : Option Value) (h : Heap) (L : List Loc) : Prop := v = some (.int (1 : Int32)) ∧ Fr n0 L
theorem rm_lawj (l : Launch) (Z : State) (a0 : Array Value) (hw : ∀ d ∈ tables_1, d.before a0 Z = true) (ws : List Jvm.Cond) (p1 : Int32) (w0 : Addr) (w1 : Addr) (w2 : Addr) (w3 : Addr) (w4 : Addr) (w5 : Addr) (w6 : Addr) (w7 : Addr) (w8 : Addr) (w9 : Addr) (h0 : Heap) (n0 : Nat) (Z0 : n0 ≤ h0.size) (S_INT : Sta Z h0 "com/example/castwise/castwise/core/DeclaredType$Name" "INT" "Lcom/example/castwise/castwise/core/DeclaredType$Name;" (.ref w0)) (S_INTEGER : Sta Z h0 "com/example/castwise/castwise/core/DeclaredType$Name" "INTEGER" "Lcom/example/castwise/castwise/core/DeclaredType$Name;" (.ref w1)) (S_DECIMAL : Sta Z h0 "com/example/castwise/castwise/core/DeclaredType$Name" "DECIMAL" "Lcom/example/castwise/castwise/core/DeclaredType$Name;" (.ref w2)) (S_NUMERIC : Sta Z h0 "com/example/castwise/castwise/core/DeclaredType$Name" "NUMERIC" "Lcom/example/castwise/castwise/core/DeclaredType$Name;" (.ref w3)) (S_REAL : Sta Z h0 "com/example/castwise/castwise/core/DeclaredType$Name" "REAL" "Lcom/example/castwise/castwise/core/DeclaredType$Name;" (.ref w4)) (S_VARCHAR : Sta Z h0 "com/example/castwise/castwise/core/DeclaredType$Name" "VARCHAR" "Lcom/example/castwise/castwise/core/DeclaredType$Name;" (.ref w5)) (S_TEXT : Sta Z h0 "com/example/castwise/castwise/core/DeclaredType$Name" "TEXT" "Lcom/example/castwise/castwise/core/DeclaredType$Name;" (.ref w6)) (S_BIGINT : Sta Z h0 "com/example/castwise/castwise/core/DeclaredType$Name" "BIGINT" "Lcom/example/castwise/castwise/core/DeclaredType$Name;" (.ref w7)) (S_DOUBLE_PRECISION : Sta Z h0 "com/example/castwise/castwise/core/DeclaredType$Name" "DOUBLE_PRECISION" "Lcom/example/castwise/castwise/core/DeclaredType$Name;" (.ref w8)) (S_BOOLEAN : Sta Z h0 "com/example/castwise/castwise/core/DeclaredType$Name" "BOOLEAN" "Lcom/example/castwise/castwise/core/DeclaredType$Name;" (.ref w9)) (E_w0 : Exa Z h0 w0 "com/example/castwise/castwise/core/DeclaredType$Name") (E_w1 : Exa Z h0 w1 "com/example/castwise/castwise/core/DeclaredType$Name") (E_w2 : Exa Z h0 w2 "com/example/castwise/castwise/core/DeclaredType$Name") (E_w3 : Exa Z h0 w3 "com/example/castwise/castwise/core/DeclaredType$Name") (E_w4 : Exa Z h0 w4 "com/example/castwise/castwise/core/DeclaredType$Name") (E_w5 : Exa Z h0 w5 "com/example/castwise/castwise/core/DeclaredType$Name") (E_w6 : Exa Z h0 w6 "com/example/castwise/castwise/core/DeclaredType$Name") (E_w7 : Exa Z h0 w7 "com/example/castwise/castwise/core/DeclaredType$Name") (E_w8 : Exa Z h0 w8 "com/example/castwise/castwise/core/DeclaredType$Name") (E_w9 : Exa Z h0 w9 "com/example/castwise/castwise/core/DeclaredType$Name") (ne_w0_w7 : w0 ≠ w7) (ne_w0_w8 : w0 ≠ w8) (ne_w0_w9 : w0 ≠ w9) (ne_w1_w7 : w1 ≠ w7) (ne_w1_w8 : w1 ≠ w8) (ne_w1_w9 : w1 ≠ w9) (ne_w2_w7 : w2 ≠ w7) (ne_w2_w8 : w2 ≠ w8) (ne_w2_w9 : w2 ≠ w9) (ne_w3_w7 : w3 ≠ w7) (ne_w3_w8 : w3 ≠ w8) (ne_w3_w9 : w3 ≠ w9) (ne_w4_w7 : w4 ≠ w7) (ne_w4_w8 : w4 ≠ w8) (ne_w4_w9 : w4 ≠ w9) (ne_w5_w7 : w5 ≠ w7) (ne_w5_w8 : w5 ≠ w8) (ne_w5_w9 : w5 ≠ w9) (ne_w6_w7 : w6 ≠ w7) (ne_w6_w8 : w6 ≠ w8) (ne_w6_w9 : w6 ≠ w9) :
    MetFree l x (head1 (Jvm.Cond.code x code maxLocals ret :: ws) room_1) (fun a_ U => a_ = #[(.int p1)] ∧ Z.Warmed39 U.vm ∧ U.heap = h0) (fun _ _ _ _ _ => True) (fun _ U o U' => ∃ v L, o = .returned v ∧ Q_lawj Z p1 w0 w1 w2 w3 w4 w5 w6 w7 w8 w9 h0 n0 v U'.heap L ∧ FrameEnd U o U' L room_1.cells room_1.slots) := by
  obtain ⟨⟨hlo, hhi⟩, hi⟩ := own_idx p1
  rcases hi with hi | hi | hi | hi | hi | hi | hi | hi | hi | hi
  · exact rm_law_x l Z a0 hw ws p1 w0 w1 w2 w3 w4 w5 w6 w7 w8 w9 w0 h0 n0 Z0 S_INT S_INTEGER S_DECIMAL S_NUMERIC S_REAL S_VARCHAR S_TEXT S_BIGINT S_DOUBLE_PRECISION S_BOOLEAN E_w0 E_w1 E_w2 E_w3 E_w4 E_w5 E_w6 E_w7 E_w8 E_w9 E_w0 hlo hhi (by rw [hi]; rfl) (by rw [if_neg (fun q => q.elim ne_w0_w7 (fun q => q.elim ne_w0_w8 ne_w0_w9))]) (by rw [hi]; decide) (by rw [hi]; decide) (by rw [hi]; decide)
  · exact rm_law_x l Z a0 hw ws p1 w0 w1 w2 w3 w4 w5 w6 w7 w8 w9 w1 h0 n0 Z0 S_INT S_INTEGER S_DECIMAL S_NUMERIC S_REAL S_VARCHAR S_TEXT S_BIGINT S_DOUBLE_PRECISION S_BOOLEAN E_w0 E_w1 E_w2 E_w3 E_w4 E_w5 E_w6 E_w7 E_w8 E_w9 E_w1 hlo hhi (by rw [hi]; rfl) (by rw [if_neg (fun q => q.elim ne_w1_w7 (fun q => q.elim ne_w1_w8 ne_w1_w9))]) (by rw [hi]; decide) (by rw [hi]; decide) (by rw [hi]; decide)
  · exact rm_law_x l Z a0 hw ws p1 w0 w1 w2 w3 w4 w5 w6 w7 w8 w9 w2 h0 n0 Z0 S_INT S_INTEGER S_DECIMAL S_NUMERIC S_REAL S_VARCHAR S_TEXT S_BIGINT S_DOUBLE_PRECISION S_BOOLEAN E_w0 E_w1 E_w2 E_w3 E_w4 E_w5 E_w6 E_w7 E_w8 E_w9 E_w2 hlo hhi (by rw [hi]; rfl) (by rw [if_neg (fun q => q.elim ne_w2_w7 (fun q => q.elim ne_w2_w8 ne_w2_w9))]) (by rw [hi]; decide) (by rw [hi]; decide) (by rw [hi]; decide)
  · exact rm_law_x l Z a0 hw ws p1 w0 w1 w2 w3 w4 w5 w6 w7 w8 w9 w3 h0 n0 Z0 S_INT S_INTEGER S_DECIMAL S_NUMERIC S_REAL S_VARCHAR S_TEXT S_BIGINT S_DOUBLE_PRECISION S_BOOLEAN E_w0 E_w1 E_w2 E_w3 E_w4 E_w5 E_w6 E_w7 E_w8 E_w9 E_w3 hlo hhi (by rw [hi]; rfl) (by rw [if_neg (fun q => q.elim ne_w3_w7 (fun q => q.elim ne_w3_w8 ne_w3_w9))]) (by rw [hi]; decide) (by rw [hi]; decide) (by rw [hi]; decide)
  · exact rm_law_x l Z a0 hw ws p1 w0 w1 w2 w3 w4 w5 w6 w7 w8 w9 w4 h0 n0 Z0 S_INT S_INTEGER S_DECIMAL S_NUMERIC S_REAL S_VARCHAR S_TEXT S_BIGINT S_DOUBLE_PRECISION S_BOOLEAN E_w0 E_w1 E_w2 E_w3 E_w4 E_w5 E_w6 E_w7 E_w8 E_w9 E_w4 hlo hhi (by rw [hi]; rfl) (by rw [if_neg (fun q => q.elim ne_w4_w7 (fun q => q.elim ne_w4_w8 ne_w4_w9))]) (by rw [hi]; decide) (by rw [hi]; decide) (by rw [hi]; decide)
  · exact rm_law_x l Z a0 hw ws p1 w0 w1 w2 w3 w4 w5 w6 w7 w8 w9 w5 h0 n0 Z0 S_INT S_INTEGER S_DECIMAL S_NUMERIC S_REAL S_VARCHAR S_TEXT S_BIGINT S_DOUBLE_PRECISION S_BOOLEAN E_w0 E_w1 E_w2 E_w3 E_w4 E_w5 E_w6 E_w7 E_w8 E_w9 E_w5 hlo hhi (by rw [hi]; rfl) (by rw [if_neg (fun q => q.elim ne_w5_w7 (fun q => q.elim ne_w5_w8 ne_w5_w9))]) (by rw [hi]; decide) (by rw [hi]; decide) (by rw [hi]; decide)
  · exact rm_law_x l Z a0 hw ws p1 w0 w1 w2 w3 w4 w5 w6 w7 w8 w9 w6 h0 n0 Z0 S_INT S_INTEGER S_DECIMAL S_NUMERIC S_REAL S_VARCHAR S_TEXT S_BIGINT S_DOUBLE_PRECISION S_BOOLEAN E_w0 E_w1 E_w2 E_w3 E_w4 E_w5 E_w6 E_w7 E_w8 E_w9 E_w6 hlo hhi (by rw [hi]; rfl) (by rw [if_neg (fun q => q.elim ne_w6_w7 (fun q => q.elim ne_w6_w8 ne_w6_w9))]) (by rw [hi]; decide) (by rw [hi]; decide) (by rw [hi]; decide)
  · exact rm_law_7 l Z a0 hw ws p1 w0 w1 w2 w3 w4 w5 w6 w7 w8 w9 w7 h0 n0 Z0 S_INT S_INTEGER S_DECIMAL S_NUMERIC S_REAL S_VARCHAR S_TEXT S_BIGINT S_DOUBLE_PRECISION S_BOOLEAN E_w0 E_w1 E_w2 E_w3 E_w4 E_w5 E_w6 E_w7 E_w8 E_w9 E_w7 hlo hhi (by rw [hi]; rfl) (by rw [if_pos (Or.inl rfl)])  hi
  · exact rm_law_8 l Z a0 hw ws p1 w0 w1 w2 w3 w4 w5 w6 w7 w8 w9 w8 h0 n0 Z0 S_INT S_INTEGER S_DECIMAL S_NUMERIC S_REAL S_VARCHAR S_TEXT S_BIGINT S_DOUBLE_PRECISION S_BOOLEAN E_w0 E_w1 E_w2 E_w3 E_w4 E_w5 E_w6 E_w7 E_w8 E_w9 E_w8 hlo hhi (by rw [hi]; rfl) (by rw [if_pos (Or.inr (Or.inl rfl))]) (by rw [hi]; decide) hi
  · exact rm_law_9 l Z a0 hw ws p1 w0 w1 w2 w3 w4 w5 w6 w7 w8 w9 w9 h0 n0 Z0 S_INT S_INTEGER S_DECIMAL S_NUMERIC S_REAL S_VARCHAR S_TEXT S_BIGINT S_DOUBLE_PRECISION S_BOOLEAN E_w0 E_w1 E_w2 E_w3 E_w4 E_w5 E_w6 E_w7 E_w8 E_w9 E_w9 hlo hhi (by rw [hi]; rfl) (by rw [if_pos (Or.inr (Or.inr rfl))]) (by rw [hi]; decide) (by rw [hi]; decide) hi
set_option maxRecDepth 65536 in
set_option maxHeartbeats 40000000 in
theorem comes_1 {Post : Tables → Env → Array Value → State → Outcome → State → Prop} (hpost : ∀ tb e args s v u, (limb_1_1.after args s (.returned v) u = true ∧ limb_1_2.after args s (.returned v) u = true ∧ True) → FrameEnd s (.returned v) u (Jvm.fieldLocs frame_1_writes args s ++ Jvm.arrayLocs frame_1_arrays args s ++ Jvm.staticLocs frame_1_statics s) 16 128 → Post tb e args s (.returned v) u) :
    ArmFor flags0 classFile x code maxLocals ret World_1 tables_1 room_1 Calls_1 rest_1 Pre_1 Post := by
  intro l hfl _ _ p e ha hc hk s m args below hf hA hF happ hP
  obtain ⟨hcalls, hrest, hpre⟩ := hP
  obtain ⟨-, -, -, hnamed, -, -, -, hat⟩ := (Spec.applies_iff hf).mp happ
  obtain ⟨hg, hn⟩ := and_e (Cond.before_iff.mp (show (Jvm.Cond.and given_1 narrow_1).before args s = true from hpre))
  obtain ⟨gc, ga0⟩ := and_e hg
  have gi0 := ga0
  obtain ⟨w0, rfl⟩ : ∃ w0 : Value, args = #[w0] := by
    have hs : args.size = 1 := by simpa [Cond.value, given_1] using gc
    obtain ⟨L⟩ := args
    match L, hs with
    | [w0], _ => exact ⟨w0, rfl⟩
  have hw := fun d (hd : d ∈ tables_1) => atoms_spec (ws := Jvm.Cond.code x code maxLocals ret :: tables_1) hat d (List.mem_cons_of_mem _ hd)
  have hfit : Fit s := fun {y c} hc i hi => by
    obtain ⟨ha, rfl⟩ := Array.getElem?_eq_some_iff.mp hc
    have q := List.all_eq_true.mp ((Array.all_eq_true_iff_forall_mem.mp hF) _ (Array.getElem_mem ha)) i (List.mem_range.mpr hi)
    simpa [Array.getElem?_eq_getElem hi] using q
  obtain ⟨i0, ei0⟩ := is_v gi0
  obtain rfl : w0 = (.int i0) := Option.some.inj ei0
  obtain ⟨m0, r0⟩ := and_e hn
  obtain ⟨m1, r1⟩ := and_e r0
  obtain ⟨m2, r2⟩ := and_e r1
  obtain ⟨m3, r3⟩ := and_e r2
  obtain ⟨m4, r4⟩ := and_e r3
  obtain ⟨m5, r5⟩ := and_e r4
  obtain ⟨m6, r6⟩ := and_e r5
  obtain ⟨m7, r7⟩ := and_e r6
  obtain ⟨m8, r8⟩ := and_e r7
  obtain ⟨m9, r9⟩ := and_e r8
  obtain ⟨m10, r10⟩ := and_e r9
  obtain ⟨m11, r11⟩ := and_e r10
  obtain ⟨m12, r12⟩ := and_e r11
  obtain ⟨m13, r13⟩ := and_e r12
  obtain ⟨m14, r14⟩ := and_e r13
  obtain ⟨m15, r15⟩ := and_e r14
  obtain ⟨m16, r16⟩ := and_e r15
  obtain ⟨m17, r17⟩ := and_e r16
  obtain ⟨m18, r18⟩ := and_e r17
  have m19 := r18
  obtain ⟨w_INT, ev_INT, S_INT, E_INT⟩ := own_pin m0 (hw _ (List.mem_of_getElem? (i := 4) rfl)) (hw _ (List.mem_of_getElem? (i := 5) rfl))
  obtain ⟨w_INTEGER, ev_INTEGER, S_INTEGER, E_INTEGER⟩ := own_pin m1 (hw _ (List.mem_of_getElem? (i := 4) rfl)) (hw _ (List.mem_of_getElem? (i := 8) rfl))
  obtain ⟨w_DECIMAL, ev_DECIMAL, S_DECIMAL, E_DECIMAL⟩ := own_pin m2 (hw _ (List.mem_of_getElem? (i := 4) rfl)) (hw _ (List.mem_of_getElem? (i := 10) rfl))
  obtain ⟨w_NUMERIC, ev_NUMERIC, S_NUMERIC, E_NUMERIC⟩ := own_pin m3 (hw _ (List.mem_of_getElem? (i := 4) rfl)) (hw _ (List.mem_of_getElem? (i := 12) rfl))
  obtain ⟨w_REAL, ev_REAL, S_REAL, E_REAL⟩ := own_pin m4 (hw _ (List.mem_of_getElem? (i := 4) rfl)) (hw _ (List.mem_of_getElem? (i := 14) rfl))
  obtain ⟨w_VARCHAR, ev_VARCHAR, S_VARCHAR, E_VARCHAR⟩ := own_pin m5 (hw _ (List.mem_of_getElem? (i := 4) rfl)) (hw _ (List.mem_of_getElem? (i := 16) rfl))
  obtain ⟨w_TEXT, ev_TEXT, S_TEXT, E_TEXT⟩ := own_pin m6 (hw _ (List.mem_of_getElem? (i := 4) rfl)) (hw _ (List.mem_of_getElem? (i := 18) rfl))
  obtain ⟨w_BIGINT, ev_BIGINT, S_BIGINT, E_BIGINT⟩ := own_pin m7 (hw _ (List.mem_of_getElem? (i := 4) rfl)) (hw _ (List.mem_of_getElem? (i := 20) rfl))
  obtain ⟨w_DOUBLE_PRECISION, ev_DOUBLE_PRECISION, S_DOUBLE_PRECISION, E_DOUBLE_PRECISION⟩ := own_pin m8 (hw _ (List.mem_of_getElem? (i := 4) rfl)) (hw _ (List.mem_of_getElem? (i := 22) rfl))
  obtain ⟨w_BOOLEAN, ev_BOOLEAN, S_BOOLEAN, E_BOOLEAN⟩ := own_pin m9 (hw _ (List.mem_of_getElem? (i := 4) rfl)) (hw _ (List.mem_of_getElem? (i := 24) rfl))
  have o_INT_ordinal := own_fld ev_INT m10
  have o_BIGINT_ordinal := own_fld ev_BIGINT m11
  have o_DOUBLE_PRECISION_ordinal := own_fld ev_DOUBLE_PRECISION m12
  have o_BOOLEAN_ordinal := own_fld ev_BOOLEAN m13
  have o_NUMERIC_ordinal := own_fld ev_NUMERIC m14
  have o_INTEGER_ordinal := own_fld ev_INTEGER m15
  have o_REAL_ordinal := own_fld ev_REAL m16
  have o_DECIMAL_ordinal := own_fld ev_DECIMAL m17
  have o_VARCHAR_ordinal := own_fld ev_VARCHAR m18
  have o_TEXT_ordinal := own_fld ev_TEXT m19
  obtain ⟨n, o, h1, h2, h3, _, L, rfl, ⟨rfl, N⟩, hq⟩ := rm_lawj l s _ hw tables_1 i0 w_INT w_INTEGER w_DECIMAL w_NUMERIC w_REAL w_VARCHAR w_TEXT w_BIGINT w_DOUBLE_PRECISION w_BOOLEAN s.heap s.heap.size (Nat.le_refl _) S_INT S_INTEGER S_DECIMAL S_NUMERIC S_REAL S_VARCHAR S_TEXT S_BIGINT S_DOUBLE_PRECISION S_BOOLEAN E_INT E_INTEGER E_DECIMAL E_NUMERIC E_REAL E_VARCHAR E_TEXT E_BIGINT E_DOUBLE_PRECISION E_BOOLEAN (own_ne o_INT_ordinal o_BIGINT_ordinal (by decide)) (own_ne o_INT_ordinal o_DOUBLE_PRECISION_ordinal (by decide)) (own_ne o_INT_ordinal o_BOOLEAN_ordinal (by decide)) (own_ne o_INTEGER_ordinal o_BIGINT_ordinal (by decide)) (own_ne o_INTEGER_ordinal o_DOUBLE_PRECISION_ordinal (by decide)) (own_ne o_INTEGER_ordinal o_BOOLEAN_ordinal (by decide)) (own_ne o_DECIMAL_ordinal o_BIGINT_ordinal (by decide)) (own_ne o_DECIMAL_ordinal o_DOUBLE_PRECISION_ordinal (by decide)) (own_ne o_DECIMAL_ordinal o_BOOLEAN_ordinal (by decide)) (own_ne o_NUMERIC_ordinal o_BIGINT_ordinal (by decide)) (own_ne o_NUMERIC_ordinal o_DOUBLE_PRECISION_ordinal (by decide)) (own_ne o_NUMERIC_ordinal o_BOOLEAN_ordinal (by decide)) (own_ne o_REAL_ordinal o_BIGINT_ordinal (by decide)) (own_ne o_REAL_ordinal o_DOUBLE_PRECISION_ordinal (by decide)) (own_ne o_REAL_ordinal o_BOOLEAN_ordinal (by decide)) (own_ne o_VARCHAR_ordinal o_BIGINT_ordinal (by decide)) (own_ne o_VARCHAR_ordinal o_DOUBLE_PRECISION_ordinal (by decide)) (own_ne o_VARCHAR_ordinal o_BOOLEAN_ordinal (by decide)) (own_ne o_TEXT_ordinal o_BIGINT_ordinal (by decide)) (own_ne o_TEXT_ordinal o_DOUBLE_PRECISION_ordinal (by decide)) (own_ne o_TEXT_ordinal o_BOOLEAN_ordinal (by decide)) p e ha hc hk s m _ below hf ((Spec.applies_iff_loose hf).mp happ).1 ⟨rfl, State.Warmed39.refl s, rfl⟩ trivial
  refine ⟨n, _, h1, h2, h3, hpost _ _ _ _ _ _ ⟨Cond.after_iff.mpr rfl, Cond.after_iff.mpr (eq_i res_at (Term.int_eval (1)) rfl), trivial⟩ ⟨hq.1, hq.2.1, (hq.2.2.sift fun y hy => Or.inr (N y hy)).mono (by decide) (by decide)⟩⟩
theorem main_1_1 : Claimed_1_1 := comes_1 fun _ _ _ _ _ _ h hF => ⟨h.1, hF⟩
theorem main_1_2 : Claimed_1_2 := comes_1 fun _ _ _ _ _ _ h hF => ⟨h.2.1, hF⟩
end Jvm.Pilot.@@N@@
namespace Jvm.Pilot.@@N@@
open Jvm Jvm.ClassFile Sem Op Lib Jvm.Free Jvm.Stand Jvm.Pilot.@@N@@.Jvm.D
/-! MADE BY PROGRAM (witnessworld.py) out of the Statement's table words and the real class files: 13 classes; the members and pool entries that the words name. The judged class is class 1, her method 1. -/
namespace start1
open Jvm.ClassFile
def u (s : String) : CpInfo := .utf8 (stringToUtf16 s)
/-- a pool by its gaps: so many unusable entries, then the entry; so many at the end -/
def gap : Nat → List CpInfo → List CpInfo
  | 0, r => r
  | n + 1, r => .unusable :: gap n r
def poolList (es : List (Nat × CpInfo)) (last : Nat) : List CpInfo := es.foldr (fun e r => gap e.1 (e.2 :: r)) (gap last [])
def pool (es : List (Nat × CpInfo)) (last : Nat) : Array CpInfo := ⟨poolList es last⟩
def fileOf (pool : Array CpInfo) (this : Nat) (attrs : Array Attribute := #[]) (ms : Array MethodInfo := #[]) (fl : Nat := 33) (sup : Nat := 0) (ifs : Array Nat := #[]) (fds : Array FieldInfo := #[]) : ClassFile where
  minorVersion := 0
  majorVersion := 65
  constantPool := pool
  accessFlags := fl
  thisClass := this
  superClass := sup
  interfaces := ifs
  fields := fds
  methods := ms
  attributes := attrs
def plain (name : String) (sup : Option ClassId) : Class where
  name := name
  kind := .ordinary
  loader := none
  accessFlags := 33
  super := sup
  interfaces := #[]
  cf := none
  fields := #[]
  methods := #[]
  instanceTypes := #[]
  staticTypes := #[]
  resolved := #[]
  callSites := []
  init := .initialized
  statics := none
  mirror := none

def pool0 : Array CpInfo := pool [(5, u "<init>"), (0, u "()V"), (1, .class_ 10), (1, u "java/lang/Object")] 113

def k0m0 : Method := { name := "<init>", desc := "()V", sig := { parameters := [], returnType := none }, accessFlags := 1, code := none }
/-- java/lang/Object -/
def k0 : Class := { plain "java/lang/Object" none with
  accessFlags := 33
  interfaces := #[]
  cf := some (fileOf pool0 8 #[] #[{ accessFlags := 1, nameIndex := 5, descriptorIndex := 6, attributes := #[] }] 33 0 #[] #[])
  fields := #[]
  methods := #[k0m0]
  instanceTypes := #[]
  staticTypes := #[]
  resolved := Array.replicate 124 none
  statics := none }

def pool1 : Array CpInfo := pool [(2, .class_ 4), (1, u "java/lang/Object"), (0, u "<init>"), (0, u "()V"), (0, .integer 2147483647), (0, .class_ 9), (0, u "com/example/castwise/castwise/core/DeclaredType$Name"), (0, .fieldref 8 11), (0, .nameAndType 12 13), (0, u "INT"), (0, u "Lcom/example/castwise/castwise/core/DeclaredType$Name;"), (0, .fieldref 8 15), (0, .nameAndType 16 13), (0, u "INTEGER"), (0, .fieldref 8 18), (0, .nameAndType 19 13), (0, u "DECIMAL"), (0, .fieldref 8 21), (0, .nameAndType 22 13), (0, u "NUMERIC"), (0, .fieldref 8 24), (0, .nameAndType 25 13), (0, u "REAL"), (0, .fieldref 8 27), (0, .nameAndType 28 13), (0, u "VARCHAR"), (0, .fieldref 8 30), (0, .nameAndType 31 13), (0, u "TEXT"), (0, .fieldref 8 33), (0, .nameAndType 34 13), (0, u "BIGINT"), (0, .fieldref 8 36), (0, .nameAndType 37 13), (0, u "DOUBLE_PRECISION"), (0, .fieldref 8 39), (0, .nameAndType 40 13), (0, u "BOOLEAN"), (0, .methodref 8 42), (0, .nameAndType 43 44), (0, u "isCastOnly"), (0, u "()Z"), (0, .class_ 46), (0, u "com/example/castwise/castwise/core/NameIsCastOnlyPinLaw"), (2, u "law"), (0, u "(I)Z")] 9

def k1m0 : Method := { name := "<init>", desc := "()V", sig := { parameters := [], returnType := none }, accessFlags := 1, code := none }
def k1c1 : Code := { maxStack := 4, maxLocals := 5, code := code, exceptionTable := #[], attributes := #[] }
def k1m1 : Method := { name := "law", desc := "(I)Z", sig := { parameters := [.int], returnType := some .boolean }, accessFlags := 9, code := some k1c1 }
/-- com/example/castwise/castwise/core/NameIsCastOnlyPinLaw -/
def k1 : Class := { plain "com/example/castwise/castwise/core/NameIsCastOnlyPinLaw" (some 0) with
  accessFlags := 49
  interfaces := #[]
  cf := some (fileOf pool1 45 #[] #[{ accessFlags := 1, nameIndex := 5, descriptorIndex := 6, attributes := #[] }, { accessFlags := 9, nameIndex := 49, descriptorIndex := 50, attributes := #[] }] 49 2 #[] #[])
  fields := #[]
  methods := #[k1m0, k1m1]
  instanceTypes := #[]
  staticTypes := #[]
  resolved := Array.replicate 60 none
  statics := none }

def pool2 : Array CpInfo := pool [(1, .class_ 2), (0, u "java/lang/constant/Constable"), (0, .class_ 4), (0, u "java/lang/Object")] 6

/-- java/lang/constant/Constable -/
def k2 : Class := { plain "java/lang/constant/Constable" (some 0) with
  accessFlags := 1537
  interfaces := #[]
  cf := some (fileOf pool2 1 #[] #[] 1537 3 #[] #[])
  fields := #[]
  methods := #[]
  instanceTypes := #[]
  staticTypes := #[]
  resolved := Array.replicate 11 none
  statics := none }

def pool3 : Array CpInfo := pool [(1, .class_ 2), (0, u "java/lang/Comparable"), (0, .class_ 4), (0, u "java/lang/Object")] 7

/-- java/lang/Comparable -/
def k3 : Class := { plain "java/lang/Comparable" (some 0) with
  accessFlags := 1537
  interfaces := #[]
  cf := some (fileOf pool3 1 #[] #[] 1537 3 #[] #[])
  fields := #[]
  methods := #[]
  instanceTypes := #[]
  staticTypes := #[]
  resolved := Array.replicate 12 none
  statics := none }

def pool4 : Array CpInfo := pool [(1, .class_ 2), (0, u "java/io/Serializable"), (0, .class_ 4), (0, u "java/lang/Object")] 2

/-- java/io/Serializable -/
def k4 : Class := { plain "java/io/Serializable" (some 0) with
  accessFlags := 1537
  interfaces := #[]
  cf := some (fileOf pool4 1 #[] #[] 1537 3 #[] #[])
  fields := #[]
  methods := #[]
  instanceTypes := #[]
  staticTypes := #[]
  resolved := Array.replicate 7 none
  statics := none }

def pool5 : Array CpInfo := pool [(2, .class_ 4), (1, u "java/lang/Enum"), (0, u "name"), (0, u "Ljava/lang/String;"), (2, u "ordinal"), (0, u "I"), (1, .class_ 14), (1, u "java/lang/Object"), (4, u "hash"), (86, .class_ 108), (1, u "java/lang/Enum$EnumDesc"), (2, .class_ 112), (0, u "java/lang/constant/Constable"), (0, .class_ 114), (0, u "java/lang/Comparable"), (0, .class_ 116), (0, u "java/io/Serializable")] 87

/-- java/lang/Enum -/
def k5 : Class := { plain "java/lang/Enum" (some 0) with
  accessFlags := 1057
  interfaces := #[2, 3, 4]
  cf := some (fileOf pool5 2 #[.nestMembers #[106]] #[] 1057 12 #[111, 113, 115] #[{ accessFlags := 18, nameIndex := 5, descriptorIndex := 6, attributes := #[] }, { accessFlags := 18, nameIndex := 9, descriptorIndex := 10, attributes := #[] }, { accessFlags := 2, nameIndex := 19, descriptorIndex := 10, attributes := #[] }])
  fields := #[{ name := "name", type := (.object "java/lang/String"), accessFlags := 18, slot := 0, constantValue := 0 }, { name := "ordinal", type := .int, accessFlags := 18, slot := 1, constantValue := 0 }, { name := "hash", type := .int, accessFlags := 2, slot := 2, constantValue := 0 }]
  methods := #[]
  instanceTypes := #[(.object "java/lang/String"), .int, .int]
  staticTypes := #[]
  resolved := Array.replicate 204 none
  statics := none }

def pool6 : Array CpInfo := pool [(1, .class_ 2), (0, u "com/example/castwise/castwise/core/DeclaredType$Name"), (2, u "INT"), (0, u "Lcom/example/castwise/castwise/core/DeclaredType$Name;"), (2, u "INTEGER"), (2, u "DECIMAL"), (2, u "NUMERIC"), (2, u "REAL"), (2, u "VARCHAR"), (2, u "TEXT"), (0, .fieldref 1 26), (0, .nameAndType 27 6), (0, u "BIGINT"), (0, .fieldref 1 29), (0, .nameAndType 30 6), (0, u "DOUBLE_PRECISION"), (0, .fieldref 1 32), (0, .nameAndType 33 6), (0, u "BOOLEAN"), (2, u "$VALUES"), (0, u "[Lcom/example/castwise/castwise/core/DeclaredType$Name;"), (6, .class_ 46), (1, u "java/lang/Enum"), (8, u "sql"), (0, u "Ljava/lang/String;"), (27, u "isCastOnly"), (0, u "()Z"), (7, .class_ 94), (0, u "com/example/castwise/castwise/core/DeclaredType")] 2

def k6c0 : Code := { maxStack := 2, maxLocals := 1, code := prog_50_method_5_code, exceptionTable := #[], attributes := #[] }
def k6m0 : Method := { name := "isCastOnly", desc := "()Z", sig := { parameters := [], returnType := some .boolean }, accessFlags := 1, code := some k6c0 }
/-- com/example/castwise/castwise/core/DeclaredType$Name -/
def k6 : Class := { plain "com/example/castwise/castwise/core/DeclaredType$Name" (some 5) with
  accessFlags := 16433
  interfaces := #[]
  cf := some (fileOf pool6 1 #[.nestHost 93] #[{ accessFlags := 1, nameIndex := 84, descriptorIndex := 85, attributes := #[] }] 16433 44 #[] #[{ accessFlags := 16409, nameIndex := 5, descriptorIndex := 6, attributes := #[] }, { accessFlags := 16409, nameIndex := 9, descriptorIndex := 6, attributes := #[] }, { accessFlags := 16409, nameIndex := 12, descriptorIndex := 6, attributes := #[] }, { accessFlags := 16409, nameIndex := 15, descriptorIndex := 6, attributes := #[] }, { accessFlags := 16409, nameIndex := 18, descriptorIndex := 6, attributes := #[] }, { accessFlags := 16409, nameIndex := 21, descriptorIndex := 6, attributes := #[] }, { accessFlags := 16409, nameIndex := 24, descriptorIndex := 6, attributes := #[] }, { accessFlags := 16409, nameIndex := 27, descriptorIndex := 6, attributes := #[] }, { accessFlags := 16409, nameIndex := 30, descriptorIndex := 6, attributes := #[] }, { accessFlags := 16409, nameIndex := 33, descriptorIndex := 6, attributes := #[] }, { accessFlags := 18, nameIndex := 55, descriptorIndex := 56, attributes := #[] }, { accessFlags := 4122, nameIndex := 36, descriptorIndex := 37, attributes := #[] }])
  fields := #[{ name := "INT", type := (.object "com/example/castwise/castwise/core/DeclaredType$Name"), accessFlags := 16409, slot := 0, constantValue := 0 }, { name := "INTEGER", type := (.object "com/example/castwise/castwise/core/DeclaredType$Name"), accessFlags := 16409, slot := 1, constantValue := 0 }, { name := "DECIMAL", type := (.object "com/example/castwise/castwise/core/DeclaredType$Name"), accessFlags := 16409, slot := 2, constantValue := 0 }, { name := "NUMERIC", type := (.object "com/example/castwise/castwise/core/DeclaredType$Name"), accessFlags := 16409, slot := 3, constantValue := 0 }, { name := "REAL", type := (.object "com/example/castwise/castwise/core/DeclaredType$Name"), accessFlags := 16409, slot := 4, constantValue := 0 }, { name := "VARCHAR", type := (.object "com/example/castwise/castwise/core/DeclaredType$Name"), accessFlags := 16409, slot := 5, constantValue := 0 }, { name := "TEXT", type := (.object "com/example/castwise/castwise/core/DeclaredType$Name"), accessFlags := 16409, slot := 6, constantValue := 0 }, { name := "BIGINT", type := (.object "com/example/castwise/castwise/core/DeclaredType$Name"), accessFlags := 16409, slot := 7, constantValue := 0 }, { name := "DOUBLE_PRECISION", type := (.object "com/example/castwise/castwise/core/DeclaredType$Name"), accessFlags := 16409, slot := 8, constantValue := 0 }, { name := "BOOLEAN", type := (.object "com/example/castwise/castwise/core/DeclaredType$Name"), accessFlags := 16409, slot := 9, constantValue := 0 }, { name := "sql", type := (.object "java/lang/String"), accessFlags := 18, slot := 3, constantValue := 0 }, { name := "$VALUES", type := (.array (.object "com/example/castwise/castwise/core/DeclaredType$Name")), accessFlags := 4122, slot := 10, constantValue := 0 }]
  methods := #[k6m0]
  instanceTypes := #[(.object "java/lang/String"), .int, .int, (.object "java/lang/String")]
  staticTypes := #[(.object "com/example/castwise/castwise/core/DeclaredType$Name"), (.object "com/example/castwise/castwise/core/DeclaredType$Name"), (.object "com/example/castwise/castwise/core/DeclaredType$Name"), (.object "com/example/castwise/castwise/core/DeclaredType$Name"), (.object "com/example/castwise/castwise/core/DeclaredType$Name"), (.object "com/example/castwise/castwise/core/DeclaredType$Name"), (.object "com/example/castwise/castwise/core/DeclaredType$Name"), (.object "com/example/castwise/castwise/core/DeclaredType$Name"), (.object "com/example/castwise/castwise/core/DeclaredType$Name"), (.object "com/example/castwise/castwise/core/DeclaredType$Name"), (.array (.object "com/example/castwise/castwise/core/DeclaredType$Name"))]
  resolved := Array.replicate 97 none
  statics := some 0 }

def pool7 : Array CpInfo := pool [(1, u "java/lang/Cloneable"), (0, .class_ 1), (0, u "java/lang/Object"), (0, .class_ 3)] 3

/-- java/lang/Cloneable -/
def k7 : Class := { plain "java/lang/Cloneable" (some 0) with
  accessFlags := 1537
  interfaces := #[]
  cf := some (fileOf pool7 2 #[] #[] 1537 4 #[] #[])
  fields := #[]
  methods := #[]
  instanceTypes := #[]
  staticTypes := #[]
  resolved := Array.replicate 8 none
  statics := none }

/-- the primitive byte -/
def k8 : Class := { plain "byte" none with kind := .primitive 'B', accessFlags := 0x411 }
/-- [B -/
def k9 : Class := { plain "[B" (some 0) with kind := .array 8 .byte, interfaces := #[7, 4], accessFlags := 1041 }

/-- the primitive int -/
def k10 : Class := { plain "int" none with kind := .primitive 'I', accessFlags := 0x411 }
/-- [I -/
def k11 : Class := { plain "[I" (some 0) with kind := .array 10 .int, interfaces := #[7, 4], accessFlags := 1041 }

/-- [Lcom/example/castwise/castwise/core/DeclaredType$Name; -/
def k12 : Class := { plain "[Lcom/example/castwise/castwise/core/DeclaredType$Name;" (some 0) with kind := .array 6 (.object "com/example/castwise/castwise/core/DeclaredType$Name"), interfaces := #[7, 4], accessFlags := 1041 }

def heap : Heap := #[{ cls := 6, slots := #[.ref 1, .ref 2, .ref 3, .ref 4, .ref 5, .ref 6, .ref 7, .ref 8, .ref 9, .ref 10, .null], vm := .statics 6 },
  { cls := 6, slots := #[.null, .int 0, .int 0, .null], vm := .none },
  { cls := 6, slots := #[.null, .int 1, .int 0, .null], vm := .none },
  { cls := 6, slots := #[.null, .int 2, .int 0, .null], vm := .none },
  { cls := 6, slots := #[.null, .int 3, .int 0, .null], vm := .none },
  { cls := 6, slots := #[.null, .int 4, .int 0, .null], vm := .none },
  { cls := 6, slots := #[.null, .int 5, .int 0, .null], vm := .none },
  { cls := 6, slots := #[.null, .int 6, .int 0, .null], vm := .none },
  { cls := 6, slots := #[.null, .int 7, .int 0, .null], vm := .none },
  { cls := 6, slots := #[.null, .int 8, .int 0, .null], vm := .none },
  { cls := 6, slots := #[.null, .int 9, .int 0, .null], vm := .none }]
def classes : Array Class := #[k0, k1, k2, k3, k4, k5, k6, k7, k8, k9, k10, k11, k12]
def interned : List (Array UInt16 × Addr) := []
def slotsUsed : Nat := 51
def theMethod : MethodId := ⟨1, 1⟩
def args0 : Array Value := #[.int 5]
def aboutOver (below : List Frame) : State where
  vm := { classes := classes, interned := interned.toArray }
  heap := heap
  slotsUsed := slotsUsed
  threads := #[{ frames := .invoking theMethod args0 :: below }]
def below0 : List Frame := [.native { method := ⟨0, 0⟩, args := #[] }]
def about1 : State := aboutOver below0
def p0 : Program := .bare "" "" ""
def e0 : Env := launch0.env 0 0 0
theorem w_frames : about1.frames = Frame.invoking theMethod args0 :: below0 := rfl
set_option maxRecDepth 65536 in
theorem w_args : argsFit about1.vm theMethod args0 = true := by decide +kernel
set_option maxRecDepth 65536 in
theorem w_heap : heapFits about1 = true := by decide +kernel
set_option maxRecDepth 65536 in
theorem w_runnable : about1.curStatus? = some .runnable := by decide +kernel
set_option maxRecDepth 65536 in
theorem w_alone : about1.alone = true := by decide +kernel
set_option maxRecDepth 65536 in
theorem w_named : about1.methodNamed? x = some theMethod := by decide +kernel
set_option maxRecDepth 65536 in
theorem w_hears : about1.hears theMethod below0 = true := by decide +kernel
set_option maxRecDepth 65536 in
theorem w_ripe : about1.ripe theMethod args0 below0 = true := by decide +kernel
theorem w_running : about1.status = .running := rfl
set_option maxRecDepth 65536 in
theorem w_room : about1.hasRoom e0.platform room_1 = true :=
  launch0.hasRoom_least _ room_1 (by decide +kernel) (by decide +kernel) (by decide +kernel) (by decide +kernel) (by decide +kernel) (by decide +kernel)
theorem allAtoms_all (ts : List Jvm.Cond) (a : Array Jvm.Value) (st : Jvm.State) : (allAtoms ts).before a st = ts.all (fun c => c.before a st) := by
  induction ts with
  | nil => rfl
  | cons c t ih =>
    show (Jvm.Cond.and c (allAtoms t)).before a st = _
    rw [Jvm.Cond.before_and, ih, List.all_cons]
def words1 : List Jvm.Cond := Jvm.Cond.code x code maxLocals ret :: tables_1
/-- a 'code' word, met by the world's own term for the bytes: nothing is compared byte by byte -/
theorem code_word {y : MethodName} {bytes : ByteArray} {mx : Nat} {rt : Option FieldType} {a : Array Value} {s : State} {m : MethodId} {meth : Method} {c : Code} (h1 : s.methodNamed? y = some m) (h2 : s.vm.method? m = some meth) (h3 : meth.code = some c) (h4 : c.code = bytes)
    (h5 : (c.maxLocals == mx && c.exceptionTable.isEmpty && decide (c.maxStack ≤ mostOperands) && decide (meth.sig.returnType = rt) && !meth.locks && decide (parseMethodDescriptor y.desc = some meth.sig)) = true) : (Jvm.Cond.code y bytes mx rt).before a s = true := by
  simp only [Bool.and_eq_true, beq_iff_eq, Bool.not_eq_true', decide_eq_true_eq] at h5
  obtain ⟨⟨⟨⟨⟨g1, g2⟩, g3⟩, g4⟩, g5⟩, g6⟩ := h5
  simp [Cond.before, Cond.holds, Cond.value, h1, h2, h3, h4, g1, g2, g3, g4, g5, g6]
def isCode : Jvm.Cond → Bool
  | .code _ _ _ _ => true
  | _ => false
theorem all_split {L : List Jvm.Cond} {P : Jvm.Cond → Bool} (h1 : L.all (fun c => isCode c || P c) = true) (h2 : ∀ c ∈ L.filter isCode, P c = true) : L.all P = true := by
  refine List.all_eq_true.mpr fun c hc => ?_
  have h := List.all_eq_true.mp h1 c hc
  rcases Bool.eq_false_or_eq_true (isCode c) with hi | hi
  · exact h2 c (List.mem_filter.mpr ⟨hc, hi⟩)
  · simpa [hi] using h
set_option maxRecDepth 65536 in
theorem w_c0 : (Jvm.Cond.code x code maxLocals ret).before args0 about1 = true := code_word (m := ⟨1, 1⟩) (meth := k1m1) (c := k1c1) (by decide +kernel) rfl rfl rfl (by decide +kernel)
set_option maxRecDepth 65536 in
theorem w_c1 : (Jvm.Cond.code ({ cls := "com/example/castwise/castwise/core/DeclaredType$Name", name := "isCastOnly", desc := "()Z" } : Jvm.MethodName) prog_50_method_5_code (1 : Nat) (Option.some Jvm.ClassFile.FieldType.boolean)).before args0 about1 = true := code_word (m := ⟨6, 0⟩) (meth := k6m0) (c := k6c0) (by decide +kernel) rfl rfl rfl (by decide +kernel)
def codes1 : List Jvm.Cond := [Jvm.Cond.code x code maxLocals ret, Jvm.Cond.code ({ cls := "com/example/castwise/castwise/core/DeclaredType$Name", name := "isCastOnly", desc := "()Z" } : Jvm.MethodName) prog_50_method_5_code (1 : Nat) (Option.some Jvm.ClassFile.FieldType.boolean)]
set_option maxRecDepth 65536 in
theorem codes_eq : words1.filter isCode = codes1 := rfl
theorem w_codes : ∀ c ∈ words1.filter isCode, c.before args0 about1 = true := by
  rw [codes_eq]
  intro c hc
  simp only [codes1, List.mem_cons, List.not_mem_nil, or_false] at hc
  rcases hc with rfl | rfl
  · exact w_c0
  · exact w_c1
set_option maxRecDepth 65536 in
theorem w_t1 : (words1.take 24).all (fun c => isCode c || c.before args0 about1) = true := by decide +kernel
set_option maxRecDepth 65536 in
theorem w_t2 : (words1.drop 24).all (fun c => isCode c || c.before args0 about1) = true := by decide +kernel
theorem w_tables : (allAtoms (Jvm.Cond.code x code maxLocals ret :: tables_1)).before args0 about1 = true := by
  rw [allAtoms_all]
  show words1.all (fun c => c.before args0 about1) = true
  refine all_split ?_ w_codes
  rw [← List.take_append_drop 24 words1, List.all_append, w_t1, w_t2]
  rfl
set_option maxRecDepth 65536 in
theorem w_case : (Jvm.Cond.and given_1 narrow_1).before args0 about1 = true := by decide +kernel
theorem w_applies : (headSpec (Jvm.Cond.code x code maxLocals ret :: tables_1) room_1).applies x e0.platform about1 = true :=
  (Spec.applies_iff w_frames).mpr ⟨w_running, w_runnable, w_alone, w_named, w_hears, w_ripe, w_room, w_tables⟩
theorem atStart : AtStart classFile x code maxLocals ret World_1 tables_1 room_1 Calls_1 rest_1 Pre_1 launch0 p0 e0 about1 theMethod args0 below0 :=
  ⟨lists_1, trivial, launch0.admits_env _ _ _, launch0.least_env, fairChoices_fair.cas, fairChoices_fair.clock, w_frames, w_args, w_heap, w_applies, trivial, trivial, w_case⟩
end start1
theorem witness_1 : WitnessClaimed_1 := ⟨start1.p0, start1.e0, start1.about1, start1.theMethod, start1.args0, start1.below0, start1.atStart⟩
end Jvm.Pilot.@@N@@
